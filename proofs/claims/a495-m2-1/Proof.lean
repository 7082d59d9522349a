import JvmDerived
import JvmDerived.Pilot.@@N@@Statement
import JvmDerived.Pilot.@@N@@Code
set_option linter.unusedVariables false
set_option linter.unusedSimpArgs false
@@BLOCK:NumsL.lean.txt@@
namespace Jvm.Pilot.@@N@@
open Jvm Jvm.ClassFile Sem Op Lib Jvm.Free Jvm.Stand Jvm.LawKit Jvm.RoadKit Bundle Jvm.Pilot.@@N@@.Jvm.D
section Own
variable {p : Program} {l : Launch} {e : Env} {R : Room} {s : State} {m : MethodId} {args : Array Value} {below : List Frame} {meth : Method} {c : Code} {T : State} {locs : List Loc} {cells slots : Nat} {Z : State} {a0 : Array Value} {h : Heap}
/-- from the state A the run comes to the method's end, and Q says what it leaves -/
def OwnFin (p : Program) (e : Env) (below : List Frame) (s : State) (Q : Option Value → Heap → List Loc → Prop) (C S : Nat) (A : State) : Prop :=
  ∃ s₂ o, Steps p.tables e below A s₂ ∧ s₂.status = .running ∧ Ended s₂ below o ∧ ∃ v L, o = .returned v ∧ Q v s₂.heap L ∧ FrameEnd s o s₂ L C S
variable {Q : Option Value → Heap → List Loc → Prop} {C S : Nat}
theorem own_go {A B : State} (h : ∀ t, Steps p.tables e below B t → Steps p.tables e below A t) (k : OwnFin p e below s Q C S B) : OwnFin p e below s Q C S A := by
  obtain ⟨s₂, o, h1, r⟩ := k
  exact ⟨s₂, o, h _ h1, r⟩
theorem own_ret (X : Stand p l e R s m args below meth c T locs cells slots) {v : Option Value} (hlk : meth.locks = false) (hv : meth.sig.returnType = none → v = none) {g : JFrame}
    (hstep : ∀ fs, (∀ (f : JFrame) (acts : List Action), f.method = m → f.locked = none → f.entered = [] → (doReturn e (T.setTop f) acts v).1 = T.setFrames fs) → Steps p.tables e below (T.setTop g) (T.setFrames fs))
    (hc : cells ≤ C) (hs : slots ≤ S) (hQ : Q v T.heap locs) : OwnFin p e below s Q C S (T.setTop g) := by
  obtain ⟨fs, hr, hrun, hended, hW, hsame⟩ := X.leave hv hlk
  exact ⟨_, _, hstep fs hr, hrun, hended, _, _, rfl, hQ, ⟨_, rfl⟩, hW, hsame.mono hc hs⟩
/-- a method's contract, in the form that backOf takes -/
abbrev OwnCtr (l : Launch) (Z : State) (y : MethodName) (ws : List Jvm.Cond) (bytes : ByteArray) (maxL : Nat) (ret : Option FieldType) (rm : Room) (as' : Array Value) (h0 : Heap) (Q : Option Value → Heap → List Loc → Prop) : Prop :=
  MetFree l y (head1 (Jvm.Cond.code y bytes maxL ret :: ws) rm) (fun a U => a = as' ∧ Z.Warmed39 U.vm ∧ U.heap = h0) (fun _ _ _ _ _ => True) (fun _ U o U' => ∃ v L, o = .returned v ∧ Q v U'.heap L ∧ FrameEnd U o U' L rm.cells rm.slots)
theorem own_body {l : Launch} {Z : State} {y : MethodName} {ws : List Jvm.Cond} {bytes : ByteArray} {maxL : Nat} {ret : Option FieldType} {rm : Room} {as' : Array Value} {h0 : Heap} {g0 : MethodId → JFrame}
    (hpl : plainFor y = true) (hef : ∀ m, entryFrame m as' maxL = g0 m)
    (body : ∀ (p : Program) (e : Env) (s : State) (m : MethodId) (below : List Frame) (meth : Method) (c : Code) (s₁ : State), Stand p l e rm s m as' below meth c s₁ [] 0 0 → p.tables.exec = Jvm.exec → c.code = bytes → c.maxLocals = maxL →
      s.vm.findClass y.cls = some m.cls → meth.name = y.name → Z.Warmed39 s.vm → s₁.heap = h0 → meth.sig.returnType = ret → meth.locks = false → OwnFin p e below s Q rm.cells rm.slots (s₁.setTop (g0 m))) :
    OwnCtr l Z y ws bytes maxL ret rm as' h0 Q := by
  refine MetFree.of_bodySF hpl hisR ?_
  intro p e s m args below meth c s₁ Bd hml0 hP hK
  obtain ⟨rfl, hZ, hh⟩ := hP
  have e0 : s₁.heap = h0 := by rw [← hh, Bd.state]; rfl
  have k := body p e s m below meth c s₁ (Stand.of_body Bd) Bd.exec Bd.bytes hml0 (findClass_of_methodNamed Bd.named) (name_of_methodNamed Bd.named Bd.method).1 hZ e0 Bd.returns Bd.notSynchronized
  rw [← hef m] at k
  exact k
/-- a static call by its contract -/
theorem own_callS (X : Stand p l e R s m args below meth c T locs cells slots) (hx : p.tables.exec = Jvm.exec) (hZ : Z.Warmed39 s.vm) {own : String} {index : Nat} {y : MethodName} {bytes : ByteArray} {maxL : Nat} {ret : Option FieldType} {rm : Room} {as' : Array Value} {Q : Option Value → Heap → List Loc → Prop}
    (hown : s.vm.findClass own = some m.cls) (hlink : (Cond.methodLink own index y).before a0 Z = true) (hstat : (Cond.static y).before a0 Z = true) (hinit : (Cond.initialized y.cls).before a0 Z = true) (hcode : (Cond.code y bytes maxL ret).before a0 Z = true)
    (hy : y.cls ≠ "java/lang/invoke/MethodHandle" ∧ y.cls ≠ "java/lang/invoke/VarHandle") {W : Nat} (hM : OwnCtr l Z y [] bytes maxL ret rm as' h Q) (hf : rm.frames + 1 ≤ R.frames) (hl : W + (maxL + 11) + rm.locals ≤ R.locals)
    {g : JFrame} (hg : g.method = m) (hsize : g.locals.size = c.maxLocals) {argsL rest : List Value} (hlen : ∀ sig, parseMethodDescriptor y.desc = some sig → argsL.length = sig.parameters.length)
    (hstack : g.stack = argsL.reverse ++ rest) (hW : 2 * g.monitorRoom + (rest.map fun v => v.category).sum ≤ W) (hdg : decode c.code g.pc = .ok (.invokestatic index, 3)) (eT : T.heap = h) (ha : argsL.toArray = as') (hc : cells + rm.cells ≤ R.cells) (hs : slots + rm.slots ≤ R.slots) :
    ∃ (v : Option Value) (T' : State) (L : List Loc), Stand p l e R s m args below meth c T' (locs ++ L) (cells + rm.cells) (slots + rm.slots) ∧ Q v T'.heap L ∧ ∀ target, Steps p.tables e below (T'.setTop { g with pc := g.pc + 3, stack := v.toList ++ rest }) target → Steps p.tables e below (T.setTop g) target := by
  obtain ⟨v, _, ⟨T', L', k, n⟩, -, X', ⟨L, hQ, l1, y1, z1⟩, st⟩ := Jvm.LawKit.callS X hx (y := y) hown (mvT hZ hlink) (mvT hZ hstat) (mvT hZ hinit) (mvT hZ hcode) hy (backOf (W := W) hM hZ hcode hinit hf hl) hg hsize hlen hstack hW hdg (fun _ _ => ⟨ha, eT, hc, hs⟩)
  dsimp only [Pt.U, Pt.locs, Pt.cells, Pt.slots] at X' l1 y1 z1 st hQ
  subst l1 y1 z1
  exact ⟨v, T', L, X', hQ, st⟩
/-- a constructor by its contract -/
theorem own_callI (X : Stand p l e R s m args below meth c T locs cells slots) (hx : p.tables.exec = Jvm.exec) (hZ : Z.Warmed39 s.vm) {own : String} {index : Nat} {y : MethodName} {bytes : ByteArray} {maxL : Nat} {rm : Room} {as' : Array Value} {Q : Option Value → Heap → List Loc → Prop}
    (hy1 : y.name = "<init>") (hown : s.vm.findClass own = some m.cls) (hlink : (Cond.methodLink own index y).before a0 Z = true) (hinst : (Cond.instanceMethod y).before a0 Z = true) (hinit : (Cond.initialized y.cls).before a0 Z = true) (hcode : (Cond.code y bytes maxL none).before a0 Z = true)
    (hy : y.cls ≠ "java/lang/invoke/MethodHandle" ∧ y.cls ≠ "java/lang/invoke/VarHandle") {W : Nat} (hM : OwnCtr l Z y [] bytes maxL none rm as' h Q) (hf : rm.frames + 1 ≤ R.frames) (hl : W + (maxL + 11) + rm.locals ≤ R.locals)
    {g : JFrame} (hg : g.method = m) (hsize : g.locals.size = c.maxLocals) {a : Addr} {argsL rest : List Value} (hlen : ∀ sig, parseMethodDescriptor y.desc = some sig → argsL.length = sig.parameters.length)
    (hstack : g.stack = argsL.reverse ++ .ref a :: rest) (hW : 2 * g.monitorRoom + (rest.map fun v => v.category).sum ≤ W) (hdg : decode c.code g.pc = .ok (.invokespecial index, 3)) (eT : T.heap = h) (ha : (.ref a :: argsL).toArray = as') (hc : cells + rm.cells ≤ R.cells) (hs : slots + rm.slots ≤ R.slots) :
    ∃ (v : Option Value) (T' : State) (L : List Loc), Stand p l e R s m args below meth c T' (locs ++ L) (cells + rm.cells) (slots + rm.slots) ∧ Q v T'.heap L ∧ ∀ target, Steps p.tables e below (T'.setTop { g with pc := g.pc + 3, stack := v.toList ++ rest }) target → Steps p.tables e below (T.setTop g) target := by
  obtain ⟨v, _, ⟨T', L', k, n⟩, -, X', ⟨L, hQ, l1, y1, z1⟩, st⟩ := X.specialBack hx (y := y) hy1 hown (mvT hZ hlink) (mvT hZ hinst) (mvT hZ hcode) hy (backOf (W := W) hM hZ hcode hinit hf hl) hg hsize (Steps.refl _) hlen hstack hW hdg (fun _ _ => ⟨ha, eT, hc, hs⟩)
  dsimp only [Pt.U, Pt.locs, Pt.cells, Pt.slots] at X' l1 y1 z1 st hQ
  subst l1 y1 z1
  exact ⟨v, T', L, X', hQ, fun t k => st.trans k⟩
/-- an instance method by its contract -/
theorem own_callV (X : Stand p l e R s m args below meth c T locs cells slots) (hx : p.tables.exec = Jvm.exec) (hZ : Z.Warmed39 s.vm) {own K : String} {index : Nat} {y z : MethodName} {bytes : ByteArray} {maxL : Nat} {ret : Option FieldType} {rm : Room} {as' : Array Value} {Q : Option Value → Heap → List Loc → Prop}
    (hown : s.vm.findClass own = some m.cls) (hlink : (Cond.methodLink own index y).before a0 Z = true) (hdecl : (Cond.declares y).before a0 Z = true) (hnf : NotFace s y) (hsel : (Cond.selects K y z).before a0 Z = true) (hinst : (Cond.instanceMethod z).before a0 Z = true) (hinit : (Cond.initialized z.cls).before a0 Z = true) (hcode : (Cond.code z bytes maxL ret).before a0 Z = true)
    (hy : y.cls ≠ "java/lang/invoke/MethodHandle" ∧ y.cls ≠ "java/lang/invoke/VarHandle") {W : Nat} (hM : OwnCtr l Z z [] bytes maxL ret rm as' h Q) (hf : rm.frames + 1 ≤ R.frames) (hl : W + (maxL + 11) + rm.locals ≤ R.locals)
    {b : Addr} (E : Exa Z h b K) {g : JFrame} (hg : g.method = m) (hsize : g.locals.size = c.maxLocals) {argsL rest : List Value} (hlen : ∀ sig, parseMethodDescriptor y.desc = some sig → argsL.length = sig.parameters.length)
    (hstack : g.stack = argsL.reverse ++ .ref b :: rest) (hW : 2 * g.monitorRoom + (rest.map fun v => v.category).sum ≤ W) (hdg : decode c.code g.pc = .ok (.invokevirtual index, 3)) (eT : T.heap = h) (ha : (.ref b :: argsL).toArray = as') (hc : cells + rm.cells ≤ R.cells) (hs : slots + rm.slots ≤ R.slots) :
    ∃ (v : Option Value) (T' : State) (L : List Loc), Stand p l e R s m args below meth c T' (locs ++ L) (cells + rm.cells) (slots + rm.slots) ∧ Q v T'.heap L ∧ ∀ target, Steps p.tables e below (T'.setTop { g with pc := g.pc + 3, stack := v.toList ++ rest }) target → Steps p.tables e below (T.setTop g) target := by
  obtain ⟨cq, kq, qa, qb, qc⟩ := isOf hZ eT E
  obtain ⟨v, _, ⟨T', L', k, n⟩, -, X', ⟨L, hQ, l1, y1, z1⟩, st⟩ := X.virtualBack hx (y := y) (z := z) hown (mvT hZ hlink) (mvT hZ hdecl) hnf (mvT hZ hsel) (mvT hZ hinst) hy (backOf (W := W) hM hZ hcode hinit hf hl) qa qc hg hsize (Steps.refl _) hlen hstack hW hdg (fun _ _ => ⟨ha, eT, hc, hs⟩)
  dsimp only [Pt.U, Pt.locs, Pt.cells, Pt.slots] at X' l1 y1 z1 st hQ
  subst l1 y1 z1
  exact ⟨v, T', L, X', hQ, fun t k => st.trans k⟩
/-- a private instance method, called by invokevirtual, by its contract -/
theorem own_callP (X : Stand p l e R s m args below meth c T locs cells slots) (hx : p.tables.exec = Jvm.exec) (hZ : Z.Warmed39 s.vm) {own : String} {index : Nat} {y : MethodName} {bytes : ByteArray} {maxL : Nat} {ret : Option FieldType} {rm : Room} {as' : Array Value} {Q : Option Value → Heap → List Loc → Prop}
    (hown : s.vm.findClass own = some m.cls) (hlink : (Cond.methodLink own index y).before a0 Z = true) (hinst : (Cond.instanceMethod y).before a0 Z = true) (hsel : (Cond.selects y.cls y y).before a0 Z = true) (hpriv : (Cond.privateMethod y).before a0 Z = true) (hinit : (Cond.initialized y.cls).before a0 Z = true) (hcode : (Cond.code y bytes maxL ret).before a0 Z = true)
    (hy : y.cls ≠ "java/lang/invoke/MethodHandle" ∧ y.cls ≠ "java/lang/invoke/VarHandle") {W : Nat} (hM : OwnCtr l Z y [] bytes maxL ret rm as' h Q) (hf : rm.frames + 1 ≤ R.frames) (hl : W + (maxL + 11) + rm.locals ≤ R.locals)
    {b : Addr} {K : String} (E : Exa Z h b K) {g : JFrame} (hg : g.method = m) (hsize : g.locals.size = c.maxLocals) {argsL rest : List Value} (hlen : ∀ sig, parseMethodDescriptor y.desc = some sig → argsL.length = sig.parameters.length)
    (hstack : g.stack = argsL.reverse ++ .ref b :: rest) (hW : 2 * g.monitorRoom + (rest.map fun v => v.category).sum ≤ W) (hdg : decode c.code g.pc = .ok (.invokevirtual index, 3)) (eT : T.heap = h) (ha : (.ref b :: argsL).toArray = as') (hc : cells + rm.cells ≤ R.cells) (hs : slots + rm.slots ≤ R.slots) :
    ∃ (v : Option Value) (T' : State) (L : List Loc), Stand p l e R s m args below meth c T' (locs ++ L) (cells + rm.cells) (slots + rm.slots) ∧ Q v T'.heap L ∧ ∀ target, Steps p.tables e below (T'.setTop { g with pc := g.pc + 3, stack := v.toList ++ rest }) target → Steps p.tables e below (T.setTop g) target := by
  obtain ⟨cq, q1, q2⟩ := E.cell
  obtain ⟨v, _, ⟨T', L', k, n⟩, -, X', ⟨L, hQ, l1, y1, z1⟩, st⟩ := X.privateBack hx (y := y) hown (mvT hZ hlink) (mvT hZ hinst) (mvT hZ hsel) (Cond.privateMethod_at (mvP hZ hpriv (args := #[]))) (mvT hZ hcode) hy (backOf (W := W) hM hZ hcode hinit hf hl) hg hsize (Steps.refl _) (by rw [eT]; exact q1) q2 hlen hstack hW hdg (fun _ _ => ⟨ha, eT, hc, hs⟩)
  dsimp only [Pt.U, Pt.locs, Pt.cells, Pt.slots] at X' l1 y1 z1 st hQ
  subst l1 y1 z1
  exact ⟨v, T', L, X', hQ, fun t k => st.trans k⟩
theorem own_retI (X : Stand p l e R s m args below meth c T locs cells slots) (hx : p.tables.exec = Jvm.exec) {pc : Nat} {Ls : Array Slot} {z : Int32} {rest : List Value} (hret : meth.sig.returnType = some .int) (hd : decode c.code pc = .ok (.ireturn, 1)) {fs : List Frame}
    (hl : ∀ (f : JFrame) (acts : List Action), f.method = m → f.locked = none → f.entered = [] → (doReturn e (T.setTop f) acts (some (.int z))).1 = T.setFrames fs) : Steps p.tables e below (T.setTop (mkF m pc Ls (.int z :: rest))) (T.setFrames fs) :=
  retOut X hx hret rfl (Or.inl ⟨rfl, Or.inl rfl, _, rfl⟩) hd hl
theorem own_retJ (X : Stand p l e R s m args below meth c T locs cells slots) (hx : p.tables.exec = Jvm.exec) {pc : Nat} {Ls : Array Slot} {z : Int64} {rest : List Value} (hret : meth.sig.returnType = some .long) (hd : decode c.code pc = .ok (.lreturn, 1)) {fs : List Frame}
    (hl : ∀ (f : JFrame) (acts : List Action), f.method = m → f.locked = none → f.entered = [] → (doReturn e (T.setTop f) acts (some (.long z))).1 = T.setFrames fs) : Steps p.tables e below (T.setTop (mkF m pc Ls (.long z :: rest))) (T.setFrames fs) :=
  retOut X hx hret rfl (Or.inr (Or.inl ⟨rfl, rfl, _, rfl⟩)) hd hl
theorem own_retR (X : Stand p l e R s m args below meth c T locs cells slots) (hx : p.tables.exec = Jvm.exec) {pc : Nat} {Ls : Array Slot} {w : Value} {t : FieldType} {rest : List Value} (hret : meth.sig.returnType = some t) (ht : t.isReference = true) (hw : w.isRef = true) (hd : decode c.code pc = .ok (.areturn, 1)) {fs : List Frame}
    (hl : ∀ (f : JFrame) (acts : List Action), f.method = m → f.locked = none → f.entered = [] → (doReturn e (T.setTop f) acts (some w)).1 = T.setFrames fs) : Steps p.tables e below (T.setTop (mkF m pc Ls (w :: rest))) (T.setFrames fs) :=
  retOut X hx hret (by cases t <;> simp [FieldType.isReference] at ht <;> cases w <;> simp [Value.isRef] at hw <;> rfl) (Or.inr (Or.inr (Or.inr (Or.inr ⟨rfl, ht, hw⟩)))) hd hl
theorem own_nf {K : String} {y y' : MethodName} (hsel : (Cond.selects K y' y').before args s = true) (hc : y'.cls = y.cls) : NotFace s y := fun r0 h0 => by
  obtain ⟨c2, r2, m2, q1, q2, q3, q4, kP, hkP, hkPi⟩ := Cond.selects_spec hsel
  have e1 := findClass_of_methodNamed q3
  have e2 := findClass_of_methodNamed h0
  rw [hc, e2] at e1
  have e3 := Option.some.inj e1
  exact ⟨kP, by rw [e3]; exact hkP, hkPi⟩
theorem own_stakeep {h' : Heap} {O n d : String} {v : Value} (F : Sta Z h O n d v) (K : Keep h h' []) : Sta Z h' O n d v := by
  obtain ⟨cf, i, k, f, st, cell, h1, h2, h3, h4, h5, r⟩ := F
  exact ⟨cf, i, k, f, st, cell, h1, h2, h3, h4, K.2.1 _ _ h5 nin0, r⟩
end Own

section OwnArrays
variable {p : Program} {l : Launch} {e : Env} {R : Room} {s : State} {m : MethodId} {args : Array Value} {below : List Frame} {meth : Method} {c : Code} {T : State} {locs : List Loc} {cells slots : Nat} {Z : State} {a0 : Array Value} {h h' : Heap} {a b : Addr} {ty : FieldType} {n : Nat} {f : Nat → Value}
/-- at a lies an array of n places of the kind ty, and its i-th place holds f i -/
def OwnArr (Z : State) (h : Heap) (a : Addr) (ty : FieldType) (n : Nat) (f : Nat → Value) : Prop := ∃ c : Cell, Arr Z h a c ty ∧ c.slots.size = n ∧ n < 2 ^ 31 ∧ ∀ i, i < n → c.slots[i]? = some (f i)
theorem OwnArr.lt (F : OwnArr Z h a ty n f) : a < h.size := by obtain ⟨c, A, -⟩ := F; exact A.lt
theorem OwnArr.ext (F : OwnArr Z h a ty n f) (E : Ext h h') : OwnArr Z h' a ty n f := by obtain ⟨c, A, r⟩ := F; exact ⟨c, A.ext E, r⟩
theorem OwnArr.other {sl : Nat} {v : Value} (F : OwnArr Z h b ty n f) (W : Wr h h' a sl v) (q : b ≠ a) : OwnArr Z h' b ty n f := by obtain ⟨c, A, r⟩ := F; exact ⟨c, A.other W q, r⟩
theorem OwnArr.keep {ws : List Addr} (F : OwnArr Z h a ty n f) (K : Keep h h' ws) (q : a ∉ ws) : OwnArr Z h' a ty n f := by obtain ⟨c, A, r⟩ := F; exact ⟨c, ⟨K.2.1 a c A.1 q, A.2⟩, r⟩
theorem OwnArr.congr {f' : Nat → Value} (F : OwnArr Z h a ty n f) (q : ∀ i, i < n → f i = f' i) : OwnArr Z h a ty n f' := by obtain ⟨c, A, r1, r2, r3⟩ := F; exact ⟨c, A, r1, r2, fun i hi => by rw [← q i hi]; exact r3 i hi⟩
theorem OwnArr.set {i : Nat} {v : Value} (F : OwnArr Z h a ty n f) (W : Wr h h' a i v) : OwnArr Z h' a ty n (fun k => if k = i then v else f k) := by
  obtain ⟨c, A, r1, r2, r3⟩ := F
  refine ⟨_, A.same W, by rw [sz_set]; exact r1, r2, fun k hk => ?_⟩
  show (c.slots.setIfInBounds i v)[k]? = _
  by_cases e : k = i
  · subst e; simp [r1, hk]
  · rw [Array.getElem?_setIfInBounds_ne (Ne.symm e), r3 k hk]; simp [e]
theorem own_newarr (X : Stand p l e R s m args below meth c T locs cells slots) (hx : p.tables.exec = Jvm.exec) (hZ : Z.Warmed39 s.vm) {aty : ArrayType} (w : (Cond.arrayClass (newarray.typeOf aty)).before a0 Z = true) (eT : T.heap = h) {g : JFrame} (hg : g.method = m) (hd : decode c.code g.pc = .ok (.newarray aty, 2)) {z : Int32} {rest : List Value} (hs : g.stack = .int z :: rest)
    {n cap : Nat} (hz : z = Int32.ofNat n) (hcap : n ≤ cap) (hb : cap * 8 ≤ 536870912) (hc : cells + 1 ≤ R.cells) (hl : slots + cap ≤ R.slots) :
    ∃ T' h', Stand p l e R s m args below meth c T' locs (cells + 1) (slots + cap) ∧ T'.heap = h' ∧ Ext h h' ∧ OwnArr Z h' h.size (newarray.typeOf aty) n (fun _ => defaultValue (newarray.typeOf aty)) ∧
      ∀ target, Steps p.tables e below (T'.setTop { g with pc := g.pc + 2, stack := .ref h.size :: rest }) target → Steps p.tables e below (T.setTop g) target := by
  have hn31 : n < 2 ^ 31 := by omega
  have hcl : z.toNatClampNeg = n := clamp_of hz hn31
  have hnn : ¬ z < 0 := by
    have q := toInt_of hz hn31
    rw [Int32.lt_iff_toInt_lt, q, Int32.toInt_zero]; omega
  obtain ⟨T', h', cA, X', e', E', A', st⟩ := newP X hx hZ w eT hg hd hs hnn (cap := cap) (by rw [hcl]; exact hcap) hb hc hl
  refine ⟨T', h', X', e', E', ⟨_, A', by rw [sz_new, hcl], hn31, fun i hi => ?_⟩, st⟩
  show (Array.replicate z.toNatClampNeg _)[i]? = _
  rw [hcl]; simp [hi]
theorem own_laload (X : Stand p l e R s m args below meth c T locs cells slots) (hx : p.tables.exec = Jvm.exec) (hZ : Z.Warmed39 s.vm) (eT : T.heap = h) (A : OwnArr Z h a .long n f) {j : Int32} {i : Nat} (hj : j = Int32.ofNat i) (hi : i < n) {g : JFrame} (hg : g.method = m) {rest : List Value} (hs : g.stack = .int j :: .ref a :: rest) (hd : decode c.code g.pc = .ok (.laload, 1)) :
    ∀ target, Steps p.tables e below (T.setTop { g with pc := g.pc + 1, stack := f i :: rest }) target → Steps p.tables e below (T.setTop g) target := by
  obtain ⟨cl, A, r1, r2, r3⟩ := A
  exact fun t k => X.laload hx (j := j) (v := f i) (by rw [eT]; exact A.1) (State.isArrayOf_alike hZ.alike A.2.1) A.2.2 (by rw [r1]; exact within hj hi r2) (by rw [clamp_of hj (by omega)]; exact r3 i hi) hg hs hd t k
theorem own_iaload (X : Stand p l e R s m args below meth c T locs cells slots) (hx : p.tables.exec = Jvm.exec) (hZ : Z.Warmed39 s.vm) (eT : T.heap = h) (A : OwnArr Z h a .int n f) {j : Int32} {i : Nat} (hj : j = Int32.ofNat i) (hi : i < n) {g : JFrame} (hg : g.method = m) {rest : List Value} (hs : g.stack = .int j :: .ref a :: rest) (hd : decode c.code g.pc = .ok (.iaload, 1)) :
    ∀ target, Steps p.tables e below (T.setTop { g with pc := g.pc + 1, stack := f i :: rest }) target → Steps p.tables e below (T.setTop g) target := by
  obtain ⟨cl, A, r1, r2, r3⟩ := A
  exact fun t k => X.iaload hx (j := j) (v := f i) (by rw [eT]; exact A.1) (State.isArrayOf_alike hZ.alike A.2.1) A.2.2 (by rw [r1]; exact within hj hi r2) (by rw [clamp_of hj (by omega)]; exact r3 i hi) hg hs hd t k
theorem own_zaload (X : Stand p l e R s m args below meth c T locs cells slots) (hx : p.tables.exec = Jvm.exec) (hZ : Z.Warmed39 s.vm) (eT : T.heap = h) (A : OwnArr Z h a .boolean n f) {j : Int32} {i : Nat} (hj : j = Int32.ofNat i) (hi : i < n) {g : JFrame} (hg : g.method = m) {rest : List Value} (hs : g.stack = .int j :: .ref a :: rest) (hd : decode c.code g.pc = .ok (.baload, 1)) :
    ∀ target, Steps p.tables e below (T.setTop { g with pc := g.pc + 1, stack := f i :: rest }) target → Steps p.tables e below (T.setTop g) target := by
  obtain ⟨cl, A, r1, r2, r3⟩ := A
  exact fun t k => X.baloadBooleans hx (j := j) (v := f i) (by rw [eT]; exact A.1) (State.isArrayOf_alike hZ.alike A.2.1) A.2.2 (by rw [r1]; exact within hj hi r2) (by rw [clamp_of hj (by omega)]; exact r3 i hi) hg hs hd t k
theorem own_baload (X : Stand p l e R s m args below meth c T locs cells slots) (hx : p.tables.exec = Jvm.exec) (hZ : Z.Warmed39 s.vm) (eT : T.heap = h) (A : OwnArr Z h a .byte n f) {j : Int32} {i : Nat} (hj : j = Int32.ofNat i) (hi : i < n) {g : JFrame} (hg : g.method = m) {rest : List Value} (hs : g.stack = .int j :: .ref a :: rest) (hd : decode c.code g.pc = .ok (.baload, 1)) :
    ∀ target, Steps p.tables e below (T.setTop { g with pc := g.pc + 1, stack := f i :: rest }) target → Steps p.tables e below (T.setTop g) target := by
  obtain ⟨cl, A, r1, r2, r3⟩ := A
  exact fun t k => X.baloadBytes hx (j := j) (v := f i) (by rw [eT]; exact A.1) (State.isArrayOf_alike hZ.alike A.2.1) A.2.2 (by rw [r1]; exact within hj hi r2) (by rw [clamp_of hj (by omega)]; exact r3 i hi) hg hs hd t k
theorem own_caload (X : Stand p l e R s m args below meth c T locs cells slots) (hx : p.tables.exec = Jvm.exec) (hZ : Z.Warmed39 s.vm) (eT : T.heap = h) (A : OwnArr Z h a .char n f) {j : Int32} {i : Nat} (hj : j = Int32.ofNat i) (hi : i < n) {g : JFrame} (hg : g.method = m) {rest : List Value} (hs : g.stack = .int j :: .ref a :: rest) (hd : decode c.code g.pc = .ok (.caload, 1)) :
    ∀ target, Steps p.tables e below (T.setTop { g with pc := g.pc + 1, stack := f i :: rest }) target → Steps p.tables e below (T.setTop g) target := by
  obtain ⟨cl, A, r1, r2, r3⟩ := A
  exact fun t k => X.caload hx (j := j) (v := f i) (by rw [eT]; exact A.1) (State.isArrayOf_alike hZ.alike A.2.1) A.2.2 (by rw [r1]; exact within hj hi r2) (by rw [clamp_of hj (by omega)]; exact r3 i hi) hg hs hd t k
theorem own_alength (X : Stand p l e R s m args below meth c T locs cells slots) (hx : p.tables.exec = Jvm.exec) (hZ : Z.Warmed39 s.vm) (eT : T.heap = h) (A : OwnArr Z h a ty n f) {g : JFrame} (hg : g.method = m) {rest : List Value} (hs : g.stack = .ref a :: rest) (hd : decode c.code g.pc = .ok (.arraylength, 1)) :
    ∀ target, Steps p.tables e below (T.setTop { g with pc := g.pc + 1, stack := .int (Int32.ofNat n) :: rest }) target → Steps p.tables e below (T.setTop g) target := by
  obtain ⟨cl, A, r1, r2, r3⟩ := A
  subst r1
  exact fun t k => X.arraylength hx (by rw [eT]; exact A.1) (State.isArrayOf_alike hZ.alike A.2.1) hg hs hd t k
theorem own_lastore (X : Stand p l e R s m args below meth c T locs cells slots) (hx : p.tables.exec = Jvm.exec) (hZ : Z.Warmed39 s.vm) (eT : T.heap = h) (A : OwnArr Z h a .long n f) {j : Int32} {i : Nat} {x : Int64} (hj : j = Int32.ofNat i) (hi : i < n) {g : JFrame} (hg : g.method = m) {rest : List Value} (hs : g.stack = .long x :: .int j :: .ref a :: rest) (hd : decode c.code g.pc = .ok (.lastore, 1)) :
    ∃ T' h', Stand p l e R s m args below meth c T' (locs ++ [⟨a, i⟩]) cells slots ∧ T'.heap = h' ∧ Wr h h' a i (.long x) ∧ OwnArr Z h' a .long n (fun k => if k = i then .long x else f k) ∧ ∀ target, Steps p.tables e below (T'.setTop { g with pc := g.pc + 1, stack := rest }) target → Steps p.tables e below (T.setTop g) target := by
  have A0 := A
  obtain ⟨cl, A, r1, r2, r3⟩ := A
  obtain ⟨T', h', X', e', W, st⟩ := stJ X hx hZ eT A (j := j) (x := x) (by rw [r1]; exact within hj hi r2) hg hs hd
  rw [clamp_of hj (by omega)] at X' W
  exact ⟨T', h', X', e', W, A0.set W, st⟩
theorem own_iastore (X : Stand p l e R s m args below meth c T locs cells slots) (hx : p.tables.exec = Jvm.exec) (hZ : Z.Warmed39 s.vm) (eT : T.heap = h) (A : OwnArr Z h a .int n f) {j : Int32} {i : Nat} {x : Int32} (hj : j = Int32.ofNat i) (hi : i < n) {g : JFrame} (hg : g.method = m) {rest : List Value} (hs : g.stack = .int x :: .int j :: .ref a :: rest) (hd : decode c.code g.pc = .ok (.iastore, 1)) :
    ∃ T' h', Stand p l e R s m args below meth c T' (locs ++ [⟨a, i⟩]) cells slots ∧ T'.heap = h' ∧ Wr h h' a i (.int x) ∧ OwnArr Z h' a .int n (fun k => if k = i then .int x else f k) ∧ ∀ target, Steps p.tables e below (T'.setTop { g with pc := g.pc + 1, stack := rest }) target → Steps p.tables e below (T.setTop g) target := by
  have A0 := A
  obtain ⟨cl, A, r1, r2, r3⟩ := A
  obtain ⟨T', h', X', e', W, st⟩ := stI X hx hZ eT A (j := j) (x := x) (by rw [r1]; exact within hj hi r2) hg hs hd
  rw [clamp_of hj (by omega)] at X' W
  exact ⟨T', h', X', e', W, A0.set W, st⟩
theorem own_zastore (X : Stand p l e R s m args below meth c T locs cells slots) (hx : p.tables.exec = Jvm.exec) (hZ : Z.Warmed39 s.vm) (eT : T.heap = h) (A : OwnArr Z h a .boolean n f) {j : Int32} {i : Nat} {x : Int32} (hj : j = Int32.ofNat i) (hi : i < n) {g : JFrame} (hg : g.method = m) {rest : List Value} (hs : g.stack = .int x :: .int j :: .ref a :: rest) (hd : decode c.code g.pc = .ok (.bastore, 1)) :
    ∃ T' h', Stand p l e R s m args below meth c T' (locs ++ [⟨a, i⟩]) cells slots ∧ T'.heap = h' ∧ Wr h h' a i (.int (nar .boolean x)) ∧ OwnArr Z h' a .boolean n (fun k => if k = i then .int (nar .boolean x) else f k) ∧ ∀ target, Steps p.tables e below (T'.setTop { g with pc := g.pc + 1, stack := rest }) target → Steps p.tables e below (T.setTop g) target := by
  have A0 := A
  obtain ⟨cl, A, r1, r2, r3⟩ := A
  obtain ⟨T', h', X', e', W, st⟩ := stZ X hx hZ eT A (j := j) (x := x) (by rw [r1]; exact within hj hi r2) hg hs hd
  rw [clamp_of hj (by omega)] at X' W
  exact ⟨T', h', X', e', W, A0.set W, st⟩
theorem own_bastore (X : Stand p l e R s m args below meth c T locs cells slots) (hx : p.tables.exec = Jvm.exec) (hZ : Z.Warmed39 s.vm) (eT : T.heap = h) (A : OwnArr Z h a .byte n f) {j : Int32} {i : Nat} {x : Int32} (hj : j = Int32.ofNat i) (hi : i < n) {g : JFrame} (hg : g.method = m) {rest : List Value} (hs : g.stack = .int x :: .int j :: .ref a :: rest) (hd : decode c.code g.pc = .ok (.bastore, 1)) :
    ∃ T' h', Stand p l e R s m args below meth c T' (locs ++ [⟨a, i⟩]) cells slots ∧ T'.heap = h' ∧ Wr h h' a i (.int (nar .byte x)) ∧ OwnArr Z h' a .byte n (fun k => if k = i then .int (nar .byte x) else f k) ∧ ∀ target, Steps p.tables e below (T'.setTop { g with pc := g.pc + 1, stack := rest }) target → Steps p.tables e below (T.setTop g) target := by
  have A0 := A
  obtain ⟨cl, A, r1, r2, r3⟩ := A
  obtain ⟨T', h', X', e', W, st⟩ := stB X hx hZ eT A (j := j) (x := x) (by rw [r1]; exact within hj hi r2) hg hs hd
  rw [clamp_of hj (by omega)] at X' W
  exact ⟨T', h', X', e', W, A0.set W, st⟩
theorem own_castore (X : Stand p l e R s m args below meth c T locs cells slots) (hx : p.tables.exec = Jvm.exec) (hZ : Z.Warmed39 s.vm) (eT : T.heap = h) (A : OwnArr Z h a .char n f) {j : Int32} {i : Nat} {x : Int32} (hj : j = Int32.ofNat i) (hi : i < n) {g : JFrame} (hg : g.method = m) {rest : List Value} (hs : g.stack = .int x :: .int j :: .ref a :: rest) (hd : decode c.code g.pc = .ok (.castore, 1)) :
    ∃ T' h', Stand p l e R s m args below meth c T' (locs ++ [⟨a, i⟩]) cells slots ∧ T'.heap = h' ∧ Wr h h' a i (.int (nar .char x)) ∧ OwnArr Z h' a .char n (fun k => if k = i then .int (nar .char x) else f k) ∧ ∀ target, Steps p.tables e below (T'.setTop { g with pc := g.pc + 1, stack := rest }) target → Steps p.tables e below (T.setTop g) target := by
  have A0 := A
  obtain ⟨cl, A, r1, r2, r3⟩ := A
  obtain ⟨T', h', X', e', W, st⟩ := stC X hx hZ eT A (j := j) (x := x) (by rw [r1]; exact within hj hi r2) hg hs hd
  rw [clamp_of hj (by omega)] at X' W
  exact ⟨T', h', X', e', W, A0.set W, st⟩
theorem own_arv2 {x y : Int32} (F : OwnArr Z h a .char 2 f) (h0 : f 0 = .int x) (h1 : f 1 = .int y) (q0 : fits .char (.int x) = true) (q1 : fits .char (.int y) = true) : ∃ k, Arv Z h a k .char 2 ([x, y].map Value.int) (.int 0) := by
  obtain ⟨c, A, r1, r2, r3⟩ := F
  refine ⟨c.cls, c, A, rfl, by rw [r1]; rfl, by decide, fun i hi => ?_, fun i hi => ?_⟩
  · rw [r1] at hi
    rw [r3 i hi]
    have hc : i = 0 ∨ i = 1 := by omega
    rcases hc with rfl | rfl
    · rw [h0]; rfl
    · rw [h1]; rfl
  · rw [r1] at hi
    have hc : i = 0 ∨ i = 1 := by omega
    rcases hc with rfl | rfl
    · exact q0
    · exact q1
theorem own_longs (F : OwnArr Z h a .long n f) (q : ∀ i, i < n → ∃ x : Int64, f i = .long x) : ∃ g : Nat → Int64, OwnArr Z h a .long n (fun i => .long (g i)) := by
  have q' : ∀ i, ∃ x : Int64, i < n → f i = .long x := fun i => by
    by_cases hi : i < n
    · obtain ⟨x, hx⟩ := q i hi; exact ⟨x, fun _ => hx⟩
    · exact ⟨0, fun z => absurd z hi⟩
  exact ⟨fun i => Classical.choose (q' i), F.congr fun i hi => Classical.choose_spec (q' i) hi⟩
end OwnArrays

/-- three numbers as a function of the place -/
def own_tri (a b c : Nat) (k : Nat) : Nat := if k = 0 then a else if k = 1 then b else c
def own_key (r s : Int32) : Int64 := (r.toInt64 <<< ((32 : Int32) &&& 0x3f).toInt64) ||| s.toInt64
def own_K (r s : Nat) : Int64 := own_key (Int32.ofNat r) (Int32.ofNat s)
def own_mx (r : Nat → Nat) : Nat → Nat
  | 0 => 0
  | a + 1 => max (own_mx r a) (r a)
/-- the counts, their sums, the places given out -/
def own_m3 (r : Nat → Nat) : Nat → Nat → Int32
  | 0 => fun _ => 0
  | a + 1 => fun j => if j = r a + 1 then own_m3 r a (r a + 1) + 1 else own_m3 r a j
def own_m4 (r : Nat → Nat) (n : Nat) : Nat → Nat → Int32
  | 0 => own_m3 r n
  | c + 1 => fun j => if j = c + 1 then own_m4 r n c (c + 1) + own_m4 r n c c else own_m4 r n c j
def own_m5 (r : Nat → Nat) (n M : Nat) : Nat → Nat → Int32
  | 0 => own_m4 r n M
  | a + 1 => fun j => if j = r a then own_m5 r n M a (r a) + 1 else own_m5 r n M a j
def own_p (r : Nat → Nat) (n M a : Nat) : Nat := (own_m5 r n M a (r a)).toNatClampNeg
/-- the keys as the places are given out -/
def own_k5 (r : Nat → Nat) (n M : Nat) (K : Nat → Int64) : Nat → Nat → Int64
  | 0 => fun _ => 0
  | a + 1 => fun j => if j = own_p r n M a then K a else own_k5 r n M K a j
/-- one key's way down, from the place t -/
def own_ins (x : Int64) : Nat → (Nat → Int64) → Nat → Int64
  | 0, F => fun j => if j = 0 then x else F j
  | t + 1, F => if x < F t then own_ins x t (fun j => if j = t + 1 then F t else F j) else fun j => if j = t + 1 then x else F j
/-- the keys behind the insertions of the places 1 .. a -/
def own_m6 (F : Nat → Int64) : Nat → Nat → Int64
  | 0 => F
  | a + 1 => own_ins (own_m6 F a (a + 1)) (a + 1) (own_m6 F a)
def own_r (s0 s1 s2 q0 q1 q2 : Nat) (k : Nat) : Nat := own_tri q0 q1 q2 (own_tri s0 s1 s2 k)
def own_Ks (s0 s1 s2 q0 q1 q2 : Nat) (k : Nat) : Int64 := own_K (own_r s0 s1 s2 q0 q1 q2 k) (own_tri s0 s1 s2 k)
/-- the keys that sort leaves -/
def own_fin (n s0 s1 s2 q0 q1 q2 : Nat) : Nat → Int64 := own_m6 (own_k5 (own_r s0 s1 s2 q0 q1 q2) n (own_mx (own_r s0 s1 s2 q0 q1 q2) n) (own_Ks s0 s1 s2 q0 q1 q2) n) (n - 1)
def own_perm (s0 s1 s2 : Nat) : Bool := decide (s0 < 3) && decide (s1 < 3) && decide (s2 < 3) && decide (s0 ≠ s1) && decide (s0 ≠ s2) && decide (s1 ≠ s2)
set_option maxRecDepth 100000 in
theorem own_pos_all : ∀ n, n < 4 → ∀ r0, r0 < 4 → ∀ r1, r1 < 4 → ∀ r2, r2 < 4 → ∀ a, a < n → (fun r => decide (own_m5 r n (own_mx r n) a (r a) = Int32.ofNat (own_p r n (own_mx r n) a)) && decide (own_p r n (own_mx r n) a < 3)) (own_tri r0 r1 r2) = true := by decide +kernel
def own_lowB (n s0 s1 s2 q0 q1 q2 : Nat) : Bool := !(own_perm s0 s1 s2) || (List.range n).all fun a => decide ((own_fin n s0 s1 s2 q0 q1 q2 a).toInt32 = Int32.ofNat (own_fin n s0 s1 s2 q0 q1 q2 a).toInt32.toNatClampNeg) && decide ((own_fin n s0 s1 s2 q0 q1 q2 a).toInt32.toNatClampNeg < 3)
theorem own_all7 {P : Nat → Nat → Nat → Nat → Nat → Nat → Nat → Bool} (h : ((List.range 4).all fun n => (List.range 3).all fun a => (List.range 3).all fun b => (List.range 3).all fun c => (List.range 4).all fun x => (List.range 4).all fun y => (List.range 4).all fun z => P n a b c x y z) = true)
    {n a b c x y z : Nat} (hn : n < 4) (ha : a < 3) (hb : b < 3) (hc : c < 3) (hx : x < 4) (hy : y < 4) (hz : z < 4) : P n a b c x y z = true := by
  simp only [List.all_eq_true, List.mem_range] at h
  exact h n hn a ha b hb c hc x hx y hy z hz
set_option maxRecDepth 100000 in
theorem own_low_all : ((List.range 4).all fun n => (List.range 3).all fun a => (List.range 3).all fun b => (List.range 3).all fun c => (List.range 4).all fun x => (List.range 4).all fun y => (List.range 4).all fun z => own_lowB n a b c x y z) = true := by decide +kernel
theorem own_perm_lt {s0 s1 s2 : Nat} (h : own_perm s0 s1 s2 = true) : s0 < 3 ∧ s1 < 3 ∧ s2 < 3 := by
  simp only [own_perm, Bool.and_eq_true, decide_eq_true_eq] at h
  omega
theorem own_tri_lt {a b c m : Nat} (ha : a < m) (hb : b < m) (hc : c < m) (k : Nat) : own_tri a b c k < m := by
  unfold own_tri; split; exact ha; split; exact hb; exact hc
theorem own_low {n s0 s1 s2 q0 q1 q2 : Nat} (hn : n ≤ 3) (hp : own_perm s0 s1 s2 = true) (h0 : q0 < 4) (h1 : q1 < 4) (h2 : q2 < 4) {a : Nat} (ha : a < n) :
    (own_fin n s0 s1 s2 q0 q1 q2 a).toInt32 = Int32.ofNat (own_fin n s0 s1 s2 q0 q1 q2 a).toInt32.toNatClampNeg ∧ (own_fin n s0 s1 s2 q0 q1 q2 a).toInt32.toNatClampNeg < 3 := by
  obtain ⟨l0, l1, l2⟩ := own_perm_lt hp
  have h := own_all7 own_low_all (by omega : n < 4) l0 l1 l2 h0 h1 h2
  simp only [own_lowB, hp, Bool.not_true, Bool.false_or, List.all_eq_true, List.mem_range, Bool.and_eq_true, decide_eq_true_eq] at h
  exact h a ha
theorem own_r_lt {s0 s1 s2 q0 q1 q2 : Nat} (h0 : q0 < 4) (h1 : q1 < 4) (h2 : q2 < 4) (k : Nat) : own_r s0 s1 s2 q0 q1 q2 k < 4 := own_tri_lt h0 h1 h2 _
theorem own_r_tri (s0 s1 s2 q0 q1 q2 : Nat) : own_r s0 s1 s2 q0 q1 q2 = own_tri (own_tri q0 q1 q2 s0) (own_tri q0 q1 q2 s1) (own_tri q0 q1 q2 s2) := by
  funext k
  unfold own_r
  generalize hQ : own_tri q0 q1 q2 = Q
  unfold own_tri
  split
  · rfl
  · split <;> rfl
theorem own_pos {n s0 s1 s2 q0 q1 q2 : Nat} (hn : n ≤ 3) (h0 : q0 < 4) (h1 : q1 < 4) (h2 : q2 < 4) {a : Nat} (ha : a < n) :
    own_m5 (own_r s0 s1 s2 q0 q1 q2) n (own_mx (own_r s0 s1 s2 q0 q1 q2) n) a (own_r s0 s1 s2 q0 q1 q2 a) = Int32.ofNat (own_p (own_r s0 s1 s2 q0 q1 q2) n (own_mx (own_r s0 s1 s2 q0 q1 q2) n) a) ∧ own_p (own_r s0 s1 s2 q0 q1 q2) n (own_mx (own_r s0 s1 s2 q0 q1 q2) n) a < 3 := by
  have h := own_pos_all n (by omega) _ (own_tri_lt h0 h1 h2 s0) _ (own_tri_lt h0 h1 h2 s1) _ (own_tri_lt h0 h1 h2 s2) a ha
  simp only [Bool.and_eq_true, decide_eq_true_eq] at h
  rw [own_r_tri]
  exact h
theorem own_mx_lt {r : Nat → Nat} (h : ∀ k, r k < 4) : ∀ n, own_mx r n < 4
  | 0 => by show 0 < 4; decide
  | a + 1 => by have := own_mx_lt h a; have := h a; simp only [own_mx]; omega
theorem own_mx_le {r : Nat → Nat} : ∀ (n a : Nat), a < n → r a ≤ own_mx r n
  | 0, a, h => absurd h (Nat.not_lt_zero a)
  | n + 1, a, h => by
    simp only [own_mx]
    by_cases e : a = n
    · subst e; omega
    · have := own_mx_le (r := r) n a (by omega); omega
def own_max (x y : Int32) : Int32 := if x < y then y else x
theorem own_ltN {a b : Nat} (ha : a < 1000) (hb : b < 1000) : (Int32.ofNat a < Int32.ofNat b) ↔ a < b := by
  rw [Int32.lt_iff_toInt_lt, toInt_of (n := Int32.ofNat a) rfl (by omega), toInt_of (n := Int32.ofNat b) rfl (by omega)]
  omega
theorem own_maxN {a b : Nat} (ha : a < 1000) (hb : b < 1000) : own_max (Int32.ofNat a) (Int32.ofNat b) = Int32.ofNat (max a b) := by
  unfold own_max
  by_cases h : a < b
  · rw [if_pos ((own_ltN ha hb).mpr h), Nat.max_eq_right (by omega)]
  · rw [if_neg (fun q => h ((own_ltN ha hb).mp q)), Nat.max_eq_left (by omega)]
theorem own_addN (a b : Nat) : Int32.ofNat a + Int32.ofNat b = Int32.ofNat (a + b) := (Int32.ofNat_add a b).symm
theorem own_hi_all : ∀ r, r < 4 → ∀ s, s < 3 → ((((own_K r s).toUInt64 >>> ((32 : Int32) &&& 0x3f).toInt64.toUInt64).toInt64)).toInt32 = Int32.ofNat r := by decide +kernel
theorem own_ofNat_inj {a b : Nat} (ha : a < 1000) (hb : b < 1000) (h : Int32.ofNat a = Int32.ofNat b) : a = b := by
  have h2 : (Int32.ofNat a).toInt = (Int32.ofNat b).toInt := by rw [h]
  rw [toInt_of (n := Int32.ofNat a) rfl (by omega), toInt_of (n := Int32.ofNat b) rfl (by omega)] at h2
  omega
/-- how many of the other slot come ahead -/
def own_rk (pr rn : Nat → Int32) (K : Int32) (t : Nat) : Nat := if pr t ≠ 0 ∧ rn t * 4 + Int32.ofNat t < K then 1 else 0
theorem own_rk_le (pr rn : Nat → Int32) (K : Int32) (t : Nat) : own_rk pr rn K t ≤ 1 := by unfold own_rk; split <;> decide
def own_place (pr rn : Nat → Int32) (si : Nat) (f : Nat → Int32) (j : Nat) : Int32 :=
  if pr si = 0 then f j else if j = own_rk pr rn (rn si * 4 + Int32.ofNat si) ((si + 1) % 3) + own_rk pr rn (rn si * 4 + Int32.ofNat si) ((si + 2) % 3) then Int32.ofNat si else f j
theorem own_place_pos {pr rn f : Nat → Int32} {si rk r2 : Nat} {pi : Int32} (h : ¬ pr si = 0) (hp : pi = Int32.ofNat si) (h1 : rk = own_rk pr rn (rn si * 4 + pi) ((si + 1) % 3)) (h2 : r2 = own_rk pr rn (rn si * 4 + pi) ((si + 2) % 3)) (z : Nat) :
    (if z = rk + r2 then Value.int pi else Value.int (f z)) = Value.int (own_place pr rn si f z) := by
  subst h1 h2 hp
  unfold own_place
  rw [if_neg h]
  split <;> rfl
theorem own_mod3 {si : Nat} (h : si < 3) : (Int32.ofNat si + 1) % 3 = Int32.ofNat ((si + 1) % 3) ∧ (Int32.ofNat si + 2) % 3 = Int32.ofNat ((si + 2) % 3) := by
  rcases (by omega : si = 0 ∨ si = 1 ∨ si = 2) with rfl | rfl | rfl <;> decide
/-- one answer of the walk: the slot, and how far the keys and the retaken keys are used up -/
def own_nxt (n : Nat) (F : Nat → Int64) (x : Int64) (re nk ra : Nat) : Int32 × Nat × Nat :=
  if ra < re ∧ (nk = n ∨ x < F nk) then (x.toInt32, nk, ra + 1) else if nk < n then ((F nk).toInt32, nk + 1, ra) else (-1, nk, ra)
-- ---- the law's own values
def own_pr (n s0 s1 s2 : Nat) (k : Nat) : Int32 := if k = s2 then (if 2 < n then 1 else 0) else if k = s1 then (if 1 < n then 1 else 0) else if k = s0 then (if 0 < n then 1 else 0) else 0
theorem own_prE {n : Nat} (hn : n < 4) (s0 s1 s2 z : Nat) :
    (if z = s2 then Value.int (nar .boolean (if (2 : Int32) < Int32.ofNat n then (1 : Int32) else (0 : Int32))) else if z = s1 then Value.int (nar .boolean (if (1 : Int32) < Int32.ofNat n then (1 : Int32) else (0 : Int32))) else if z = s0 then Value.int (nar .boolean (if (0 : Int32) < Int32.ofNat n then (1 : Int32) else (0 : Int32))) else Value.int (0 : Int32)) = Value.int (own_pr n s0 s1 s2 z) := by
  unfold own_pr
  have e2 : nar .boolean (if (2 : Int32) < Int32.ofNat n then (1 : Int32) else (0 : Int32)) = (if 2 < n then 1 else 0) := by
    rcases (by omega : n = 0 ∨ n = 1 ∨ n = 2 ∨ n = 3) with rfl | rfl | rfl | rfl <;> decide
  have e1 : nar .boolean (if (1 : Int32) < Int32.ofNat n then (1 : Int32) else (0 : Int32)) = (if 1 < n then 1 else 0) := by
    rcases (by omega : n = 0 ∨ n = 1 ∨ n = 2 ∨ n = 3) with rfl | rfl | rfl | rfl <;> decide
  have e0 : nar .boolean (if (0 : Int32) < Int32.ofNat n then (1 : Int32) else (0 : Int32)) = (if 0 < n then 1 else 0) := by
    rcases (by omega : n = 0 ∨ n = 1 ∨ n = 2 ∨ n = 3) with rfl | rfl | rfl | rfl <;> decide
  rw [e2, e1, e0]
  by_cases z2 : z = s2
  · rw [if_pos z2, if_pos z2]
  · rw [if_neg z2, if_neg z2]
    by_cases z1 : z = s1
    · rw [if_pos z1, if_pos z1]
    · rw [if_neg z1, if_neg z1]
      by_cases z0 : z = s0
      · rw [if_pos z0, if_pos z0]
      · rw [if_neg z0, if_neg z0]
def own_rn (q0 q1 q2 : Nat) (k : Nat) : Int32 := Int32.ofNat (own_tri q0 q1 q2 k)
def own_e (n s0 s1 s2 q0 q1 q2 : Nat) : Nat → Int32 := own_place (own_pr n s0 s1 s2) (own_rn q0 q1 q2) 2 (own_place (own_pr n s0 s1 s2) (own_rn q0 q1 q2) 1 (own_place (own_pr n s0 s1 s2) (own_rn q0 q1 q2) 0 (fun _ => -1)))
def own_chk (n : Nat) (F : Nat → Int64) (x : Int64) (re nk ra : Nat) (mf : Nat → Int32) : Bool :=
  decide ((own_nxt n F x re nk ra).1 = mf 0) &&
  (decide ((own_nxt n F x re (own_nxt n F x re nk ra).2.1 (own_nxt n F x re nk ra).2.2).1 = mf 1) &&
  ((fun b : Int32 × Nat × Nat => (fun c : Int32 × Nat × Nat => decide (c.1 = mf 2) && decide ((own_nxt n F x re c.2.1 c.2.2).1 = mf 3)) (own_nxt n F x re b.2.1 b.2.2)) (own_nxt n F x re (own_nxt n F x re nk ra).2.1 (own_nxt n F x re nk ra).2.2)))
theorem own_chk4 {n : Nat} {F : Nat → Int64} {x : Int64} {re nk ra : Nat} {mf : Nat → Int32} (h : own_chk n F x re nk ra mf = true) {a b c d : Int32} {n1 r1 n2 r2 n3 r3 n4 r4 : Nat}
    (h1 : own_nxt n F x re nk ra = (a, n1, r1)) (h2 : own_nxt n F x re n1 r1 = (b, n2, r2)) (h3 : own_nxt n F x re n2 r2 = (c, n3, r3)) (h4 : own_nxt n F x re n3 r3 = (d, n4, r4)) : a = mf 0 ∧ b = mf 1 ∧ c = mf 2 ∧ d = mf 3 := by
  simp only [own_chk, h1, h2, h3, h4, Bool.and_eq_true, decide_eq_true_eq] at h
  exact h
def own_mv (a b c d : Int32) (k : Nat) : Int32 := if k = 0 then a else if k = 1 then b else if k = 2 then c else d
def own_mp (pos : Nat) (o e1 e2 : Int32) : Nat → Int32 := if pos = 0 then own_mv o e1 e2 (-1) else if pos = 1 then own_mv e1 o e2 (-1) else own_mv e1 e2 o (-1)
def own_ps (n : Nat) (rn : Nat → Int32) (e1 e2 big : Int32) : Nat :=
  (if 1 < n ∧ rn e1.toNatClampNeg * 4 + e1 < big then 1 else 0) + (if 2 < n ∧ rn e2.toNatClampNeg * 4 + e2 < big then 1 else 0)
def own_isN (y : Int32) : Bool := decide (y = Int32.ofNat y.toNatClampNeg) && decide (y.toNatClampNeg < 3)
def own_okF (n : Nat) (F : Nat → Int64) (E rn : Nat → Int32) (y : Int32 × Nat × Nat) : Bool :=
  decide (y.1 = E 0) && (own_chk n F 0 0 y.2.1 y.2.2 (own_mv (E 1) (E 2) (-1) (-1)) &&
    (decide (y.1 = -1) || (own_isN y.1 && ((decide (n ≤ 1) || own_isN (E 1)) && ((decide (n ≤ 2) || own_isN (E 2)) &&
      (List.range 8).all fun rr => own_chk n F (own_key (Int32.ofNat rr) y.1) 1 y.2.1 y.2.2 (own_mp (own_ps n rn (E 1) (E 2) (Int32.ofNat rr * 4 + y.1)) y.1 (E 1) (E 2)))))))
def own_okB (n s0 s1 s2 q0 q1 q2 : Nat) : Bool := !(own_perm s0 s1 s2) || own_okF n (own_fin n s0 s1 s2 q0 q1 q2) (own_e n s0 s1 s2 q0 q1 q2) (own_rn q0 q1 q2) (own_nxt n (own_fin n s0 s1 s2 q0 q1 q2) 0 0 0 0)
set_option maxRecDepth 100000 in
theorem own_ok_all : ((List.range 4).all fun n => (List.range 3).all fun a => (List.range 3).all fun b => (List.range 3).all fun c => (List.range 4).all fun x => (List.range 4).all fun y => (List.range 4).all fun z => own_okB n a b c x y z) = true := by decide +kernel
theorem own_nat {y : Int32} (b : Nat) (h0 : 0 ≤ y.toInt) (h1 : y.toInt < b) (hb : b ≤ 1000) : ∃ n, n < b ∧ y = Int32.ofNat n :=
  ⟨y.toInt.toNat, by omega, Int32.toInt_inj.mp (by rw [toInt_of (n := Int32.ofNat _) rfl (by omega)]; omega)⟩
theorem own_m3x (x : Int32) : ∃ n, n < 4 ∧ x &&& (3 : Int32) = Int32.ofNat n := by
  have h := c_mask x 3 2 (by decide) (by decide)
  exact own_nat 4 (by omega) (by omega) (by decide)
theorem own_m7x (x : Int32) : ∃ n, n < 8 ∧ x &&& (7 : Int32) = Int32.ofNat n := by
  have h := c_mask x 7 3 (by decide) (by decide)
  exact own_nat 8 (by omega) (by omega) (by decide)
theorem own_r3x (x : Int32) : ∃ n, n < 3 ∧ (x &&& (255 : Int32)) % (3 : Int32) = Int32.ofNat n := by
  have h := c_mask x 255 8 (by decide) (by decide)
  have e : ((x &&& (255 : Int32)) % (3 : Int32)).toInt = (x &&& (255 : Int32)).toInt.tmod 3 := Int32.toInt_mod _ _
  have a1 := Int.tmod_nonneg 3 (a := (x &&& (255 : Int32)).toInt) (by omega)
  have a2 := Int.tmod_lt_of_pos (x &&& (255 : Int32)).toInt (b := 3) (by decide)
  exact own_nat 3 (by omega) (by omega) (by decide)
theorem own_step (P : Prop) [Decidable P] : ∃ w, (w = 1 ∨ w = 2) ∧ (if (if P then (0 : Int32) else (1 : Int32)) = (0 : Int32) then (1 : Int32) else (2 : Int32)) = Int32.ofNat w := by
  by_cases h : P
  · exact ⟨1, Or.inl rfl, by rw [if_pos h]; decide⟩
  · exact ⟨2, Or.inr rfl, by rw [if_neg h]; decide⟩
theorem own_order {s0 w : Nat} (h : s0 < 3) (hw : w = 1 ∨ w = 2) : ∃ s1 s2, own_perm s0 s1 s2 = true ∧ (Int32.ofNat s0 + Int32.ofNat w) % (3 : Int32) = Int32.ofNat s1 ∧ (Int32.ofNat s0 + (2 : Int32) * Int32.ofNat w) % (3 : Int32) = Int32.ofNat s2 := by
  refine ⟨(s0 + w) % 3, (s0 + 2 * w) % 3, ?_⟩
  rcases (by omega : s0 = 0 ∨ s0 = 1 ∨ s0 = 2) with rfl | rfl | rfl <;> rcases hw with rfl | rfl <;> decide
theorem own_ok {n s0 s1 s2 q0 q1 q2 : Nat} (hn : n < 4) (hp : own_perm s0 s1 s2 = true) (h0 : q0 < 4) (h1 : q1 < 4) (h2 : q2 < 4) {o : Int32} {nk ra : Nat} (hx : own_nxt n (own_fin n s0 s1 s2 q0 q1 q2) 0 0 0 0 = (o, nk, ra)) :
    o = own_e n s0 s1 s2 q0 q1 q2 0 ∧ own_chk n (own_fin n s0 s1 s2 q0 q1 q2) 0 0 nk ra (own_mv (own_e n s0 s1 s2 q0 q1 q2 1) (own_e n s0 s1 s2 q0 q1 q2 2) (-1) (-1)) = true ∧ (¬ o = -1 → own_isN o = true ∧ (1 < n → own_isN (own_e n s0 s1 s2 q0 q1 q2 1) = true) ∧ (2 < n → own_isN (own_e n s0 s1 s2 q0 q1 q2 2) = true) ∧
      ∀ rr, rr < 8 → own_chk n (own_fin n s0 s1 s2 q0 q1 q2) (own_key (Int32.ofNat rr) o) 1 nk ra (own_mp (own_ps n (own_rn q0 q1 q2) (own_e n s0 s1 s2 q0 q1 q2 1) (own_e n s0 s1 s2 q0 q1 q2 2) (Int32.ofNat rr * 4 + o)) o (own_e n s0 s1 s2 q0 q1 q2 1) (own_e n s0 s1 s2 q0 q1 q2 2)) = true) := by
  obtain ⟨l0, l1, l2⟩ := own_perm_lt hp
  have h := own_all7 own_ok_all hn l0 l1 l2 h0 h1 h2
  rw [own_okB, hp, hx] at h
  generalize own_e n s0 s1 s2 q0 q1 q2 = E at h ⊢
  generalize own_fin n s0 s1 s2 q0 q1 q2 = F at h ⊢
  generalize own_rn q0 q1 q2 = rn at h ⊢
  simp only [own_okF, Bool.not_true, Bool.false_or, Bool.and_eq_true, Bool.or_eq_true, decide_eq_true_eq, List.all_eq_true, List.mem_range] at h
  refine ⟨h.1, h.2.1, fun ho => ?_⟩
  rcases h.2.2 with q | q
  · exact absurd q ho
  · exact ⟨q.1, fun h1n => q.2.1.resolve_left (by omega), fun h2n => q.2.2.1.resolve_left (by omega), q.2.2.2⟩
theorem own_isN2 {y : Int32} (h : own_isN y = true) : y = Int32.ofNat y.toNatClampNeg ∧ y.toNatClampNeg < 3 := by
  simpa only [own_isN, Bool.and_eq_true, decide_eq_true_eq] using h
theorem own_3c {P : Nat → Prop} (h0 : P 0) (h1 : P 1) (h2 : P 2) : ∀ z, z < 3 → P z := by
  intro z hz
  rcases (by omega : z = 0 ∨ z = 1 ∨ z = 2) with rfl | rfl | rfl <;> assumption
theorem own_4c {P : Nat → Prop} (h0 : P 0) (h1 : P 1) (h2 : P 2) (h3 : P 3) : ∀ z, z < 4 → P z := by
  intro z hz
  rcases (by omega : z = 0 ∨ z = 1 ∨ z = 2 ∨ z = 3) with rfl | rfl | rfl | rfl <;> assumption

theorem d10_0 : decode prog_156_method_10_code 0 = .ok (.iload_n 0, 1) := by decide +kernel
theorem d10_1 : decode prog_156_method_10_code 1 = .ok (.i2l, 1) := by decide +kernel
theorem d10_2 : decode prog_156_method_10_code 2 = .ok (.bipush 32, 2) := by decide +kernel
theorem d10_4 : decode prog_156_method_10_code 4 = .ok (.lshl, 1) := by decide +kernel
theorem d10_5 : decode prog_156_method_10_code 5 = .ok (.iload_n 1, 1) := by decide +kernel
theorem d10_6 : decode prog_156_method_10_code 6 = .ok (.i2l, 1) := by decide +kernel
theorem d10_7 : decode prog_156_method_10_code 7 = .ok (.lor, 1) := by decide +kernel
theorem d10_8 : decode prog_156_method_10_code 8 = .ok (.lreturn, 1) := by decide +kernel
theorem pn_10 : plainFor (⟨"com/example/nearside/nearside/slotted/delay/FairBack", "key", "(II)J"⟩ : MethodName) = true := plainFor_of_name (by first | (simp [plainName, overriddenIn]; done) | decide +kernel)
theorem ef_10 (m : MethodId) (p1 : Int32) (p2 : Int32) : entryFrame m #[(.int p1), (.int p2)] 2 = mkF m 0 #[iv p1, iv p2] [] := by first | (simp [entryFrame, mkF, argsToLocals, Value.category]; done) | rfl
set_option maxRecDepth 65536 in
set_option maxHeartbeats 40000000 in
theorem rm10 (l : Launch) (Z : State) (a0 : Array Value) (hw : ∀ d ∈ tables_1, d.before a0 Z = true) (ws : List Jvm.Cond) (p1 : Int32) (p2 : Int32) (h0 : Heap) (n0 : Nat) (Z0 : n0 ≤ h0.size) :
    OwnCtr l Z (⟨"com/example/nearside/nearside/slotted/delay/FairBack", "key", "(II)J"⟩ : MethodName) ws prog_156_method_10_code 2 (some .long) ({ frames := 0, cells := 0, slots := 0, locals := 0 } : Room) #[(.int p1), (.int p2)] h0 (fun v h L => v = some (.long (own_key p1 p2)) ∧ Fr n0 L ∧ h = h0) := by
  refine own_body (g0 := fun m => mkF m 0 #[iv p1, iv p2] []) pn_10 (fun m => ef_10 m p1 p2) ?_
  intro p e s m below meth c s₁ X0 hx hby hml hown hnm hZ e0 hret hlk
  have hml : c.maxLocals = 2 := hml
  have hown : s.vm.findClass "com/example/nearside/nearside/slotted/delay/FairBack" = some m.cls := hown
  have hnm : meth.name = "key" := hnm
  have hret : meth.sig.returnType = (some .long) := hret
  have N0 := Fr.nil n0
  show OwnFin p e below s _ _ _ (s₁.setTop (mkF m 0 #[iv p1, iv p2] []))
  refine own_go (fun t_ k_ => XS.iloadN X0.here hx rfl (hb hby d10_0) rfl k_) ?_
  show OwnFin p e below s _ _ _ (s₁.setTop (mkF m 1 #[iv p1, iv p2] [(.int p1)]))
  refine own_go (fun t_ k_ => XS.i2l X0.here hx rfl (hb hby d10_1) rfl k_) ?_
  show OwnFin p e below s _ _ _ (s₁.setTop (mkF m 2 #[iv p1, iv p2] [(.long (p1.toInt64))]))
  refine own_go (fun t_ k_ => XS.bipush X0.here hx rfl (hb hby d10_2) k_) ?_
  show OwnFin p e below s _ _ _ (s₁.setTop (mkF m 4 #[iv p1, iv p2] [(.int (32 : Int32)), (.long (p1.toInt64))]))
  refine own_go (fun t_ k_ => XS.lshl X0.here hx rfl (hb hby d10_4) rfl k_) ?_
  show OwnFin p e below s _ _ _ (s₁.setTop (mkF m 5 #[iv p1, iv p2] [(.long ((p1.toInt64) <<< ((32 : Int32) &&& 0x3f).toInt64))]))
  refine own_go (fun t_ k_ => XS.iloadN X0.here hx rfl (hb hby d10_5) rfl k_) ?_
  show OwnFin p e below s _ _ _ (s₁.setTop (mkF m 6 #[iv p1, iv p2] [(.int p2), (.long ((p1.toInt64) <<< ((32 : Int32) &&& 0x3f).toInt64))]))
  refine own_go (fun t_ k_ => XS.i2l X0.here hx rfl (hb hby d10_6) rfl k_) ?_
  show OwnFin p e below s _ _ _ (s₁.setTop (mkF m 7 #[iv p1, iv p2] [(.long (p2.toInt64)), (.long ((p1.toInt64) <<< ((32 : Int32) &&& 0x3f).toInt64))]))
  refine own_go (fun t_ k_ => XS.lor X0.here hx rfl (hb hby d10_7) rfl k_) ?_
  show OwnFin p e below s _ _ _ (s₁.setTop (mkF m 8 #[iv p1, iv p2] [(.long (((p1.toInt64) <<< ((32 : Int32) &&& 0x3f).toInt64) ||| (p2.toInt64)))]))
  refine own_ret X0 (v := some (.long (((p1.toInt64) <<< ((32 : Int32) &&& 0x3f).toInt64) ||| (p2.toInt64)))) hlk (fun hh => by rw [hret] at hh; cases hh) (fun fs hr => own_retJ X0 hx hret (hb hby d10_8) hr) (by decide) (by decide) ?_
  rw [e0]
  exact ⟨rfl, N0, rfl⟩
theorem d11_0 : decode jdk_29_method_65_code 0 = .ok (.iload_n 0, 1) := by decide +kernel
theorem d11_1 : decode jdk_29_method_65_code 1 = .ok (.iload_n 1, 1) := by decide +kernel
theorem d11_2 : decode jdk_29_method_65_code 2 = .ok (.if_icmp .lt 7, 3) := by decide +kernel
theorem d11_5 : decode jdk_29_method_65_code 5 = .ok (.iload_n 0, 1) := by decide +kernel
theorem d11_6 : decode jdk_29_method_65_code 6 = .ok (.goto 4, 3) := by decide +kernel
theorem d11_9 : decode jdk_29_method_65_code 9 = .ok (.iload_n 1, 1) := by decide +kernel
theorem d11_10 : decode jdk_29_method_65_code 10 = .ok (.ireturn, 1) := by decide +kernel
theorem pn_11 : plainFor (⟨"java/lang/Math", "max", "(II)I"⟩ : MethodName) = true := Jvm.Free.JP.mathPlain rfl (by decide +kernel)
theorem ef_11 (m : MethodId) (p1 : Int32) (p2 : Int32) : entryFrame m #[(.int p1), (.int p2)] 2 = mkF m 0 #[iv p1, iv p2] [] := by first | (simp [entryFrame, mkF, argsToLocals, Value.category]; done) | rfl
set_option maxRecDepth 65536 in
set_option maxHeartbeats 40000000 in
theorem rm11 (l : Launch) (Z : State) (a0 : Array Value) (hw : ∀ d ∈ tables_1, d.before a0 Z = true) (ws : List Jvm.Cond) (p1 : Int32) (p2 : Int32) (h0 : Heap) (n0 : Nat) (Z0 : n0 ≤ h0.size) :
    OwnCtr l Z (⟨"java/lang/Math", "max", "(II)I"⟩ : MethodName) ws jdk_29_method_65_code 2 (some .int) ({ frames := 0, cells := 0, slots := 0, locals := 0 } : Room) #[(.int p1), (.int p2)] h0 (fun v h L => v = some (.int (own_max p1 p2)) ∧ Fr n0 L ∧ h = h0) := by
  refine own_body (g0 := fun m => mkF m 0 #[iv p1, iv p2] []) pn_11 (fun m => ef_11 m p1 p2) ?_
  intro p e s m below meth c s₁ X0 hx hby hml hown hnm hZ e0 hret hlk
  have hml : c.maxLocals = 2 := hml
  have hown : s.vm.findClass "java/lang/Math" = some m.cls := hown
  have hnm : meth.name = "max" := hnm
  have hret : meth.sig.returnType = (some .int) := hret
  have N0 := Fr.nil n0
  show OwnFin p e below s _ _ _ (s₁.setTop (mkF m 0 #[iv p1, iv p2] []))
  refine own_go (fun t_ k_ => XS.iloadN X0.here hx rfl (hb hby d11_0) rfl k_) ?_
  show OwnFin p e below s _ _ _ (s₁.setTop (mkF m 1 #[iv p1, iv p2] [(.int p1)]))
  refine own_go (fun t_ k_ => XS.iloadN X0.here hx rfl (hb hby d11_1) rfl k_) ?_
  show OwnFin p e below s _ _ _ (s₁.setTop (mkF m 2 #[iv p1, iv p2] [(.int p2), (.int p1)]))
  by_cases hc2 : p1 < p2
  · refine own_go (fun t_ k_ => XS.icmpYes X0.here hx rfl (pc0 := 2) (pc' := 9) rfl (hb hby d11_2) rfl (tlt hc2).1 (by decide) (by decide) k_) ?_
    show OwnFin p e below s _ _ _ (s₁.setTop (mkF m 9 #[iv p1, iv p2] []))
    refine own_go (fun t_ k_ => XS.iloadN X0.here hx rfl (hb hby d11_9) rfl k_) ?_
    show OwnFin p e below s _ _ _ (s₁.setTop (mkF m 10 #[iv p1, iv p2] [(.int p2)]))
    refine own_ret X0 (v := some (.int p2)) hlk (fun hh => by rw [hret] at hh; cases hh) (fun fs hr => own_retI X0 hx hret (hb hby d11_10) hr) (by decide) (by decide) ?_
    rw [e0]
    exact ⟨by simp [own_max, hc2], N0, rfl⟩
  · refine own_go (fun t_ k_ => XS.icmpNo X0.here hx rfl (hb hby d11_2) rfl (flt hc2).1 k_) ?_
    show OwnFin p e below s _ _ _ (s₁.setTop (mkF m 5 #[iv p1, iv p2] []))
    refine own_go (fun t_ k_ => XS.iloadN X0.here hx rfl (hb hby d11_5) rfl k_) ?_
    show OwnFin p e below s _ _ _ (s₁.setTop (mkF m 6 #[iv p1, iv p2] [(.int p1)]))
    refine own_go (fun t_ k_ => XS.goto X0.here hx rfl (pc0 := 6) (pc' := 10) rfl (hb hby d11_6) (by decide) (by decide) k_) ?_
    show OwnFin p e below s _ _ _ (s₁.setTop (mkF m 10 #[iv p1, iv p2] [(.int p1)]))
    refine own_ret X0 (v := some (.int p1)) hlk (fun hh => by rw [hret] at hh; cases hh) (fun fs hr => own_retI X0 hx hret (hb hby d11_10) hr) (by decide) (by decide) ?_
    rw [e0]
    exact ⟨by simp [own_max, hc2], N0, rfl⟩
theorem d6_0 : decode jdk_65_method_30_code 0 = .ok (.iload_n 1, 1) := by decide +kernel
theorem d6_1 : decode jdk_65_method_30_code 1 = .ok (.iload_n 2, 1) := by decide +kernel
theorem d6_2 : decode jdk_65_method_30_code 2 = .ok (.if_icmp .le 44, 3) := by decide +kernel
theorem d6_46 : decode jdk_65_method_30_code 46 = .ok (.iload_n 1, 1) := by decide +kernel
theorem d6_47 : decode jdk_65_method_30_code 47 = .ok (.ifCond .ge 12, 3) := by decide +kernel
theorem d6_59 : decode jdk_65_method_30_code 59 = .ok (.iload_n 2, 1) := by decide +kernel
theorem d6_60 : decode jdk_65_method_30_code 60 = .ok (.iload_n 0, 1) := by decide +kernel
theorem d6_61 : decode jdk_65_method_30_code 61 = .ok (.if_icmp .le 12, 3) := by decide +kernel
theorem d6_73 : decode jdk_65_method_30_code 73 = .ok (.return_, 1) := by decide +kernel
theorem pn_6 : plainFor (⟨"java/util/Arrays", "rangeCheck", "(III)V"⟩ : MethodName) = true := plainFor_of_name (by first | (simp [plainName, overriddenIn]; done) | decide +kernel)
theorem ef_6 (m : MethodId) (pl : Int32) (pt : Int32) : entryFrame m #[(.int pl), (.int (0 : Int32)), (.int pt)] 3 = mkF m 0 #[iv pl, iv (0 : Int32), iv pt] [] := by first | (simp [entryFrame, mkF, argsToLocals, Value.category]; done) | rfl
set_option maxRecDepth 65536 in
set_option maxHeartbeats 40000000 in
theorem rm6 (l : Launch) (Z : State) (a0 : Array Value) (hw : ∀ d ∈ tables_1, d.before a0 Z = true) (ws : List Jvm.Cond) (pl : Int32) (pt : Int32) (h0 : Heap) (n0 : Nat) (Z0 : n0 ≤ h0.size) (h1 : ¬ (pt < (0 : Int32))) (h2 : ¬ (pl < pt)) :
    OwnCtr l Z (⟨"java/util/Arrays", "rangeCheck", "(III)V"⟩ : MethodName) ws jdk_65_method_30_code 3 none ({ frames := 0, cells := 0, slots := 0, locals := 0 } : Room) #[(.int pl), (.int (0 : Int32)), (.int pt)] h0 (fun v h L => v = none ∧ Fr n0 L ∧ h = h0) := by
  refine own_body (g0 := fun m => mkF m 0 #[iv pl, iv (0 : Int32), iv pt] []) pn_6 (fun m => ef_6 m pl pt) ?_
  intro p e s m below meth c s₁ X0 hx hby hml hown hnm hZ e0 hret hlk
  have hml : c.maxLocals = 3 := hml
  have hown : s.vm.findClass "java/util/Arrays" = some m.cls := hown
  have hnm : meth.name = "rangeCheck" := hnm
  have hret : meth.sig.returnType = none := hret
  have N0 := Fr.nil n0
  show OwnFin p e below s _ _ _ (s₁.setTop (mkF m 0 #[iv pl, iv (0 : Int32), iv pt] []))
  refine own_go (fun t_ k_ => XS.iloadN X0.here hx rfl (hb hby d6_0) rfl k_) ?_
  show OwnFin p e below s _ _ _ (s₁.setTop (mkF m 1 #[iv pl, iv (0 : Int32), iv pt] [(.int (0 : Int32))]))
  refine own_go (fun t_ k_ => XS.iloadN X0.here hx rfl (hb hby d6_1) rfl k_) ?_
  show OwnFin p e below s _ _ _ (s₁.setTop (mkF m 2 #[iv pl, iv (0 : Int32), iv pt] [(.int pt), (.int (0 : Int32))]))
  have hc2 : ¬ (pt < (0 : Int32)) := h1
  refine own_go (fun t_ k_ => XS.icmpYes X0.here hx rfl (pc0 := 2) (pc' := 46) rfl (hb hby d6_2) rfl (flt hc2).2.2.2 (by decide) (by decide) k_) ?_
  show OwnFin p e below s _ _ _ (s₁.setTop (mkF m 46 #[iv pl, iv (0 : Int32), iv pt] []))
  refine own_go (fun t_ k_ => XS.iloadN X0.here hx rfl (hb hby d6_46) rfl k_) ?_
  show OwnFin p e below s _ _ _ (s₁.setTop (mkF m 47 #[iv pl, iv (0 : Int32), iv pt] [(.int (0 : Int32))]))
  refine own_go (fun t_ k_ => XS.ifYes X0.here hx rfl (pc0 := 47) (pc' := 59) rfl (hb hby d6_47) rfl ((if0 _ _).trans (flt (by decide)).2.1) (by decide) (by decide) k_) ?_
  show OwnFin p e below s _ _ _ (s₁.setTop (mkF m 59 #[iv pl, iv (0 : Int32), iv pt] []))
  refine own_go (fun t_ k_ => XS.iloadN X0.here hx rfl (hb hby d6_59) rfl k_) ?_
  show OwnFin p e below s _ _ _ (s₁.setTop (mkF m 60 #[iv pl, iv (0 : Int32), iv pt] [(.int pt)]))
  refine own_go (fun t_ k_ => XS.iloadN X0.here hx rfl (hb hby d6_60) rfl k_) ?_
  show OwnFin p e below s _ _ _ (s₁.setTop (mkF m 61 #[iv pl, iv (0 : Int32), iv pt] [(.int pl), (.int pt)]))
  have hc61 : ¬ (pl < pt) := h2
  refine own_go (fun t_ k_ => XS.icmpYes X0.here hx rfl (pc0 := 61) (pc' := 73) rfl (hb hby d6_61) rfl (flt hc61).2.2.2 (by decide) (by decide) k_) ?_
  show OwnFin p e below s _ _ _ (s₁.setTop (mkF m 73 #[iv pl, iv (0 : Int32), iv pt] []))
  refine own_ret X0 (v := none) hlk (fun _ => rfl) (fun fs hr => X0.returnOut hx hret (hb hby d6_73) hr) (by decide) (by decide) ?_
  rw [e0]
  exact ⟨rfl, N0, rfl⟩
theorem d5_0 : decode jdk_65_method_104_code 0 = .ok (.aload_n 0, 1) := by decide +kernel
theorem d5_1 : decode jdk_65_method_104_code 1 = .ok (.arraylength, 1) := by decide +kernel
theorem d5_2 : decode jdk_65_method_104_code 2 = .ok (.iload_n 1, 1) := by decide +kernel
theorem d5_3 : decode jdk_65_method_104_code 3 = .ok (.iload_n 2, 1) := by decide +kernel
theorem d5_4 : decode jdk_65_method_104_code 4 = .ok (.invokestatic 13, 3) := by decide +kernel
theorem d5_7 : decode jdk_65_method_104_code 7 = .ok (.iload_n 1, 1) := by decide +kernel
theorem d5_8 : decode jdk_65_method_104_code 8 = .ok (.istore 4, 2) := by decide +kernel
theorem d5_10 : decode jdk_65_method_104_code 10 = .ok (.iload 4, 2) := by decide +kernel
theorem d5_12 : decode jdk_65_method_104_code 12 = .ok (.iload_n 2, 1) := by decide +kernel
theorem d5_13 : decode jdk_65_method_104_code 13 = .ok (.if_icmp .ge 14, 3) := by decide +kernel
theorem d5_16 : decode jdk_65_method_104_code 16 = .ok (.aload_n 0, 1) := by decide +kernel
theorem d5_17 : decode jdk_65_method_104_code 17 = .ok (.iload 4, 2) := by decide +kernel
theorem d5_19 : decode jdk_65_method_104_code 19 = .ok (.iload_n 3, 1) := by decide +kernel
theorem d5_20 : decode jdk_65_method_104_code 20 = .ok (.iastore, 1) := by decide +kernel
theorem d5_21 : decode jdk_65_method_104_code 21 = .ok (.iinc 4 1, 3) := by decide +kernel
theorem d5_24 : decode jdk_65_method_104_code 24 = .ok (.goto (-14), 3) := by decide +kernel
theorem d5_27 : decode jdk_65_method_104_code 27 = .ok (.return_, 1) := by decide +kernel
theorem pn_5 : plainFor (⟨"java/util/Arrays", "fill", "([IIII)V"⟩ : MethodName) = true := plainFor_of_name (by first | (simp [plainName, overriddenIn]; done) | decide +kernel)
theorem pd_5_5 : parseMethodDescriptor "(III)V" = some ⟨[.int, .int, .int], none⟩ := by decide +kernel
theorem ef_5 (m : MethodId) (ca : Addr) (pt : Int32) : entryFrame m #[(.ref ca), (.int (0 : Int32)), (.int pt), (.int (0 : Int32))] 5 = mkF m 0 #[rv ca, iv (0 : Int32), iv pt, iv (0 : Int32), .unset] [] := by first | (simp [entryFrame, mkF, argsToLocals, Value.category]; done) | rfl
set_option maxRecDepth 65536 in
set_option maxHeartbeats 40000000 in
theorem rm5 (l : Launch) (Z : State) (a0 : Array Value) (hw : ∀ d ∈ tables_1, d.before a0 Z = true) (ws : List Jvm.Cond) (ca : Addr) (pt : Int32) (n : Nat) (t : Nat) (f : Nat → Value) (h0 : Heap) (n0 : Nat) (Z0 : n0 ≤ h0.size) (V_ca : OwnArr Z h0 ca .int n f) (g_ca : n0 ≤ ca) (ht : pt = Int32.ofNat t) (htn : t ≤ n) (hn : n < 1000) :
    OwnCtr l Z (⟨"java/util/Arrays", "fill", "([IIII)V"⟩ : MethodName) ws jdk_65_method_104_code 5 none ({ frames := 1, cells := 0, slots := 0, locals := 14 } : Room) #[(.ref ca), (.int (0 : Int32)), (.int pt), (.int (0 : Int32))] h0 (fun v h L => v = none ∧ Fr n0 L ∧ Keep h0 h [ca] ∧ OwnArr Z h ca .int n (fun j => if j < t then .int 0 else f j)) := by
  refine own_body (g0 := fun m => mkF m 0 #[rv ca, iv (0 : Int32), iv pt, iv (0 : Int32), .unset] []) pn_5 (fun m => ef_5 m ca pt) ?_
  intro p e s m below meth c s₁ X0 hx hby hml hown hnm hZ e0 hret hlk
  have hml : c.maxLocals = 5 := hml
  have hown : s.vm.findClass "java/util/Arrays" = some m.cls := hown
  have hnm : meth.name = "fill" := hnm
  have hret : meth.sig.returnType = none := hret
  have N0 := Fr.nil n0
  have K0 := Keep.refl h0 [ca]
  show OwnFin p e below s _ _ _ (s₁.setTop (mkF m 0 #[rv ca, iv (0 : Int32), iv pt, iv (0 : Int32), .unset] []))
  have hr1 : ¬ (pt < (0 : Int32)) := by rw [ht, Int32.lt_iff_toInt_lt, toInt_of (n := Int32.ofNat t) rfl (by omega), Int32.toInt_zero]; omega
  have hr2 : ¬ (Int32.ofNat n < pt) := by rw [ht, own_ltN (by omega) (by omega)]; omega
  refine own_go (fun t_ k_ => XS.aloadN X0.here hx rfl (hb hby d5_0) rfl rfl k_) ?_
  show OwnFin p e below s _ _ _ (s₁.setTop (mkF m 1 #[rv ca, iv (0 : Int32), iv pt, iv (0 : Int32), .unset] [(.ref ca)]))
  refine own_go (own_alength X0 hx hZ e0 V_ca (g := (mkF m 1 #[rv ca, iv (0 : Int32), iv pt, iv (0 : Int32), .unset] [(.ref ca)])) rfl rfl (hb hby d5_1)) ?_
  show OwnFin p e below s _ _ _ (s₁.setTop (mkF m 2 #[rv ca, iv (0 : Int32), iv pt, iv (0 : Int32), .unset] [(.int (Int32.ofNat n))]))
  refine own_go (fun t_ k_ => XS.iloadN X0.here hx rfl (hb hby d5_2) rfl k_) ?_
  show OwnFin p e below s _ _ _ (s₁.setTop (mkF m 3 #[rv ca, iv (0 : Int32), iv pt, iv (0 : Int32), .unset] [(.int (0 : Int32)), (.int (Int32.ofNat n))]))
  refine own_go (fun t_ k_ => XS.iloadN X0.here hx rfl (hb hby d5_3) rfl k_) ?_
  show OwnFin p e below s _ _ _ (s₁.setTop (mkF m 4 #[rv ca, iv (0 : Int32), iv pt, iv (0 : Int32), .unset] [(.int pt), (.int (0 : Int32)), (.int (Int32.ofNat n))]))
  obtain ⟨v1, T1, L1, X1, hQ1, st1⟩ := own_callS X0 hx hZ (y := (⟨"java/util/Arrays", "rangeCheck", "(III)V"⟩ : MethodName)) hown (hw _ (List.mem_of_getElem? (i := 39) rfl)) (hw _ (List.mem_of_getElem? (i := 40) rfl)) (hw _ (List.mem_of_getElem? (i := 37) rfl)) (hw _ (List.mem_of_getElem? (i := 41) rfl)) (by decide) (W := 0) (rm6 l Z a0 hw [] (Int32.ofNat n) pt h0 n0 Z0 hr1 hr2) (by decide) (by decide) (g := (mkF m 4 #[rv ca, iv (0 : Int32), iv pt, iv (0 : Int32), .unset] [(.int pt), (.int (0 : Int32)), (.int (Int32.ofNat n))])) rfl (by rw [hml]; rfl) (argsL := [(.int (Int32.ofNat n)), (.int (0 : Int32)), (.int pt)]) (rest := []) (lenOf pd_5_5 rfl) rfl (by show 2 * 0 + _ ≤ _; exact Nat.le_of_eq rfl) (hb hby d5_4) e0 rfl (by decide) (by decide)
  obtain ⟨rfl, Nq1, e1⟩ := hQ1
  have N1 := Fr.app N0 Nq1
  refine own_go st1 ?_
  show OwnFin p e below s _ _ _ (T1.setTop (mkF m 7 #[rv ca, iv (0 : Int32), iv pt, iv (0 : Int32), .unset] []))
  refine own_go (fun t_ k_ => XS.iloadN X1.here hx rfl (hb hby d5_7) rfl k_) ?_
  show OwnFin p e below s _ _ _ (T1.setTop (mkF m 8 #[rv ca, iv (0 : Int32), iv pt, iv (0 : Int32), .unset] [(.int (0 : Int32))]))
  refine own_go (fun t_ k_ => XS.istore X1.here hx rfl (hb hby d5_8) rfl (l' := #[rv ca, iv (0 : Int32), iv pt, iv (0 : Int32), iv (0 : Int32)]) rfl k_) ?_
  show OwnFin p e below s _ _ _ (T1.setTop (mkF m 10 #[rv ca, iv (0 : Int32), iv pt, iv (0 : Int32), iv (0 : Int32)] []))
  have loop : ∀ (d : Nat) (i : Nat) (fi : Nat → Value) (T1 : State) (locs1 : List Loc) (h1 : Heap), Stand p l e ({ frames := 1, cells := 0, slots := 0, locals := 14 } : Room) s m #[(.ref ca), (.int (0 : Int32)), (.int pt), (.int (0 : Int32))] below meth c T1 locs1 0 0 → T1.heap = h1 → Fr n0 locs1 → Keep h0 h1 [ca] → OwnArr Z h1 ca .int n fi → (i + d = t) → (∀ k, k < i → fi k = .int 0) → (∀ k, i ≤ k → fi k = f k) → OwnFin p e below s (fun v h L => v = none ∧ Fr n0 L ∧ Keep h0 h [ca] ∧ OwnArr Z h ca .int n (fun j => if j < t then .int 0 else f j)) 0 0 (T1.setTop (mkF m 10 #[rv ca, iv (0 : Int32), iv pt, iv (0 : Int32), iv (Int32.ofNat i)] [])) := by
    intro d
    induction d with
    | zero =>
      intro i fi T1 locs1 h1 X1 e1 N1 K1 H0 hid hlo hhi
      have Z1 : n0 ≤ h1.size := Nat.le_trans Z0 K1.1
      refine own_go (fun t_ k_ => XS.iload X1.here hx rfl (hb hby d5_10) rfl k_) ?_
      show OwnFin p e below s _ _ _ (T1.setTop (mkF m 12 #[rv ca, iv (0 : Int32), iv pt, iv (0 : Int32), iv (Int32.ofNat i)] [(.int (Int32.ofNat i))]))
      refine own_go (fun t_ k_ => XS.iloadN X1.here hx rfl (hb hby d5_12) rfl k_) ?_
      show OwnFin p e below s _ _ _ (T1.setTop (mkF m 13 #[rv ca, iv (0 : Int32), iv pt, iv (0 : Int32), iv (Int32.ofNat i)] [(.int pt), (.int (Int32.ofNat i))]))
      have hc13 : ¬ ((Int32.ofNat i) < pt) := by rw [ht, own_ltN (by omega) (by omega)]; omega
      refine own_go (fun t_ k_ => XS.icmpYes X1.here hx rfl (pc0 := 13) (pc' := 27) rfl (hb hby d5_13) rfl (flt hc13).2.1 (by decide) (by decide) k_) ?_
      show OwnFin p e below s _ _ _ (T1.setTop (mkF m 27 #[rv ca, iv (0 : Int32), iv pt, iv (0 : Int32), iv (Int32.ofNat i)] []))
      refine own_ret X1 (v := none) hlk (fun _ => rfl) (fun fs hr => X1.returnOut hx hret (hb hby d5_27) hr) (by decide) (by decide) ?_
      rw [e1]
      exact ⟨rfl, N1, K1, H0.congr (fun z hz => by rcases Nat.lt_or_ge z t with q | q; exact (hlo z (by omega)).trans (if_pos q).symm; exact (hhi z (by omega)).trans (if_neg (Nat.not_lt.mpr q)).symm)⟩
    | succ d ih =>
      intro i fi T1 locs1 h1 X1 e1 N1 K1 H0 hid hlo hhi
      have Z1 : n0 ≤ h1.size := Nat.le_trans Z0 K1.1
      refine own_go (fun t_ k_ => XS.iload X1.here hx rfl (hb hby d5_10) rfl k_) ?_
      show OwnFin p e below s _ _ _ (T1.setTop (mkF m 12 #[rv ca, iv (0 : Int32), iv pt, iv (0 : Int32), iv (Int32.ofNat i)] [(.int (Int32.ofNat i))]))
      refine own_go (fun t_ k_ => XS.iloadN X1.here hx rfl (hb hby d5_12) rfl k_) ?_
      show OwnFin p e below s _ _ _ (T1.setTop (mkF m 13 #[rv ca, iv (0 : Int32), iv pt, iv (0 : Int32), iv (Int32.ofNat i)] [(.int pt), (.int (Int32.ofNat i))]))
      have hc13 : (Int32.ofNat i) < pt := by rw [ht, own_ltN (by omega) (by omega)]; omega
      refine own_go (fun t_ k_ => XS.icmpNo X1.here hx rfl (hb hby d5_13) rfl (tlt hc13).2.1 k_) ?_
      show OwnFin p e below s _ _ _ (T1.setTop (mkF m 16 #[rv ca, iv (0 : Int32), iv pt, iv (0 : Int32), iv (Int32.ofNat i)] []))
      refine own_go (fun t_ k_ => XS.aloadN X1.here hx rfl (hb hby d5_16) rfl rfl k_) ?_
      show OwnFin p e below s _ _ _ (T1.setTop (mkF m 17 #[rv ca, iv (0 : Int32), iv pt, iv (0 : Int32), iv (Int32.ofNat i)] [(.ref ca)]))
      refine own_go (fun t_ k_ => XS.iload X1.here hx rfl (hb hby d5_17) rfl k_) ?_
      show OwnFin p e below s _ _ _ (T1.setTop (mkF m 19 #[rv ca, iv (0 : Int32), iv pt, iv (0 : Int32), iv (Int32.ofNat i)] [(.int (Int32.ofNat i)), (.ref ca)]))
      refine own_go (fun t_ k_ => XS.iloadN X1.here hx rfl (hb hby d5_19) rfl k_) ?_
      show OwnFin p e below s _ _ _ (T1.setTop (mkF m 20 #[rv ca, iv (0 : Int32), iv pt, iv (0 : Int32), iv (Int32.ofNat i)] [(.int (0 : Int32)), (.int (Int32.ofNat i)), (.ref ca)]))
      obtain ⟨T2, h2, X2, e2, W2, A2, st2⟩ := own_iastore X1 hx hZ e1 H0 (i := i) rfl (by omega) (g := (mkF m 20 #[rv ca, iv (0 : Int32), iv pt, iv (0 : Int32), iv (Int32.ofNat i)] [(.int (0 : Int32)), (.int (Int32.ofNat i)), (.ref ca)])) rfl rfl (hb hby d5_20)
      have Z2 : n0 ≤ h2.size := Nat.le_trans Z1 (Keep.of_wr W2).1
      have K2 : Keep h0 h2 [ca] := K1.wr W2 (Or.inl (List.mem_of_getElem? (i := 0) rfl))
      have N2 := Fr.snoc X2 N1 g_ca
      refine own_go st2 ?_
      show OwnFin p e below s _ _ _ (T2.setTop (mkF m 21 #[rv ca, iv (0 : Int32), iv pt, iv (0 : Int32), iv (Int32.ofNat i)] []))
      refine own_go (fun t_ k_ => XS.iinc X2.here hx rfl (hb hby d5_21) rfl (l' := #[rv ca, iv (0 : Int32), iv pt, iv (0 : Int32), iv ((Int32.ofNat i) + (1 : Int32))]) rfl k_) ?_
      show OwnFin p e below s _ _ _ (T2.setTop (mkF m 24 #[rv ca, iv (0 : Int32), iv pt, iv (0 : Int32), iv ((Int32.ofNat i) + (1 : Int32))] []))
      refine own_go (fun t_ k_ => XS.goto X2.here hx rfl (pc0 := 24) (pc' := 10) rfl (hb hby d5_24) (by decide) (by decide) k_) ?_
      show OwnFin p e below s _ _ _ (T2.setTop (mkF m 10 #[rv ca, iv (0 : Int32), iv pt, iv (0 : Int32), iv ((Int32.ofNat i) + (1 : Int32))] []))
      have einc : Int32.ofNat i + (1 : Int32) = Int32.ofNat (i + 1) := (inc_ofNat i).symm
      rw [einc]
      exact ih (i + 1) _ T2 _ _ X2 e2 N2 K2 A2 (by omega) (fun k hk => by by_cases q : k = i; exact if_pos q; exact (if_neg q).trans (hlo k (by omega))) (fun k hk => (if_neg (by omega)).trans (hhi k (by omega)))
  exact loop t 0 _ T1 _ _ X1 e1 N1 K0 V_ca (by omega) (fun k hk => absurd hk (Nat.not_lt_zero k)) (fun k hk => rfl)
theorem d4_0 : decode prog_156_method_5_code 0 = .ok (.iconst 0, 1) := by decide +kernel
theorem d4_1 : decode prog_156_method_5_code 1 = .ok (.istore_n 3, 1) := by decide +kernel
theorem d4_2 : decode prog_156_method_5_code 2 = .ok (.iconst 0, 1) := by decide +kernel
theorem d4_3 : decode prog_156_method_5_code 3 = .ok (.istore 4, 2) := by decide +kernel
theorem d4_5 : decode prog_156_method_5_code 5 = .ok (.iload 4, 2) := by decide +kernel
theorem d4_7 : decode prog_156_method_5_code 7 = .ok (.aload_n 0, 1) := by decide +kernel
theorem d4_8 : decode prog_156_method_5_code 8 = .ok (.getfield 29, 3) := by decide +kernel
theorem d4_11 : decode prog_156_method_5_code 11 = .ok (.if_icmp .ge 67, 3) := by decide +kernel
theorem d4_14 : decode prog_156_method_5_code 14 = .ok (.aload_n 0, 1) := by decide +kernel
theorem d4_15 : decode prog_156_method_5_code 15 = .ok (.getfield 13, 3) := by decide +kernel
theorem d4_18 : decode prog_156_method_5_code 18 = .ok (.iload 4, 2) := by decide +kernel
theorem d4_20 : decode prog_156_method_5_code 20 = .ok (.iaload, 1) := by decide +kernel
theorem d4_21 : decode prog_156_method_5_code 21 = .ok (.istore 5, 2) := by decide +kernel
theorem d4_23 : decode prog_156_method_5_code 23 = .ok (.aload_n 0, 1) := by decide +kernel
theorem d4_24 : decode prog_156_method_5_code 24 = .ok (.getfield 26, 3) := by decide +kernel
theorem d4_27 : decode prog_156_method_5_code 27 = .ok (.iload 5, 2) := by decide +kernel
theorem d4_29 : decode prog_156_method_5_code 29 = .ok (.iload 4, 2) := by decide +kernel
theorem d4_31 : decode prog_156_method_5_code 31 = .ok (.iload_n 2, 1) := by decide +kernel
theorem d4_32 : decode prog_156_method_5_code 32 = .ok (.if_icmp .ge 7, 3) := by decide +kernel
theorem d4_35 : decode prog_156_method_5_code 35 = .ok (.iconst 0, 1) := by decide +kernel
theorem d4_36 : decode prog_156_method_5_code 36 = .ok (.goto 10, 3) := by decide +kernel
theorem d4_46 : decode prog_156_method_5_code 46 = .ok (.iastore, 1) := by decide +kernel
theorem d4_47 : decode prog_156_method_5_code 47 = .ok (.aload_n 0, 1) := by decide +kernel
theorem d4_48 : decode prog_156_method_5_code 48 = .ok (.getfield 20, 3) := by decide +kernel
theorem d4_51 : decode prog_156_method_5_code 51 = .ok (.iload 4, 2) := by decide +kernel
theorem d4_53 : decode prog_156_method_5_code 53 = .ok (.aload_n 1, 1) := by decide +kernel
theorem d4_54 : decode prog_156_method_5_code 54 = .ok (.iload 5, 2) := by decide +kernel
theorem d4_56 : decode prog_156_method_5_code 56 = .ok (.iaload, 1) := by decide +kernel
theorem d4_57 : decode prog_156_method_5_code 57 = .ok (.iload 5, 2) := by decide +kernel
theorem d4_59 : decode prog_156_method_5_code 59 = .ok (.invokestatic 33, 3) := by decide +kernel
theorem d4_62 : decode prog_156_method_5_code 62 = .ok (.lastore, 1) := by decide +kernel
theorem d4_63 : decode prog_156_method_5_code 63 = .ok (.iload_n 3, 1) := by decide +kernel
theorem d4_64 : decode prog_156_method_5_code 64 = .ok (.aload_n 1, 1) := by decide +kernel
theorem d4_65 : decode prog_156_method_5_code 65 = .ok (.iload 5, 2) := by decide +kernel
theorem d4_67 : decode prog_156_method_5_code 67 = .ok (.iaload, 1) := by decide +kernel
theorem d4_68 : decode prog_156_method_5_code 68 = .ok (.invokestatic 37, 3) := by decide +kernel
theorem d4_71 : decode prog_156_method_5_code 71 = .ok (.istore_n 3, 1) := by decide +kernel
theorem d4_72 : decode prog_156_method_5_code 72 = .ok (.iinc 4 1, 3) := by decide +kernel
theorem d4_75 : decode prog_156_method_5_code 75 = .ok (.goto (-70), 3) := by decide +kernel
theorem d4_78 : decode prog_156_method_5_code 78 = .ok (.iload_n 3, 1) := by decide +kernel
theorem d4_79 : decode prog_156_method_5_code 79 = .ok (.iconst 2, 1) := by decide +kernel
theorem d4_80 : decode prog_156_method_5_code 80 = .ok (.iadd, 1) := by decide +kernel
theorem d4_81 : decode prog_156_method_5_code 81 = .ok (.aload_n 0, 1) := by decide +kernel
theorem d4_82 : decode prog_156_method_5_code 82 = .ok (.getfield 7, 3) := by decide +kernel
theorem d4_85 : decode prog_156_method_5_code 85 = .ok (.arraylength, 1) := by decide +kernel
theorem d4_86 : decode prog_156_method_5_code 86 = .ok (.if_icmp .le 22, 3) := by decide +kernel
theorem d4_89 : decode prog_156_method_5_code 89 = .ok (.aload_n 0, 1) := by decide +kernel
theorem d4_90 : decode prog_156_method_5_code 90 = .ok (.iload_n 3, 1) := by decide +kernel
theorem d4_91 : decode prog_156_method_5_code 91 = .ok (.iconst 2, 1) := by decide +kernel
theorem d4_92 : decode prog_156_method_5_code 92 = .ok (.iadd, 1) := by decide +kernel
theorem d4_93 : decode prog_156_method_5_code 93 = .ok (.iconst 2, 1) := by decide +kernel
theorem d4_94 : decode prog_156_method_5_code 94 = .ok (.aload_n 0, 1) := by decide +kernel
theorem d4_95 : decode prog_156_method_5_code 95 = .ok (.getfield 7, 3) := by decide +kernel
theorem d4_98 : decode prog_156_method_5_code 98 = .ok (.arraylength, 1) := by decide +kernel
theorem d4_99 : decode prog_156_method_5_code 99 = .ok (.imul, 1) := by decide +kernel
theorem d4_100 : decode prog_156_method_5_code 100 = .ok (.invokestatic 37, 3) := by decide +kernel
theorem d4_103 : decode prog_156_method_5_code 103 = .ok (.newarray .int, 2) := by decide +kernel
theorem d4_105 : decode prog_156_method_5_code 105 = .ok (.putfield 7, 3) := by decide +kernel
theorem d4_108 : decode prog_156_method_5_code 108 = .ok (.aload_n 0, 1) := by decide +kernel
theorem d4_109 : decode prog_156_method_5_code 109 = .ok (.getfield 7, 3) := by decide +kernel
theorem d4_112 : decode prog_156_method_5_code 112 = .ok (.iconst 0, 1) := by decide +kernel
theorem d4_113 : decode prog_156_method_5_code 113 = .ok (.iload_n 3, 1) := by decide +kernel
theorem d4_114 : decode prog_156_method_5_code 114 = .ok (.iconst 2, 1) := by decide +kernel
theorem d4_115 : decode prog_156_method_5_code 115 = .ok (.iadd, 1) := by decide +kernel
theorem d4_116 : decode prog_156_method_5_code 116 = .ok (.iconst 0, 1) := by decide +kernel
theorem d4_117 : decode prog_156_method_5_code 117 = .ok (.invokestatic 43, 3) := by decide +kernel
theorem d4_120 : decode prog_156_method_5_code 120 = .ok (.iconst 0, 1) := by decide +kernel
theorem d4_121 : decode prog_156_method_5_code 121 = .ok (.istore 4, 2) := by decide +kernel
theorem d4_123 : decode prog_156_method_5_code 123 = .ok (.iload 4, 2) := by decide +kernel
theorem d4_125 : decode prog_156_method_5_code 125 = .ok (.aload_n 0, 1) := by decide +kernel
theorem d4_126 : decode prog_156_method_5_code 126 = .ok (.getfield 29, 3) := by decide +kernel
theorem d4_129 : decode prog_156_method_5_code 129 = .ok (.if_icmp .ge 31, 3) := by decide +kernel
theorem d4_132 : decode prog_156_method_5_code 132 = .ok (.aload_n 0, 1) := by decide +kernel
theorem d4_133 : decode prog_156_method_5_code 133 = .ok (.getfield 7, 3) := by decide +kernel
theorem d4_136 : decode prog_156_method_5_code 136 = .ok (.aload_n 0, 1) := by decide +kernel
theorem d4_137 : decode prog_156_method_5_code 137 = .ok (.getfield 20, 3) := by decide +kernel
theorem d4_140 : decode prog_156_method_5_code 140 = .ok (.iload 4, 2) := by decide +kernel
theorem d4_142 : decode prog_156_method_5_code 142 = .ok (.laload, 1) := by decide +kernel
theorem d4_143 : decode prog_156_method_5_code 143 = .ok (.bipush 32, 2) := by decide +kernel
theorem d4_145 : decode prog_156_method_5_code 145 = .ok (.lushr, 1) := by decide +kernel
theorem d4_146 : decode prog_156_method_5_code 146 = .ok (.l2i, 1) := by decide +kernel
theorem d4_147 : decode prog_156_method_5_code 147 = .ok (.iconst 1, 1) := by decide +kernel
theorem d4_148 : decode prog_156_method_5_code 148 = .ok (.iadd, 1) := by decide +kernel
theorem d4_149 : decode prog_156_method_5_code 149 = .ok (.dup2, 1) := by decide +kernel
theorem d4_150 : decode prog_156_method_5_code 150 = .ok (.iaload, 1) := by decide +kernel
theorem d4_151 : decode prog_156_method_5_code 151 = .ok (.iconst 1, 1) := by decide +kernel
theorem d4_152 : decode prog_156_method_5_code 152 = .ok (.iadd, 1) := by decide +kernel
theorem d4_153 : decode prog_156_method_5_code 153 = .ok (.iastore, 1) := by decide +kernel
theorem d4_154 : decode prog_156_method_5_code 154 = .ok (.iinc 4 1, 3) := by decide +kernel
theorem d4_157 : decode prog_156_method_5_code 157 = .ok (.goto (-34), 3) := by decide +kernel
theorem d4_160 : decode prog_156_method_5_code 160 = .ok (.iconst 1, 1) := by decide +kernel
theorem d4_161 : decode prog_156_method_5_code 161 = .ok (.istore 4, 2) := by decide +kernel
theorem d4_163 : decode prog_156_method_5_code 163 = .ok (.iload 4, 2) := by decide +kernel
theorem d4_165 : decode prog_156_method_5_code 165 = .ok (.iload_n 3, 1) := by decide +kernel
theorem d4_166 : decode prog_156_method_5_code 166 = .ok (.if_icmp .gt 28, 3) := by decide +kernel
theorem d4_169 : decode prog_156_method_5_code 169 = .ok (.aload_n 0, 1) := by decide +kernel
theorem d4_170 : decode prog_156_method_5_code 170 = .ok (.getfield 7, 3) := by decide +kernel
theorem d4_173 : decode prog_156_method_5_code 173 = .ok (.iload 4, 2) := by decide +kernel
theorem d4_175 : decode prog_156_method_5_code 175 = .ok (.dup2, 1) := by decide +kernel
theorem d4_176 : decode prog_156_method_5_code 176 = .ok (.iaload, 1) := by decide +kernel
theorem d4_177 : decode prog_156_method_5_code 177 = .ok (.aload_n 0, 1) := by decide +kernel
theorem d4_178 : decode prog_156_method_5_code 178 = .ok (.getfield 7, 3) := by decide +kernel
theorem d4_181 : decode prog_156_method_5_code 181 = .ok (.iload 4, 2) := by decide +kernel
theorem d4_183 : decode prog_156_method_5_code 183 = .ok (.iconst 1, 1) := by decide +kernel
theorem d4_184 : decode prog_156_method_5_code 184 = .ok (.isub, 1) := by decide +kernel
theorem d4_185 : decode prog_156_method_5_code 185 = .ok (.iaload, 1) := by decide +kernel
theorem d4_186 : decode prog_156_method_5_code 186 = .ok (.iadd, 1) := by decide +kernel
theorem d4_187 : decode prog_156_method_5_code 187 = .ok (.iastore, 1) := by decide +kernel
theorem d4_188 : decode prog_156_method_5_code 188 = .ok (.iinc 4 1, 3) := by decide +kernel
theorem d4_191 : decode prog_156_method_5_code 191 = .ok (.goto (-28), 3) := by decide +kernel
theorem d4_194 : decode prog_156_method_5_code 194 = .ok (.iconst 0, 1) := by decide +kernel
theorem d4_195 : decode prog_156_method_5_code 195 = .ok (.istore 4, 2) := by decide +kernel
theorem d4_197 : decode prog_156_method_5_code 197 = .ok (.iload 4, 2) := by decide +kernel
theorem d4_199 : decode prog_156_method_5_code 199 = .ok (.aload_n 0, 1) := by decide +kernel
theorem d4_200 : decode prog_156_method_5_code 200 = .ok (.getfield 29, 3) := by decide +kernel
theorem d4_203 : decode prog_156_method_5_code 203 = .ok (.if_icmp .ge 52, 3) := by decide +kernel
theorem d4_206 : decode prog_156_method_5_code 206 = .ok (.aload_n 0, 1) := by decide +kernel
theorem d4_207 : decode prog_156_method_5_code 207 = .ok (.getfield 20, 3) := by decide +kernel
theorem d4_210 : decode prog_156_method_5_code 210 = .ok (.iload 4, 2) := by decide +kernel
theorem d4_212 : decode prog_156_method_5_code 212 = .ok (.laload, 1) := by decide +kernel
theorem d4_213 : decode prog_156_method_5_code 213 = .ok (.bipush 32, 2) := by decide +kernel
theorem d4_215 : decode prog_156_method_5_code 215 = .ok (.lushr, 1) := by decide +kernel
theorem d4_216 : decode prog_156_method_5_code 216 = .ok (.l2i, 1) := by decide +kernel
theorem d4_217 : decode prog_156_method_5_code 217 = .ok (.istore 5, 2) := by decide +kernel
theorem d4_219 : decode prog_156_method_5_code 219 = .ok (.aload_n 0, 1) := by decide +kernel
theorem d4_220 : decode prog_156_method_5_code 220 = .ok (.getfield 16, 3) := by decide +kernel
theorem d4_223 : decode prog_156_method_5_code 223 = .ok (.aload_n 0, 1) := by decide +kernel
theorem d4_224 : decode prog_156_method_5_code 224 = .ok (.getfield 7, 3) := by decide +kernel
theorem d4_227 : decode prog_156_method_5_code 227 = .ok (.iload 5, 2) := by decide +kernel
theorem d4_229 : decode prog_156_method_5_code 229 = .ok (.iaload, 1) := by decide +kernel
theorem d4_230 : decode prog_156_method_5_code 230 = .ok (.aload_n 0, 1) := by decide +kernel
theorem d4_231 : decode prog_156_method_5_code 231 = .ok (.getfield 20, 3) := by decide +kernel
theorem d4_234 : decode prog_156_method_5_code 234 = .ok (.iload 4, 2) := by decide +kernel
theorem d4_236 : decode prog_156_method_5_code 236 = .ok (.laload, 1) := by decide +kernel
theorem d4_237 : decode prog_156_method_5_code 237 = .ok (.lastore, 1) := by decide +kernel
theorem d4_238 : decode prog_156_method_5_code 238 = .ok (.aload_n 0, 1) := by decide +kernel
theorem d4_239 : decode prog_156_method_5_code 239 = .ok (.getfield 7, 3) := by decide +kernel
theorem d4_242 : decode prog_156_method_5_code 242 = .ok (.iload 5, 2) := by decide +kernel
theorem d4_244 : decode prog_156_method_5_code 244 = .ok (.dup2, 1) := by decide +kernel
theorem d4_245 : decode prog_156_method_5_code 245 = .ok (.iaload, 1) := by decide +kernel
theorem d4_246 : decode prog_156_method_5_code 246 = .ok (.iconst 1, 1) := by decide +kernel
theorem d4_247 : decode prog_156_method_5_code 247 = .ok (.iadd, 1) := by decide +kernel
theorem d4_248 : decode prog_156_method_5_code 248 = .ok (.iastore, 1) := by decide +kernel
theorem d4_249 : decode prog_156_method_5_code 249 = .ok (.iinc 4 1, 3) := by decide +kernel
theorem d4_252 : decode prog_156_method_5_code 252 = .ok (.goto (-55), 3) := by decide +kernel
theorem d4_255 : decode prog_156_method_5_code 255 = .ok (.iconst 1, 1) := by decide +kernel
theorem d4_256 : decode prog_156_method_5_code 256 = .ok (.istore 4, 2) := by decide +kernel
theorem d4_258 : decode prog_156_method_5_code 258 = .ok (.iload 4, 2) := by decide +kernel
theorem d4_260 : decode prog_156_method_5_code 260 = .ok (.aload_n 0, 1) := by decide +kernel
theorem d4_261 : decode prog_156_method_5_code 261 = .ok (.getfield 29, 3) := by decide +kernel
theorem d4_264 : decode prog_156_method_5_code 264 = .ok (.if_icmp .ge 73, 3) := by decide +kernel
theorem d4_267 : decode prog_156_method_5_code 267 = .ok (.aload_n 0, 1) := by decide +kernel
theorem d4_268 : decode prog_156_method_5_code 268 = .ok (.getfield 16, 3) := by decide +kernel
theorem d4_271 : decode prog_156_method_5_code 271 = .ok (.iload 4, 2) := by decide +kernel
theorem d4_273 : decode prog_156_method_5_code 273 = .ok (.laload, 1) := by decide +kernel
theorem d4_274 : decode prog_156_method_5_code 274 = .ok (.lstore 5, 2) := by decide +kernel
theorem d4_276 : decode prog_156_method_5_code 276 = .ok (.iload 4, 2) := by decide +kernel
theorem d4_278 : decode prog_156_method_5_code 278 = .ok (.istore 7, 2) := by decide +kernel
theorem d4_280 : decode prog_156_method_5_code 280 = .ok (.iload 7, 2) := by decide +kernel
theorem d4_282 : decode prog_156_method_5_code 282 = .ok (.ifCond .le 40, 3) := by decide +kernel
theorem d4_285 : decode prog_156_method_5_code 285 = .ok (.aload_n 0, 1) := by decide +kernel
theorem d4_286 : decode prog_156_method_5_code 286 = .ok (.getfield 16, 3) := by decide +kernel
theorem d4_289 : decode prog_156_method_5_code 289 = .ok (.iload 7, 2) := by decide +kernel
theorem d4_291 : decode prog_156_method_5_code 291 = .ok (.iconst 1, 1) := by decide +kernel
theorem d4_292 : decode prog_156_method_5_code 292 = .ok (.isub, 1) := by decide +kernel
theorem d4_293 : decode prog_156_method_5_code 293 = .ok (.laload, 1) := by decide +kernel
theorem d4_294 : decode prog_156_method_5_code 294 = .ok (.lload 5, 2) := by decide +kernel
theorem d4_296 : decode prog_156_method_5_code 296 = .ok (.lcmp, 1) := by decide +kernel
theorem d4_297 : decode prog_156_method_5_code 297 = .ok (.ifCond .le 25, 3) := by decide +kernel
theorem d4_300 : decode prog_156_method_5_code 300 = .ok (.aload_n 0, 1) := by decide +kernel
theorem d4_301 : decode prog_156_method_5_code 301 = .ok (.getfield 16, 3) := by decide +kernel
theorem d4_304 : decode prog_156_method_5_code 304 = .ok (.iload 7, 2) := by decide +kernel
theorem d4_306 : decode prog_156_method_5_code 306 = .ok (.aload_n 0, 1) := by decide +kernel
theorem d4_307 : decode prog_156_method_5_code 307 = .ok (.getfield 16, 3) := by decide +kernel
theorem d4_310 : decode prog_156_method_5_code 310 = .ok (.iload 7, 2) := by decide +kernel
theorem d4_312 : decode prog_156_method_5_code 312 = .ok (.iconst 1, 1) := by decide +kernel
theorem d4_313 : decode prog_156_method_5_code 313 = .ok (.isub, 1) := by decide +kernel
theorem d4_314 : decode prog_156_method_5_code 314 = .ok (.laload, 1) := by decide +kernel
theorem d4_315 : decode prog_156_method_5_code 315 = .ok (.lastore, 1) := by decide +kernel
theorem d4_316 : decode prog_156_method_5_code 316 = .ok (.iinc 7 (-1), 3) := by decide +kernel
theorem d4_319 : decode prog_156_method_5_code 319 = .ok (.goto (-39), 3) := by decide +kernel
theorem d4_322 : decode prog_156_method_5_code 322 = .ok (.aload_n 0, 1) := by decide +kernel
theorem d4_323 : decode prog_156_method_5_code 323 = .ok (.getfield 16, 3) := by decide +kernel
theorem d4_326 : decode prog_156_method_5_code 326 = .ok (.iload 7, 2) := by decide +kernel
theorem d4_328 : decode prog_156_method_5_code 328 = .ok (.lload 5, 2) := by decide +kernel
theorem d4_330 : decode prog_156_method_5_code 330 = .ok (.lastore, 1) := by decide +kernel
theorem d4_331 : decode prog_156_method_5_code 331 = .ok (.iinc 4 1, 3) := by decide +kernel
theorem d4_334 : decode prog_156_method_5_code 334 = .ok (.goto (-76), 3) := by decide +kernel
theorem d4_337 : decode prog_156_method_5_code 337 = .ok (.iconst 0, 1) := by decide +kernel
theorem d4_338 : decode prog_156_method_5_code 338 = .ok (.istore 4, 2) := by decide +kernel
theorem d4_340 : decode prog_156_method_5_code 340 = .ok (.iload 4, 2) := by decide +kernel
theorem d4_342 : decode prog_156_method_5_code 342 = .ok (.aload_n 0, 1) := by decide +kernel
theorem d4_343 : decode prog_156_method_5_code 343 = .ok (.getfield 29, 3) := by decide +kernel
theorem d4_346 : decode prog_156_method_5_code 346 = .ok (.if_icmp .ge 38, 3) := by decide +kernel
theorem d4_349 : decode prog_156_method_5_code 349 = .ok (.aload_n 0, 1) := by decide +kernel
theorem d4_350 : decode prog_156_method_5_code 350 = .ok (.getfield 13, 3) := by decide +kernel
theorem d4_353 : decode prog_156_method_5_code 353 = .ok (.iload 4, 2) := by decide +kernel
theorem d4_355 : decode prog_156_method_5_code 355 = .ok (.aload_n 0, 1) := by decide +kernel
theorem d4_356 : decode prog_156_method_5_code 356 = .ok (.getfield 16, 3) := by decide +kernel
theorem d4_359 : decode prog_156_method_5_code 359 = .ok (.iload 4, 2) := by decide +kernel
theorem d4_361 : decode prog_156_method_5_code 361 = .ok (.laload, 1) := by decide +kernel
theorem d4_362 : decode prog_156_method_5_code 362 = .ok (.l2i, 1) := by decide +kernel
theorem d4_363 : decode prog_156_method_5_code 363 = .ok (.iastore, 1) := by decide +kernel
theorem d4_364 : decode prog_156_method_5_code 364 = .ok (.aload_n 0, 1) := by decide +kernel
theorem d4_365 : decode prog_156_method_5_code 365 = .ok (.getfield 23, 3) := by decide +kernel
theorem d4_368 : decode prog_156_method_5_code 368 = .ok (.aload_n 0, 1) := by decide +kernel
theorem d4_369 : decode prog_156_method_5_code 369 = .ok (.getfield 13, 3) := by decide +kernel
theorem d4_372 : decode prog_156_method_5_code 372 = .ok (.iload 4, 2) := by decide +kernel
theorem d4_374 : decode prog_156_method_5_code 374 = .ok (.iaload, 1) := by decide +kernel
theorem d4_375 : decode prog_156_method_5_code 375 = .ok (.iload 4, 2) := by decide +kernel
theorem d4_377 : decode prog_156_method_5_code 377 = .ok (.iastore, 1) := by decide +kernel
theorem d4_378 : decode prog_156_method_5_code 378 = .ok (.iinc 4 1, 3) := by decide +kernel
theorem d4_381 : decode prog_156_method_5_code 381 = .ok (.goto (-41), 3) := by decide +kernel
theorem d4_384 : decode prog_156_method_5_code 384 = .ok (.aload_n 0, 1) := by decide +kernel
theorem d4_385 : decode prog_156_method_5_code 385 = .ok (.aload_n 0, 1) := by decide +kernel
theorem d4_386 : decode prog_156_method_5_code 386 = .ok (.getfield 29, 3) := by decide +kernel
theorem d4_389 : decode prog_156_method_5_code 389 = .ok (.putfield 49, 3) := by decide +kernel
theorem d4_392 : decode prog_156_method_5_code 392 = .ok (.aload_n 0, 1) := by decide +kernel
theorem d4_393 : decode prog_156_method_5_code 393 = .ok (.iconst 0, 1) := by decide +kernel
theorem d4_394 : decode prog_156_method_5_code 394 = .ok (.putfield 52, 3) := by decide +kernel
theorem d4_397 : decode prog_156_method_5_code 397 = .ok (.aload_n 0, 1) := by decide +kernel
theorem d4_398 : decode prog_156_method_5_code 398 = .ok (.iconst 0, 1) := by decide +kernel
theorem d4_399 : decode prog_156_method_5_code 399 = .ok (.putfield 55, 3) := by decide +kernel
theorem d4_402 : decode prog_156_method_5_code 402 = .ok (.aload_n 0, 1) := by decide +kernel
theorem d4_403 : decode prog_156_method_5_code 403 = .ok (.iconst 0, 1) := by decide +kernel
theorem d4_404 : decode prog_156_method_5_code 404 = .ok (.putfield 58, 3) := by decide +kernel
theorem d4_407 : decode prog_156_method_5_code 407 = .ok (.return_, 1) := by decide +kernel
theorem pn_4 : plainFor (⟨"com/example/nearside/nearside/slotted/delay/FairBack", "sort", "([II)V"⟩ : MethodName) = true := plainFor_of_name (by first | (simp [plainName, overriddenIn]; done) | decide +kernel)
theorem pd_4_4 : parseMethodDescriptor "([IIII)V" = some ⟨[(.array .int), .int, .int, .int], none⟩ := by decide +kernel
theorem pd_4_9 : parseMethodDescriptor "(II)I" = some ⟨[.int, .int], some .int⟩ := by decide +kernel
theorem pd_4_8 : parseMethodDescriptor "(II)J" = some ⟨[.int, .int], some .long⟩ := by decide +kernel
theorem ef_4 (m : MethodId) (fo : Addr) (aR : Addr) (pj : Int32) : entryFrame m #[(.ref fo), (.ref aR), (.int pj)] 8 = mkF m 0 #[rv fo, rv aR, iv pj, .unset, .unset, .unset, .unset, .unset] [] := by first | (simp [entryFrame, mkF, argsToLocals, Value.category]; done) | rfl
set_option maxRecDepth 65536 in
set_option maxHeartbeats 40000000 in
theorem rm4 (l : Launch) (Z : State) (a0 : Array Value) (hw : ∀ d ∈ tables_1, d.before a0 Z = true) (ws : List Jvm.Cond) (fo : Addr) (aR : Addr) (pj : Int32) (aS : Addr) (aB : Addr) (aK : Addr) (aT : Addr) (aP : Addr) (aO : Addr) (n : Nat) (s0 : Nat) (s1 : Nat) (s2 : Nat) (q0 : Nat) (q1 : Nat) (q2 : Nat) (fB : Nat → Int32) (fP0 : Nat → Value) (fO0 : Nat → Value) (fT0 : Nat → Value) {u0 : Int32} {u1 : Int32} {u2 : Int32} {u3 : Int32} (h0 : Heap) (n0 : Nat) (Z0 : n0 ≤ h0.size) (hn : n ≤ 3) (hj : pj = Int32.ofNat n) (hperm : own_perm s0 s1 s2 = true) (hq0 : q0 < 4) (hq1 : q1 < 4) (hq2 : q2 < 4) (hB : ∀ k, k < n → fB k = Int32.ofNat (own_tri s0 s1 s2 k)) (E_fo : Exa Z h0 fo "com/example/nearside/nearside/slotted/delay/FairBack") (F_starts : Fld Z h0 fo "com/example/nearside/nearside/slotted/delay/FairBack" "starts" "[I" (.ref aS)) (F_back : Fld Z h0 fo "com/example/nearside/nearside/slotted/delay/FairBack" "back" "[I" (.ref aB)) (F_keys : Fld Z h0 fo "com/example/nearside/nearside/slotted/delay/FairBack" "keys" "[J" (.ref aK)) (F_retaken : Fld Z h0 fo "com/example/nearside/nearside/slotted/delay/FairBack" "retaken" "[J" (.ref aT)) (F_positions : Fld Z h0 fo "com/example/nearside/nearside/slotted/delay/FairBack" "positions" "[I" (.ref aP)) (F_offeredFrom : Fld Z h0 fo "com/example/nearside/nearside/slotted/delay/FairBack" "offeredFrom" "[I" (.ref aO)) (F_size : Fld Z h0 fo "com/example/nearside/nearside/slotted/delay/FairBack" "size" "I" (.int (Int32.ofNat n))) (F_sorted : Fld Z h0 fo "com/example/nearside/nearside/slotted/delay/FairBack" "sorted" "I" (.int u0)) (F_nextKey : Fld Z h0 fo "com/example/nearside/nearside/slotted/delay/FairBack" "nextKey" "I" (.int u1)) (F_retakenAt : Fld Z h0 fo "com/example/nearside/nearside/slotted/delay/FairBack" "retakenAt" "I" (.int u2)) (F_retakenEnd : Fld Z h0 fo "com/example/nearside/nearside/slotted/delay/FairBack" "retakenEnd" "I" (.int u3)) (V_aS : OwnArr Z h0 aS .int 2 (fun _ => .int 0)) (V_aB : OwnArr Z h0 aB .int 3 (fun k => .int (fB k))) (V_aK : OwnArr Z h0 aK .long 3 (fun _ => .long 0)) (V_aT : OwnArr Z h0 aT .long 3 fT0) (V_aP : OwnArr Z h0 aP .int 3 fP0) (V_aO : OwnArr Z h0 aO .int 3 fO0) (V_aR : OwnArr Z h0 aR .int 3 (fun k => .int (Int32.ofNat (own_tri q0 q1 q2 k)))) (ne_fo_aS : fo ≠ aS) (ne_fo_aB : fo ≠ aB) (ne_fo_aK : fo ≠ aK) (ne_fo_aT : fo ≠ aT) (ne_fo_aP : fo ≠ aP) (ne_fo_aO : fo ≠ aO) (ne_fo_aR : fo ≠ aR) (ne_aS_aB : aS ≠ aB) (ne_aS_aK : aS ≠ aK) (ne_aS_aT : aS ≠ aT) (ne_aS_aP : aS ≠ aP) (ne_aS_aO : aS ≠ aO) (ne_aS_aR : aS ≠ aR) (ne_aB_aK : aB ≠ aK) (ne_aB_aT : aB ≠ aT) (ne_aB_aP : aB ≠ aP) (ne_aB_aO : aB ≠ aO) (ne_aB_aR : aB ≠ aR) (ne_aK_aT : aK ≠ aT) (ne_aK_aP : aK ≠ aP) (ne_aK_aO : aK ≠ aO) (ne_aK_aR : aK ≠ aR) (ne_aT_aP : aT ≠ aP) (ne_aT_aO : aT ≠ aO) (ne_aT_aR : aT ≠ aR) (ne_aP_aO : aP ≠ aO) (ne_aP_aR : aP ≠ aR) (ne_aO_aR : aO ≠ aR) (g_fo : n0 ≤ fo) (g_aS : n0 ≤ aS) (g_aB : n0 ≤ aB) (g_aK : n0 ≤ aK) (g_aT : n0 ≤ aT) (g_aP : n0 ≤ aP) (g_aO : n0 ≤ aO) :
    OwnCtr l Z (⟨"com/example/nearside/nearside/slotted/delay/FairBack", "sort", "([II)V"⟩ : MethodName) ws prog_156_method_5_code 8 none ({ frames := 2, cells := 1, slots := 5, locals := 30 } : Room) #[(.ref fo), (.ref aR), (.int pj)] h0 (fun v h L => v = none ∧ Fr n0 L ∧ Keep h0 h [fo, aS, aB, aK, aT, aP, aO] ∧ Exa Z h fo "com/example/nearside/nearside/slotted/delay/FairBack" ∧ Fld Z h fo "com/example/nearside/nearside/slotted/delay/FairBack" "keys" "[J" (.ref aK) ∧ Fld Z h fo "com/example/nearside/nearside/slotted/delay/FairBack" "retaken" "[J" (.ref aT) ∧ Fld Z h fo "com/example/nearside/nearside/slotted/delay/FairBack" "offeredFrom" "[I" (.ref aO) ∧ Fld Z h fo "com/example/nearside/nearside/slotted/delay/FairBack" "sorted" "I" (.int (Int32.ofNat n)) ∧ Fld Z h fo "com/example/nearside/nearside/slotted/delay/FairBack" "nextKey" "I" (.int 0) ∧ Fld Z h fo "com/example/nearside/nearside/slotted/delay/FairBack" "retakenAt" "I" (.int 0) ∧ Fld Z h fo "com/example/nearside/nearside/slotted/delay/FairBack" "retakenEnd" "I" (.int 0) ∧ OwnArr Z h aK .long 3 (fun j => .long (own_fin n s0 s1 s2 q0 q1 q2 j)) ∧ ∃ fT fO : Nat → Value, OwnArr Z h aT .long 3 fT ∧ OwnArr Z h aO .int 3 fO) := by
  refine own_body (g0 := fun m => mkF m 0 #[rv fo, rv aR, iv pj, .unset, .unset, .unset, .unset, .unset] []) pn_4 (fun m => ef_4 m fo aR pj) ?_
  intro p e s m below meth c s₁ X0 hx hby hml hown hnm hZ e0 hret hlk
  have hml : c.maxLocals = 8 := hml
  have hown : s.vm.findClass "com/example/nearside/nearside/slotted/delay/FairBack" = some m.cls := hown
  have hnm : meth.name = "sort" := hnm
  have hret : meth.sig.returnType = none := hret
  have N0 := Fr.nil n0
  have K0 := Keep.refl h0 [fo, aS, aB, aK, aT, aP, aO]
  show OwnFin p e below s _ _ _ (s₁.setTop (mkF m 0 #[rv fo, rv aR, iv pj, .unset, .unset, .unset, .unset, .unset] []))
  have hS : ∀ k, own_tri s0 s1 s2 k < 3 := fun k => by have h := own_perm_lt hperm; exact own_tri_lt h.1 h.2.1 h.2.2 k
  have hR : ∀ k, (own_r s0 s1 s2 q0 q1 q2) k < 4 := own_r_lt hq0 hq1 hq2
  have hM : (own_mx (own_r s0 s1 s2 q0 q1 q2) n) < 4 := own_mx_lt hR n
  refine own_go (fun t_ k_ => XS.iconst X0.here hx rfl (hb hby d4_0) k_) ?_
  show OwnFin p e below s _ _ _ (s₁.setTop (mkF m 1 #[rv fo, rv aR, iv pj, .unset, .unset, .unset, .unset, .unset] [(.int (0 : Int32))]))
  refine own_go (fun t_ k_ => XS.istoreN X0.here hx rfl (hb hby d4_1) rfl (l' := #[rv fo, rv aR, iv pj, iv (0 : Int32), .unset, .unset, .unset, .unset]) rfl k_) ?_
  show OwnFin p e below s _ _ _ (s₁.setTop (mkF m 2 #[rv fo, rv aR, iv pj, iv (0 : Int32), .unset, .unset, .unset, .unset] []))
  refine own_go (fun t_ k_ => XS.iconst X0.here hx rfl (hb hby d4_2) k_) ?_
  show OwnFin p e below s _ _ _ (s₁.setTop (mkF m 3 #[rv fo, rv aR, iv pj, iv (0 : Int32), .unset, .unset, .unset, .unset] [(.int (0 : Int32))]))
  refine own_go (fun t_ k_ => XS.istore X0.here hx rfl (hb hby d4_3) rfl (l' := #[rv fo, rv aR, iv pj, iv (0 : Int32), iv (0 : Int32), .unset, .unset, .unset]) rfl k_) ?_
  show OwnFin p e below s _ _ _ (s₁.setTop (mkF m 5 #[rv fo, rv aR, iv pj, iv (0 : Int32), iv (0 : Int32), .unset, .unset, .unset] []))
  have loop1 : ∀ (d : Nat) (i : Nat) (fO : Nat → Value) (fT : Nat → Value) (l5 : Slot) (T1 : State) (locs1 : List Loc) (h1 : Heap), Stand p l e ({ frames := 2, cells := 1, slots := 5, locals := 30 } : Room) s m #[(.ref fo), (.ref aR), (.int pj)] below meth c T1 locs1 0 0 → T1.heap = h1 → Fr n0 locs1 → Keep h0 h1 [fo, aS, aB, aK, aT, aP, aO] → Exa Z h1 fo "com/example/nearside/nearside/slotted/delay/FairBack" → Fld Z h1 fo "com/example/nearside/nearside/slotted/delay/FairBack" "starts" "[I" (.ref aS) → Fld Z h1 fo "com/example/nearside/nearside/slotted/delay/FairBack" "back" "[I" (.ref aB) → Fld Z h1 fo "com/example/nearside/nearside/slotted/delay/FairBack" "keys" "[J" (.ref aK) → Fld Z h1 fo "com/example/nearside/nearside/slotted/delay/FairBack" "retaken" "[J" (.ref aT) → Fld Z h1 fo "com/example/nearside/nearside/slotted/delay/FairBack" "positions" "[I" (.ref aP) → Fld Z h1 fo "com/example/nearside/nearside/slotted/delay/FairBack" "offeredFrom" "[I" (.ref aO) → Fld Z h1 fo "com/example/nearside/nearside/slotted/delay/FairBack" "size" "I" (.int (Int32.ofNat n)) → Fld Z h1 fo "com/example/nearside/nearside/slotted/delay/FairBack" "sorted" "I" (.int u0) → Fld Z h1 fo "com/example/nearside/nearside/slotted/delay/FairBack" "nextKey" "I" (.int u1) → Fld Z h1 fo "com/example/nearside/nearside/slotted/delay/FairBack" "retakenAt" "I" (.int u2) → Fld Z h1 fo "com/example/nearside/nearside/slotted/delay/FairBack" "retakenEnd" "I" (.int u3) → OwnArr Z h1 aS .int 2 (fun _ => .int 0) → OwnArr Z h1 aB .int 3 (fun k => .int (fB k)) → OwnArr Z h1 aK .long 3 (fun _ => .long 0) → OwnArr Z h1 aT .long 3 fT → OwnArr Z h1 aP .int 3 fP0 → OwnArr Z h1 aO .int 3 fO → OwnArr Z h1 aR .int 3 (fun k => .int (Int32.ofNat (own_tri q0 q1 q2 k))) → (i + d = n) → (∀ k, k < i → fT k = .long ((own_Ks s0 s1 s2 q0 q1 q2) k)) → (One l5) → OwnFin p e below s (fun v h L => v = none ∧ Fr n0 L ∧ Keep h0 h [fo, aS, aB, aK, aT, aP, aO] ∧ Exa Z h fo "com/example/nearside/nearside/slotted/delay/FairBack" ∧ Fld Z h fo "com/example/nearside/nearside/slotted/delay/FairBack" "keys" "[J" (.ref aK) ∧ Fld Z h fo "com/example/nearside/nearside/slotted/delay/FairBack" "retaken" "[J" (.ref aT) ∧ Fld Z h fo "com/example/nearside/nearside/slotted/delay/FairBack" "offeredFrom" "[I" (.ref aO) ∧ Fld Z h fo "com/example/nearside/nearside/slotted/delay/FairBack" "sorted" "I" (.int (Int32.ofNat n)) ∧ Fld Z h fo "com/example/nearside/nearside/slotted/delay/FairBack" "nextKey" "I" (.int 0) ∧ Fld Z h fo "com/example/nearside/nearside/slotted/delay/FairBack" "retakenAt" "I" (.int 0) ∧ Fld Z h fo "com/example/nearside/nearside/slotted/delay/FairBack" "retakenEnd" "I" (.int 0) ∧ OwnArr Z h aK .long 3 (fun j => .long (own_fin n s0 s1 s2 q0 q1 q2 j)) ∧ ∃ fT fO : Nat → Value, OwnArr Z h aT .long 3 fT ∧ OwnArr Z h aO .int 3 fO) 1 5 (T1.setTop (mkF m 5 #[rv fo, rv aR, iv pj, iv (Int32.ofNat (own_mx (own_r s0 s1 s2 q0 q1 q2) i)), iv (Int32.ofNat i), l5, .unset, .unset] [])) := by
    intro d
    induction d with
    | zero =>
      intro i fO fT l5 T1 locs1 h1 X1 e1 N1 K1 H0 H1 H2 H3 H4 H5 H6 H7 H8 H9 H10 H11 H12 H13 H14 H15 H16 H17 H18 hid hT hl5
      have Z1 : n0 ≤ h1.size := Nat.le_trans Z0 K1.1
      have hin : n = i := by omega
      subst hin
      refine own_go (fun t_ k_ => XS.iload X1.here hx rfl (hb hby d4_5) rfl k_) ?_
      show OwnFin p e below s _ _ _ (T1.setTop (mkF m 7 #[rv fo, rv aR, iv pj, iv (Int32.ofNat (own_mx (own_r s0 s1 s2 q0 q1 q2) n)), iv (Int32.ofNat n), l5, .unset, .unset] [(.int (Int32.ofNat n))]))
      refine own_go (fun t_ k_ => XS.aloadN X1.here hx rfl (hb hby d4_7) rfl rfl k_) ?_
      show OwnFin p e below s _ _ _ (T1.setTop (mkF m 8 #[rv fo, rv aR, iv pj, iv (Int32.ofNat (own_mx (own_r s0 s1 s2 q0 q1 q2) n)), iv (Int32.ofNat n), l5, .unset, .unset] [(.ref fo), (.int (Int32.ofNat n))]))
      obtain ⟨T1, X1, e1, st1⟩ := getF X1 hx hZ hown (host := "") (Or.inl (hw _ (List.mem_of_getElem? (i := 33) rfl))) Via.refl e1 H7 (g := (mkF m 8 #[rv fo, rv aR, iv pj, iv (Int32.ofNat (own_mx (own_r s0 s1 s2 q0 q1 q2) n)), iv (Int32.ofNat n), l5, .unset, .unset] [(.ref fo), (.int (Int32.ofNat n))])) rfl rfl (hb hby d4_8)
      refine own_go st1 ?_
      show OwnFin p e below s _ _ _ (T1.setTop (mkF m 11 #[rv fo, rv aR, iv pj, iv (Int32.ofNat (own_mx (own_r s0 s1 s2 q0 q1 q2) n)), iv (Int32.ofNat n), l5, .unset, .unset] [(.int (Int32.ofNat n)), (.int (Int32.ofNat n))]))
      have hc11 : ¬ ((Int32.ofNat n) < (Int32.ofNat n)) := by rw [own_ltN (by omega) (by omega)]; omega
      refine own_go (fun t_ k_ => XS.icmpYes X1.here hx rfl (pc0 := 11) (pc' := 78) rfl (hb hby d4_11) rfl (flt hc11).2.1 (by decide) (by decide) k_) ?_
      show OwnFin p e below s _ _ _ (T1.setTop (mkF m 78 #[rv fo, rv aR, iv pj, iv (Int32.ofNat (own_mx (own_r s0 s1 s2 q0 q1 q2) n)), iv (Int32.ofNat n), l5, .unset, .unset] []))
      have tl : ∀ (aW : Addr) (nS : Nat) (cc : Nat) (ss : Nat) (T1 : State) (locs1 : List Loc) (h1 : Heap), Stand p l e ({ frames := 2, cells := 1, slots := 5, locals := 30 } : Room) s m #[(.ref fo), (.ref aR), (.int pj)] below meth c T1 locs1 cc ss → T1.heap = h1 → Fr n0 locs1 → Keep h0 h1 [fo, aS, aB, aK, aT, aP, aO] → Exa Z h1 fo "com/example/nearside/nearside/slotted/delay/FairBack" → Fld Z h1 fo "com/example/nearside/nearside/slotted/delay/FairBack" "starts" "[I" (.ref aW) → Fld Z h1 fo "com/example/nearside/nearside/slotted/delay/FairBack" "back" "[I" (.ref aB) → Fld Z h1 fo "com/example/nearside/nearside/slotted/delay/FairBack" "keys" "[J" (.ref aK) → Fld Z h1 fo "com/example/nearside/nearside/slotted/delay/FairBack" "retaken" "[J" (.ref aT) → Fld Z h1 fo "com/example/nearside/nearside/slotted/delay/FairBack" "positions" "[I" (.ref aP) → Fld Z h1 fo "com/example/nearside/nearside/slotted/delay/FairBack" "offeredFrom" "[I" (.ref aO) → Fld Z h1 fo "com/example/nearside/nearside/slotted/delay/FairBack" "size" "I" (.int (Int32.ofNat n)) → Fld Z h1 fo "com/example/nearside/nearside/slotted/delay/FairBack" "sorted" "I" (.int u0) → Fld Z h1 fo "com/example/nearside/nearside/slotted/delay/FairBack" "nextKey" "I" (.int u1) → Fld Z h1 fo "com/example/nearside/nearside/slotted/delay/FairBack" "retakenAt" "I" (.int u2) → Fld Z h1 fo "com/example/nearside/nearside/slotted/delay/FairBack" "retakenEnd" "I" (.int u3) → OwnArr Z h1 aW .int nS (fun _ => .int 0) → OwnArr Z h1 aB .int 3 (fun k => .int (fB k)) → OwnArr Z h1 aK .long 3 (fun _ => .long 0) → OwnArr Z h1 aT .long 3 fT → OwnArr Z h1 aP .int 3 fP0 → OwnArr Z h1 aO .int 3 fO → OwnArr Z h1 aR .int 3 (fun k => .int (Int32.ofNat (own_tri q0 q1 q2 k))) → (cc ≤ 1) → (ss ≤ 5) → ((own_mx (own_r s0 s1 s2 q0 q1 q2) n) + 2 ≤ nS) → (nS ≤ 5) → (n0 ≤ aW) → (aW ∈ [fo, aS, aB, aK, aT, aP, aO] ∨ h0.size ≤ aW) → (fo ≠ aW) → (aB ≠ aW) → (aK ≠ aW) → (aT ≠ aW) → (aP ≠ aW) → (aO ≠ aW) → (aR ≠ aW) → OwnFin p e below s (fun v h L => v = none ∧ Fr n0 L ∧ Keep h0 h [fo, aS, aB, aK, aT, aP, aO] ∧ Exa Z h fo "com/example/nearside/nearside/slotted/delay/FairBack" ∧ Fld Z h fo "com/example/nearside/nearside/slotted/delay/FairBack" "keys" "[J" (.ref aK) ∧ Fld Z h fo "com/example/nearside/nearside/slotted/delay/FairBack" "retaken" "[J" (.ref aT) ∧ Fld Z h fo "com/example/nearside/nearside/slotted/delay/FairBack" "offeredFrom" "[I" (.ref aO) ∧ Fld Z h fo "com/example/nearside/nearside/slotted/delay/FairBack" "sorted" "I" (.int (Int32.ofNat n)) ∧ Fld Z h fo "com/example/nearside/nearside/slotted/delay/FairBack" "nextKey" "I" (.int 0) ∧ Fld Z h fo "com/example/nearside/nearside/slotted/delay/FairBack" "retakenAt" "I" (.int 0) ∧ Fld Z h fo "com/example/nearside/nearside/slotted/delay/FairBack" "retakenEnd" "I" (.int 0) ∧ OwnArr Z h aK .long 3 (fun j => .long (own_fin n s0 s1 s2 q0 q1 q2 j)) ∧ ∃ fT fO : Nat → Value, OwnArr Z h aT .long 3 fT ∧ OwnArr Z h aO .int 3 fO) 1 5 (T1.setTop (mkF m 108 #[rv fo, rv aR, iv pj, iv (Int32.ofNat (own_mx (own_r s0 s1 s2 q0 q1 q2) n)), iv (Int32.ofNat n), l5, .unset, .unset] [])) := by
        intro aW nS cc ss T1 locs1 h1 X1 e1 N1 K1 H0 H1 H2 H3 H4 H5 H6 H7 H8 H9 H10 H11 H12 H13 H14 H15 H16 H17 H18 hcc hss hnS hnS5 g_aW hKw ne_fo_aW ne_aB_aW ne_aK_aW ne_aT_aW ne_aP_aW ne_aO_aW ne_aR_aW
        have Z1 : n0 ≤ h1.size := Nat.le_trans Z0 K1.1
        refine own_go (fun t_ k_ => XS.aloadN X1.here hx rfl (hb hby d4_108) rfl rfl k_) ?_
        show OwnFin p e below s _ _ _ (T1.setTop (mkF m 109 #[rv fo, rv aR, iv pj, iv (Int32.ofNat (own_mx (own_r s0 s1 s2 q0 q1 q2) n)), iv (Int32.ofNat n), l5, .unset, .unset] [(.ref fo)]))
        obtain ⟨T2, X2, e2, st2⟩ := getF X1 hx hZ hown (host := "") (Or.inl (hw _ (List.mem_of_getElem? (i := 15) rfl))) Via.refl e1 H1 (g := (mkF m 109 #[rv fo, rv aR, iv pj, iv (Int32.ofNat (own_mx (own_r s0 s1 s2 q0 q1 q2) n)), iv (Int32.ofNat n), l5, .unset, .unset] [(.ref fo)])) rfl rfl (hb hby d4_109)
        refine own_go st2 ?_
        show OwnFin p e below s _ _ _ (T2.setTop (mkF m 112 #[rv fo, rv aR, iv pj, iv (Int32.ofNat (own_mx (own_r s0 s1 s2 q0 q1 q2) n)), iv (Int32.ofNat n), l5, .unset, .unset] [(.ref aW)]))
        refine own_go (fun t_ k_ => XS.iconst X2.here hx rfl (hb hby d4_112) k_) ?_
        show OwnFin p e below s _ _ _ (T2.setTop (mkF m 113 #[rv fo, rv aR, iv pj, iv (Int32.ofNat (own_mx (own_r s0 s1 s2 q0 q1 q2) n)), iv (Int32.ofNat n), l5, .unset, .unset] [(.int (0 : Int32)), (.ref aW)]))
        refine own_go (fun t_ k_ => XS.iloadN X2.here hx rfl (hb hby d4_113) rfl k_) ?_
        show OwnFin p e below s _ _ _ (T2.setTop (mkF m 114 #[rv fo, rv aR, iv pj, iv (Int32.ofNat (own_mx (own_r s0 s1 s2 q0 q1 q2) n)), iv (Int32.ofNat n), l5, .unset, .unset] [(.int (Int32.ofNat (own_mx (own_r s0 s1 s2 q0 q1 q2) n))), (.int (0 : Int32)), (.ref aW)]))
        refine own_go (fun t_ k_ => XS.iconst X2.here hx rfl (hb hby d4_114) k_) ?_
        show OwnFin p e below s _ _ _ (T2.setTop (mkF m 115 #[rv fo, rv aR, iv pj, iv (Int32.ofNat (own_mx (own_r s0 s1 s2 q0 q1 q2) n)), iv (Int32.ofNat n), l5, .unset, .unset] [(.int (2 : Int32)), (.int (Int32.ofNat (own_mx (own_r s0 s1 s2 q0 q1 q2) n))), (.int (0 : Int32)), (.ref aW)]))
        refine own_go (fun t_ k_ => XS.iadd X2.here hx rfl (hb hby d4_115) rfl k_) ?_
        show OwnFin p e below s _ _ _ (T2.setTop (mkF m 116 #[rv fo, rv aR, iv pj, iv (Int32.ofNat (own_mx (own_r s0 s1 s2 q0 q1 q2) n)), iv (Int32.ofNat n), l5, .unset, .unset] [(.int ((Int32.ofNat (own_mx (own_r s0 s1 s2 q0 q1 q2) n)) + (2 : Int32))), (.int (0 : Int32)), (.ref aW)]))
        refine own_go (fun t_ k_ => XS.iconst X2.here hx rfl (hb hby d4_116) k_) ?_
        show OwnFin p e below s _ _ _ (T2.setTop (mkF m 117 #[rv fo, rv aR, iv pj, iv (Int32.ofNat (own_mx (own_r s0 s1 s2 q0 q1 q2) n)), iv (Int32.ofNat n), l5, .unset, .unset] [(.int (0 : Int32)), (.int ((Int32.ofNat (own_mx (own_r s0 s1 s2 q0 q1 q2) n)) + (2 : Int32))), (.int (0 : Int32)), (.ref aW)]))
        have hM2 : Int32.ofNat (own_mx (own_r s0 s1 s2 q0 q1 q2) n) + (2 : Int32) = Int32.ofNat ((own_mx (own_r s0 s1 s2 q0 q1 q2) n) + 2) := own_addN _ 2
        rw [hM2]
        show OwnFin p e below s _ _ _ (T2.setTop (mkF m 117 #[rv fo, rv aR, iv pj, iv (Int32.ofNat (own_mx (own_r s0 s1 s2 q0 q1 q2) n)), iv (Int32.ofNat n), l5, .unset, .unset] [(.int (0 : Int32)), (.int (Int32.ofNat ((own_mx (own_r s0 s1 s2 q0 q1 q2) n) + 2))), (.int (0 : Int32)), (.ref aW)]))
        have hft : (own_mx (own_r s0 s1 s2 q0 q1 q2) n) + 2 ≤ nS := hnS
        obtain ⟨v3, T3, L3, X3, hQ3, st3⟩ := own_callS X2 hx hZ (y := (⟨"java/util/Arrays", "fill", "([IIII)V"⟩ : MethodName)) hown (hw _ (List.mem_of_getElem? (i := 35) rfl)) (hw _ (List.mem_of_getElem? (i := 36) rfl)) (hw _ (List.mem_of_getElem? (i := 37) rfl)) (hw _ (List.mem_of_getElem? (i := 38) rfl)) (by decide) (W := 0) (rm5 l Z a0 hw [] aW (Int32.ofNat ((own_mx (own_r s0 s1 s2 q0 q1 q2) n) + 2)) nS ((own_mx (own_r s0 s1 s2 q0 q1 q2) n) + 2) _ h1 n0 Z1 H12 g_aW rfl hft (by omega)) (by decide) (by decide) (g := (mkF m 117 #[rv fo, rv aR, iv pj, iv (Int32.ofNat (own_mx (own_r s0 s1 s2 q0 q1 q2) n)), iv (Int32.ofNat n), l5, .unset, .unset] [(.int (0 : Int32)), (.int (Int32.ofNat ((own_mx (own_r s0 s1 s2 q0 q1 q2) n) + 2))), (.int (0 : Int32)), (.ref aW)])) rfl (by rw [hml]; rfl) (argsL := [(.ref aW), (.int (0 : Int32)), (.int (Int32.ofNat ((own_mx (own_r s0 s1 s2 q0 q1 q2) n) + 2))), (.int (0 : Int32))]) (rest := []) (lenOf pd_4_4 rfl) rfl (by show 2 * 0 + _ ≤ _; exact Nat.le_of_eq rfl) (hb hby d4_117) e2 rfl (by show cc + 0 ≤ 1; omega) (by show ss + 0 ≤ 5; omega)
        obtain ⟨rfl, Nq3, Kq3, Vq3⟩ := hQ3
        have N3 := Fr.app N1 Nq3
        have H0_3 := H0.keep Kq3
        have H1_3 := H1.keep Kq3 (ninS ne_fo_aW nin0)
        have H2_3 := H2.keep Kq3 (ninS ne_fo_aW nin0)
        have H3_3 := H3.keep Kq3 (ninS ne_fo_aW nin0)
        have H4_3 := H4.keep Kq3 (ninS ne_fo_aW nin0)
        have H5_3 := H5.keep Kq3 (ninS ne_fo_aW nin0)
        have H6_3 := H6.keep Kq3 (ninS ne_fo_aW nin0)
        have H7_3 := H7.keep Kq3 (ninS ne_fo_aW nin0)
        have H8_3 := H8.keep Kq3 (ninS ne_fo_aW nin0)
        have H9_3 := H9.keep Kq3 (ninS ne_fo_aW nin0)
        have H10_3 := H10.keep Kq3 (ninS ne_fo_aW nin0)
        have H11_3 := H11.keep Kq3 (ninS ne_fo_aW nin0)
        have H13_3 := H13.keep Kq3 (ninS ne_aB_aW nin0)
        have H14_3 := H14.keep Kq3 (ninS ne_aK_aW nin0)
        have H15_3 := H15.keep Kq3 (ninS ne_aT_aW nin0)
        have H16_3 := H16.keep Kq3 (ninS ne_aP_aW nin0)
        have H17_3 := H17.keep Kq3 (ninS ne_aO_aW nin0)
        have H18_3 := H18.keep Kq3 (ninS ne_aR_aW nin0)
        have Z3 : n0 ≤ T3.heap.size := Nat.le_trans Z1 Kq3.1
        have K3 : Keep h0 T3.heap [fo, aS, aB, aK, aT, aP, aO] := K1.trans Kq3 (allS hKw all0)
        refine own_go st3 ?_
        show OwnFin p e below s _ _ _ (T3.setTop (mkF m 120 #[rv fo, rv aR, iv pj, iv (Int32.ofNat (own_mx (own_r s0 s1 s2 q0 q1 q2) n)), iv (Int32.ofNat n), l5, .unset, .unset] []))
        refine own_go (fun t_ k_ => XS.iconst X3.here hx rfl (hb hby d4_120) k_) ?_
        show OwnFin p e below s _ _ _ (T3.setTop (mkF m 121 #[rv fo, rv aR, iv pj, iv (Int32.ofNat (own_mx (own_r s0 s1 s2 q0 q1 q2) n)), iv (Int32.ofNat n), l5, .unset, .unset] [(.int (0 : Int32))]))
        refine own_go (fun t_ k_ => XS.istore X3.here hx rfl (hb hby d4_121) rfl (l' := #[rv fo, rv aR, iv pj, iv (Int32.ofNat (own_mx (own_r s0 s1 s2 q0 q1 q2) n)), iv (0 : Int32), l5, .unset, .unset]) rfl k_) ?_
        show OwnFin p e below s _ _ _ (T3.setTop (mkF m 123 #[rv fo, rv aR, iv pj, iv (Int32.ofNat (own_mx (own_r s0 s1 s2 q0 q1 q2) n)), iv (0 : Int32), l5, .unset, .unset] []))
        have R4 : OwnArr Z T3.heap aW .int nS (fun j => .int (own_m3 (own_r s0 s1 s2 q0 q1 q2) 0 j)) := Vq3.congr (fun z hz => by split <;> rfl)
        have loop3 : ∀ (d : Nat) (a : Nat) (T1 : State) (locs1 : List Loc) (h1 : Heap), Stand p l e ({ frames := 2, cells := 1, slots := 5, locals := 30 } : Room) s m #[(.ref fo), (.ref aR), (.int pj)] below meth c T1 locs1 cc ss → T1.heap = h1 → Fr n0 locs1 → Keep h0 h1 [fo, aS, aB, aK, aT, aP, aO] → Exa Z h1 fo "com/example/nearside/nearside/slotted/delay/FairBack" → Fld Z h1 fo "com/example/nearside/nearside/slotted/delay/FairBack" "starts" "[I" (.ref aW) → Fld Z h1 fo "com/example/nearside/nearside/slotted/delay/FairBack" "back" "[I" (.ref aB) → Fld Z h1 fo "com/example/nearside/nearside/slotted/delay/FairBack" "keys" "[J" (.ref aK) → Fld Z h1 fo "com/example/nearside/nearside/slotted/delay/FairBack" "retaken" "[J" (.ref aT) → Fld Z h1 fo "com/example/nearside/nearside/slotted/delay/FairBack" "positions" "[I" (.ref aP) → Fld Z h1 fo "com/example/nearside/nearside/slotted/delay/FairBack" "offeredFrom" "[I" (.ref aO) → Fld Z h1 fo "com/example/nearside/nearside/slotted/delay/FairBack" "size" "I" (.int (Int32.ofNat n)) → Fld Z h1 fo "com/example/nearside/nearside/slotted/delay/FairBack" "sorted" "I" (.int u0) → Fld Z h1 fo "com/example/nearside/nearside/slotted/delay/FairBack" "nextKey" "I" (.int u1) → Fld Z h1 fo "com/example/nearside/nearside/slotted/delay/FairBack" "retakenAt" "I" (.int u2) → Fld Z h1 fo "com/example/nearside/nearside/slotted/delay/FairBack" "retakenEnd" "I" (.int u3) → OwnArr Z h1 aB .int 3 (fun k => .int (fB k)) → OwnArr Z h1 aK .long 3 (fun _ => .long 0) → OwnArr Z h1 aT .long 3 fT → OwnArr Z h1 aP .int 3 fP0 → OwnArr Z h1 aO .int 3 fO → OwnArr Z h1 aR .int 3 (fun k => .int (Int32.ofNat (own_tri q0 q1 q2 k))) → OwnArr Z h1 aW .int nS (fun j => .int (own_m3 (own_r s0 s1 s2 q0 q1 q2) a j)) → (a + d = n) → OwnFin p e below s (fun v h L => v = none ∧ Fr n0 L ∧ Keep h0 h [fo, aS, aB, aK, aT, aP, aO] ∧ Exa Z h fo "com/example/nearside/nearside/slotted/delay/FairBack" ∧ Fld Z h fo "com/example/nearside/nearside/slotted/delay/FairBack" "keys" "[J" (.ref aK) ∧ Fld Z h fo "com/example/nearside/nearside/slotted/delay/FairBack" "retaken" "[J" (.ref aT) ∧ Fld Z h fo "com/example/nearside/nearside/slotted/delay/FairBack" "offeredFrom" "[I" (.ref aO) ∧ Fld Z h fo "com/example/nearside/nearside/slotted/delay/FairBack" "sorted" "I" (.int (Int32.ofNat n)) ∧ Fld Z h fo "com/example/nearside/nearside/slotted/delay/FairBack" "nextKey" "I" (.int 0) ∧ Fld Z h fo "com/example/nearside/nearside/slotted/delay/FairBack" "retakenAt" "I" (.int 0) ∧ Fld Z h fo "com/example/nearside/nearside/slotted/delay/FairBack" "retakenEnd" "I" (.int 0) ∧ OwnArr Z h aK .long 3 (fun j => .long (own_fin n s0 s1 s2 q0 q1 q2 j)) ∧ ∃ fT fO : Nat → Value, OwnArr Z h aT .long 3 fT ∧ OwnArr Z h aO .int 3 fO) 1 5 (T1.setTop (mkF m 123 #[rv fo, rv aR, iv pj, iv (Int32.ofNat (own_mx (own_r s0 s1 s2 q0 q1 q2) n)), iv (Int32.ofNat a), l5, .unset, .unset] [])) := by
          intro d
          induction d with
          | zero =>
            intro a T1 locs1 h1 X1 e1 N1 K1 H0 H1 H2 H3 H4 H5 H6 H7 H8 H9 H10 H11 H12 H13 H14 H15 H16 H17 H18 had
            have Z1 : n0 ≤ h1.size := Nat.le_trans Z0 K1.1
            have hai : n = a := by omega
            subst hai
            refine own_go (fun t_ k_ => XS.iload X1.here hx rfl (hb hby d4_123) rfl k_) ?_
            show OwnFin p e below s _ _ _ (T1.setTop (mkF m 125 #[rv fo, rv aR, iv pj, iv (Int32.ofNat (own_mx (own_r s0 s1 s2 q0 q1 q2) n)), iv (Int32.ofNat n), l5, .unset, .unset] [(.int (Int32.ofNat n))]))
            refine own_go (fun t_ k_ => XS.aloadN X1.here hx rfl (hb hby d4_125) rfl rfl k_) ?_
            show OwnFin p e below s _ _ _ (T1.setTop (mkF m 126 #[rv fo, rv aR, iv pj, iv (Int32.ofNat (own_mx (own_r s0 s1 s2 q0 q1 q2) n)), iv (Int32.ofNat n), l5, .unset, .unset] [(.ref fo), (.int (Int32.ofNat n))]))
            obtain ⟨T5, X5, e5, st5⟩ := getF X1 hx hZ hown (host := "") (Or.inl (hw _ (List.mem_of_getElem? (i := 33) rfl))) Via.refl e1 H7 (g := (mkF m 126 #[rv fo, rv aR, iv pj, iv (Int32.ofNat (own_mx (own_r s0 s1 s2 q0 q1 q2) n)), iv (Int32.ofNat n), l5, .unset, .unset] [(.ref fo), (.int (Int32.ofNat n))])) rfl rfl (hb hby d4_126)
            refine own_go st5 ?_
            show OwnFin p e below s _ _ _ (T5.setTop (mkF m 129 #[rv fo, rv aR, iv pj, iv (Int32.ofNat (own_mx (own_r s0 s1 s2 q0 q1 q2) n)), iv (Int32.ofNat n), l5, .unset, .unset] [(.int (Int32.ofNat n)), (.int (Int32.ofNat n))]))
            have hc129 : ¬ ((Int32.ofNat n) < (Int32.ofNat n)) := by rw [own_ltN (by omega) (by omega)]; omega
            refine own_go (fun t_ k_ => XS.icmpYes X5.here hx rfl (pc0 := 129) (pc' := 160) rfl (hb hby d4_129) rfl (flt hc129).2.1 (by decide) (by decide) k_) ?_
            show OwnFin p e below s _ _ _ (T5.setTop (mkF m 160 #[rv fo, rv aR, iv pj, iv (Int32.ofNat (own_mx (own_r s0 s1 s2 q0 q1 q2) n)), iv (Int32.ofNat n), l5, .unset, .unset] []))
            refine own_go (fun t_ k_ => XS.iconst X5.here hx rfl (hb hby d4_160) k_) ?_
            show OwnFin p e below s _ _ _ (T5.setTop (mkF m 161 #[rv fo, rv aR, iv pj, iv (Int32.ofNat (own_mx (own_r s0 s1 s2 q0 q1 q2) n)), iv (Int32.ofNat n), l5, .unset, .unset] [(.int (1 : Int32))]))
            refine own_go (fun t_ k_ => XS.istore X5.here hx rfl (hb hby d4_161) rfl (l' := #[rv fo, rv aR, iv pj, iv (Int32.ofNat (own_mx (own_r s0 s1 s2 q0 q1 q2) n)), iv (1 : Int32), l5, .unset, .unset]) rfl k_) ?_
            show OwnFin p e below s _ _ _ (T5.setTop (mkF m 163 #[rv fo, rv aR, iv pj, iv (Int32.ofNat (own_mx (own_r s0 s1 s2 q0 q1 q2) n)), iv (1 : Int32), l5, .unset, .unset] []))
            have R6 : OwnArr Z h1 aW .int nS (fun j => .int (own_m4 (own_r s0 s1 s2 q0 q1 q2) n 0 j)) := H18.congr (fun z hz => by rfl)
            have loop4 : ∀ (d : Nat) (e_ : Nat) (T1 : State) (locs1 : List Loc) (h1 : Heap), Stand p l e ({ frames := 2, cells := 1, slots := 5, locals := 30 } : Room) s m #[(.ref fo), (.ref aR), (.int pj)] below meth c T1 locs1 cc ss → T1.heap = h1 → Fr n0 locs1 → Keep h0 h1 [fo, aS, aB, aK, aT, aP, aO] → Exa Z h1 fo "com/example/nearside/nearside/slotted/delay/FairBack" → Fld Z h1 fo "com/example/nearside/nearside/slotted/delay/FairBack" "starts" "[I" (.ref aW) → Fld Z h1 fo "com/example/nearside/nearside/slotted/delay/FairBack" "back" "[I" (.ref aB) → Fld Z h1 fo "com/example/nearside/nearside/slotted/delay/FairBack" "keys" "[J" (.ref aK) → Fld Z h1 fo "com/example/nearside/nearside/slotted/delay/FairBack" "retaken" "[J" (.ref aT) → Fld Z h1 fo "com/example/nearside/nearside/slotted/delay/FairBack" "positions" "[I" (.ref aP) → Fld Z h1 fo "com/example/nearside/nearside/slotted/delay/FairBack" "offeredFrom" "[I" (.ref aO) → Fld Z h1 fo "com/example/nearside/nearside/slotted/delay/FairBack" "size" "I" (.int (Int32.ofNat n)) → Fld Z h1 fo "com/example/nearside/nearside/slotted/delay/FairBack" "sorted" "I" (.int u0) → Fld Z h1 fo "com/example/nearside/nearside/slotted/delay/FairBack" "nextKey" "I" (.int u1) → Fld Z h1 fo "com/example/nearside/nearside/slotted/delay/FairBack" "retakenAt" "I" (.int u2) → Fld Z h1 fo "com/example/nearside/nearside/slotted/delay/FairBack" "retakenEnd" "I" (.int u3) → OwnArr Z h1 aB .int 3 (fun k => .int (fB k)) → OwnArr Z h1 aK .long 3 (fun _ => .long 0) → OwnArr Z h1 aT .long 3 fT → OwnArr Z h1 aP .int 3 fP0 → OwnArr Z h1 aO .int 3 fO → OwnArr Z h1 aR .int 3 (fun k => .int (Int32.ofNat (own_tri q0 q1 q2 k))) → OwnArr Z h1 aW .int nS (fun j => .int (own_m4 (own_r s0 s1 s2 q0 q1 q2) n e_ j)) → (e_ + d = (own_mx (own_r s0 s1 s2 q0 q1 q2) n)) → OwnFin p e below s (fun v h L => v = none ∧ Fr n0 L ∧ Keep h0 h [fo, aS, aB, aK, aT, aP, aO] ∧ Exa Z h fo "com/example/nearside/nearside/slotted/delay/FairBack" ∧ Fld Z h fo "com/example/nearside/nearside/slotted/delay/FairBack" "keys" "[J" (.ref aK) ∧ Fld Z h fo "com/example/nearside/nearside/slotted/delay/FairBack" "retaken" "[J" (.ref aT) ∧ Fld Z h fo "com/example/nearside/nearside/slotted/delay/FairBack" "offeredFrom" "[I" (.ref aO) ∧ Fld Z h fo "com/example/nearside/nearside/slotted/delay/FairBack" "sorted" "I" (.int (Int32.ofNat n)) ∧ Fld Z h fo "com/example/nearside/nearside/slotted/delay/FairBack" "nextKey" "I" (.int 0) ∧ Fld Z h fo "com/example/nearside/nearside/slotted/delay/FairBack" "retakenAt" "I" (.int 0) ∧ Fld Z h fo "com/example/nearside/nearside/slotted/delay/FairBack" "retakenEnd" "I" (.int 0) ∧ OwnArr Z h aK .long 3 (fun j => .long (own_fin n s0 s1 s2 q0 q1 q2 j)) ∧ ∃ fT fO : Nat → Value, OwnArr Z h aT .long 3 fT ∧ OwnArr Z h aO .int 3 fO) 1 5 (T1.setTop (mkF m 163 #[rv fo, rv aR, iv pj, iv (Int32.ofNat (own_mx (own_r s0 s1 s2 q0 q1 q2) n)), iv (Int32.ofNat (e_ + 1)), l5, .unset, .unset] [])) := by
              intro d
              induction d with
              | zero =>
                intro e_ T1 locs1 h1 X1 e1 N1 K1 H0 H1 H2 H3 H4 H5 H6 H7 H8 H9 H10 H11 H12 H13 H14 H15 H16 H17 H18 hed
                have Z1 : n0 ≤ h1.size := Nat.le_trans Z0 K1.1
                have hem : e_ = (own_mx (own_r s0 s1 s2 q0 q1 q2) n) := by omega
                subst hem
                refine own_go (fun t_ k_ => XS.iload X1.here hx rfl (hb hby d4_163) rfl k_) ?_
                show OwnFin p e below s _ _ _ (T1.setTop (mkF m 165 #[rv fo, rv aR, iv pj, iv (Int32.ofNat (own_mx (own_r s0 s1 s2 q0 q1 q2) n)), iv (Int32.ofNat ((own_mx (own_r s0 s1 s2 q0 q1 q2) n) + 1)), l5, .unset, .unset] [(.int (Int32.ofNat ((own_mx (own_r s0 s1 s2 q0 q1 q2) n) + 1)))]))
                refine own_go (fun t_ k_ => XS.iloadN X1.here hx rfl (hb hby d4_165) rfl k_) ?_
                show OwnFin p e below s _ _ _ (T1.setTop (mkF m 166 #[rv fo, rv aR, iv pj, iv (Int32.ofNat (own_mx (own_r s0 s1 s2 q0 q1 q2) n)), iv (Int32.ofNat ((own_mx (own_r s0 s1 s2 q0 q1 q2) n) + 1)), l5, .unset, .unset] [(.int (Int32.ofNat (own_mx (own_r s0 s1 s2 q0 q1 q2) n))), (.int (Int32.ofNat ((own_mx (own_r s0 s1 s2 q0 q1 q2) n) + 1)))]))
                have hc166 : (Int32.ofNat (own_mx (own_r s0 s1 s2 q0 q1 q2) n)) < (Int32.ofNat ((own_mx (own_r s0 s1 s2 q0 q1 q2) n) + 1)) := by rw [own_ltN (by omega) (by omega)]; omega
                refine own_go (fun t_ k_ => XS.icmpYes X1.here hx rfl (pc0 := 166) (pc' := 194) rfl (hb hby d4_166) rfl (tlt hc166).2.2.1 (by decide) (by decide) k_) ?_
                show OwnFin p e below s _ _ _ (T1.setTop (mkF m 194 #[rv fo, rv aR, iv pj, iv (Int32.ofNat (own_mx (own_r s0 s1 s2 q0 q1 q2) n)), iv (Int32.ofNat ((own_mx (own_r s0 s1 s2 q0 q1 q2) n) + 1)), l5, .unset, .unset] []))
                refine own_go (fun t_ k_ => XS.iconst X1.here hx rfl (hb hby d4_194) k_) ?_
                show OwnFin p e below s _ _ _ (T1.setTop (mkF m 195 #[rv fo, rv aR, iv pj, iv (Int32.ofNat (own_mx (own_r s0 s1 s2 q0 q1 q2) n)), iv (Int32.ofNat ((own_mx (own_r s0 s1 s2 q0 q1 q2) n) + 1)), l5, .unset, .unset] [(.int (0 : Int32))]))
                refine own_go (fun t_ k_ => XS.istore X1.here hx rfl (hb hby d4_195) rfl (l' := #[rv fo, rv aR, iv pj, iv (Int32.ofNat (own_mx (own_r s0 s1 s2 q0 q1 q2) n)), iv (0 : Int32), l5, .unset, .unset]) rfl k_) ?_
                show OwnFin p e below s _ _ _ (T1.setTop (mkF m 197 #[rv fo, rv aR, iv pj, iv (Int32.ofNat (own_mx (own_r s0 s1 s2 q0 q1 q2) n)), iv (0 : Int32), l5, .unset, .unset] []))
                have R7 : OwnArr Z h1 aW .int nS (fun j => .int (own_m5 (own_r s0 s1 s2 q0 q1 q2) n (own_mx (own_r s0 s1 s2 q0 q1 q2) n) 0 j)) := H18.congr (fun z hz => by rfl)
                have R8 : OwnArr Z h1 aK .long 3 (fun j => .long (own_k5 (own_r s0 s1 s2 q0 q1 q2) n (own_mx (own_r s0 s1 s2 q0 q1 q2) n) (own_Ks s0 s1 s2 q0 q1 q2) 0 j)) := H13.congr (fun z hz => by rfl)
                have loop5 : ∀ (d : Nat) (c_ : Nat) (l5 : Slot) (T1 : State) (locs1 : List Loc) (h1 : Heap), Stand p l e ({ frames := 2, cells := 1, slots := 5, locals := 30 } : Room) s m #[(.ref fo), (.ref aR), (.int pj)] below meth c T1 locs1 cc ss → T1.heap = h1 → Fr n0 locs1 → Keep h0 h1 [fo, aS, aB, aK, aT, aP, aO] → Exa Z h1 fo "com/example/nearside/nearside/slotted/delay/FairBack" → Fld Z h1 fo "com/example/nearside/nearside/slotted/delay/FairBack" "starts" "[I" (.ref aW) → Fld Z h1 fo "com/example/nearside/nearside/slotted/delay/FairBack" "back" "[I" (.ref aB) → Fld Z h1 fo "com/example/nearside/nearside/slotted/delay/FairBack" "keys" "[J" (.ref aK) → Fld Z h1 fo "com/example/nearside/nearside/slotted/delay/FairBack" "retaken" "[J" (.ref aT) → Fld Z h1 fo "com/example/nearside/nearside/slotted/delay/FairBack" "positions" "[I" (.ref aP) → Fld Z h1 fo "com/example/nearside/nearside/slotted/delay/FairBack" "offeredFrom" "[I" (.ref aO) → Fld Z h1 fo "com/example/nearside/nearside/slotted/delay/FairBack" "size" "I" (.int (Int32.ofNat n)) → Fld Z h1 fo "com/example/nearside/nearside/slotted/delay/FairBack" "sorted" "I" (.int u0) → Fld Z h1 fo "com/example/nearside/nearside/slotted/delay/FairBack" "nextKey" "I" (.int u1) → Fld Z h1 fo "com/example/nearside/nearside/slotted/delay/FairBack" "retakenAt" "I" (.int u2) → Fld Z h1 fo "com/example/nearside/nearside/slotted/delay/FairBack" "retakenEnd" "I" (.int u3) → OwnArr Z h1 aB .int 3 (fun k => .int (fB k)) → OwnArr Z h1 aK .long 3 (fun j => .long (own_k5 (own_r s0 s1 s2 q0 q1 q2) n (own_mx (own_r s0 s1 s2 q0 q1 q2) n) (own_Ks s0 s1 s2 q0 q1 q2) c_ j)) → OwnArr Z h1 aT .long 3 fT → OwnArr Z h1 aP .int 3 fP0 → OwnArr Z h1 aO .int 3 fO → OwnArr Z h1 aR .int 3 (fun k => .int (Int32.ofNat (own_tri q0 q1 q2 k))) → OwnArr Z h1 aW .int nS (fun j => .int (own_m5 (own_r s0 s1 s2 q0 q1 q2) n (own_mx (own_r s0 s1 s2 q0 q1 q2) n) c_ j)) → (c_ + d = n) → (One l5) → OwnFin p e below s (fun v h L => v = none ∧ Fr n0 L ∧ Keep h0 h [fo, aS, aB, aK, aT, aP, aO] ∧ Exa Z h fo "com/example/nearside/nearside/slotted/delay/FairBack" ∧ Fld Z h fo "com/example/nearside/nearside/slotted/delay/FairBack" "keys" "[J" (.ref aK) ∧ Fld Z h fo "com/example/nearside/nearside/slotted/delay/FairBack" "retaken" "[J" (.ref aT) ∧ Fld Z h fo "com/example/nearside/nearside/slotted/delay/FairBack" "offeredFrom" "[I" (.ref aO) ∧ Fld Z h fo "com/example/nearside/nearside/slotted/delay/FairBack" "sorted" "I" (.int (Int32.ofNat n)) ∧ Fld Z h fo "com/example/nearside/nearside/slotted/delay/FairBack" "nextKey" "I" (.int 0) ∧ Fld Z h fo "com/example/nearside/nearside/slotted/delay/FairBack" "retakenAt" "I" (.int 0) ∧ Fld Z h fo "com/example/nearside/nearside/slotted/delay/FairBack" "retakenEnd" "I" (.int 0) ∧ OwnArr Z h aK .long 3 (fun j => .long (own_fin n s0 s1 s2 q0 q1 q2 j)) ∧ ∃ fT fO : Nat → Value, OwnArr Z h aT .long 3 fT ∧ OwnArr Z h aO .int 3 fO) 1 5 (T1.setTop (mkF m 197 #[rv fo, rv aR, iv pj, iv (Int32.ofNat (own_mx (own_r s0 s1 s2 q0 q1 q2) n)), iv (Int32.ofNat c_), l5, .unset, .unset] [])) := by
                  intro d
                  induction d with
                  | zero =>
                    intro c_ l5 T1 locs1 h1 X1 e1 N1 K1 H0 H1 H2 H3 H4 H5 H6 H7 H8 H9 H10 H11 H12 H13 H14 H15 H16 H17 H18 hcd hl5
                    have Z1 : n0 ≤ h1.size := Nat.le_trans Z0 K1.1
                    have hca : n = c_ := by omega
                    subst hca
                    refine own_go (fun t_ k_ => XS.iload X1.here hx rfl (hb hby d4_197) rfl k_) ?_
                    show OwnFin p e below s _ _ _ (T1.setTop (mkF m 199 #[rv fo, rv aR, iv pj, iv (Int32.ofNat (own_mx (own_r s0 s1 s2 q0 q1 q2) n)), iv (Int32.ofNat n), l5, .unset, .unset] [(.int (Int32.ofNat n))]))
                    refine own_go (fun t_ k_ => XS.aloadN X1.here hx rfl (hb hby d4_199) rfl rfl k_) ?_
                    show OwnFin p e below s _ _ _ (T1.setTop (mkF m 200 #[rv fo, rv aR, iv pj, iv (Int32.ofNat (own_mx (own_r s0 s1 s2 q0 q1 q2) n)), iv (Int32.ofNat n), l5, .unset, .unset] [(.ref fo), (.int (Int32.ofNat n))]))
                    obtain ⟨T9, X9, e9, st9⟩ := getF X1 hx hZ hown (host := "") (Or.inl (hw _ (List.mem_of_getElem? (i := 33) rfl))) Via.refl e1 H7 (g := (mkF m 200 #[rv fo, rv aR, iv pj, iv (Int32.ofNat (own_mx (own_r s0 s1 s2 q0 q1 q2) n)), iv (Int32.ofNat n), l5, .unset, .unset] [(.ref fo), (.int (Int32.ofNat n))])) rfl rfl (hb hby d4_200)
                    refine own_go st9 ?_
                    show OwnFin p e below s _ _ _ (T9.setTop (mkF m 203 #[rv fo, rv aR, iv pj, iv (Int32.ofNat (own_mx (own_r s0 s1 s2 q0 q1 q2) n)), iv (Int32.ofNat n), l5, .unset, .unset] [(.int (Int32.ofNat n)), (.int (Int32.ofNat n))]))
                    have hc203 : ¬ ((Int32.ofNat n) < (Int32.ofNat n)) := by rw [own_ltN (by omega) (by omega)]; omega
                    refine own_go (fun t_ k_ => XS.icmpYes X9.here hx rfl (pc0 := 203) (pc' := 255) rfl (hb hby d4_203) rfl (flt hc203).2.1 (by decide) (by decide) k_) ?_
                    show OwnFin p e below s _ _ _ (T9.setTop (mkF m 255 #[rv fo, rv aR, iv pj, iv (Int32.ofNat (own_mx (own_r s0 s1 s2 q0 q1 q2) n)), iv (Int32.ofNat n), l5, .unset, .unset] []))
                    refine own_go (fun t_ k_ => XS.iconst X9.here hx rfl (hb hby d4_255) k_) ?_
                    show OwnFin p e below s _ _ _ (T9.setTop (mkF m 256 #[rv fo, rv aR, iv pj, iv (Int32.ofNat (own_mx (own_r s0 s1 s2 q0 q1 q2) n)), iv (Int32.ofNat n), l5, .unset, .unset] [(.int (1 : Int32))]))
                    refine own_go (fun t_ k_ => XS.istore X9.here hx rfl (hb hby d4_256) rfl (l' := #[rv fo, rv aR, iv pj, iv (Int32.ofNat (own_mx (own_r s0 s1 s2 q0 q1 q2) n)), iv (1 : Int32), l5, .unset, .unset]) rfl k_) ?_
                    show OwnFin p e below s _ _ _ (T9.setTop (mkF m 258 #[rv fo, rv aR, iv pj, iv (Int32.ofNat (own_mx (own_r s0 s1 s2 q0 q1 q2) n)), iv (1 : Int32), l5, .unset, .unset] []))
                    have R10 : OwnArr Z h1 aK .long 3 (fun j => .long (own_m6 (own_k5 (own_r s0 s1 s2 q0 q1 q2) n (own_mx (own_r s0 s1 s2 q0 q1 q2) n) (own_Ks s0 s1 s2 q0 q1 q2) n) 0 j)) := H13.congr (fun z hz => by rfl)
                    have loop6 : ∀ (d : Nat) (x_ : Nat) (l5 : Slot) (l6 : Slot) (l7 : Slot) (T1 : State) (locs1 : List Loc) (h1 : Heap), Stand p l e ({ frames := 2, cells := 1, slots := 5, locals := 30 } : Room) s m #[(.ref fo), (.ref aR), (.int pj)] below meth c T1 locs1 cc ss → T1.heap = h1 → Fr n0 locs1 → Keep h0 h1 [fo, aS, aB, aK, aT, aP, aO] → Exa Z h1 fo "com/example/nearside/nearside/slotted/delay/FairBack" → Fld Z h1 fo "com/example/nearside/nearside/slotted/delay/FairBack" "starts" "[I" (.ref aW) → Fld Z h1 fo "com/example/nearside/nearside/slotted/delay/FairBack" "back" "[I" (.ref aB) → Fld Z h1 fo "com/example/nearside/nearside/slotted/delay/FairBack" "keys" "[J" (.ref aK) → Fld Z h1 fo "com/example/nearside/nearside/slotted/delay/FairBack" "retaken" "[J" (.ref aT) → Fld Z h1 fo "com/example/nearside/nearside/slotted/delay/FairBack" "positions" "[I" (.ref aP) → Fld Z h1 fo "com/example/nearside/nearside/slotted/delay/FairBack" "offeredFrom" "[I" (.ref aO) → Fld Z h1 fo "com/example/nearside/nearside/slotted/delay/FairBack" "size" "I" (.int (Int32.ofNat n)) → Fld Z h1 fo "com/example/nearside/nearside/slotted/delay/FairBack" "sorted" "I" (.int u0) → Fld Z h1 fo "com/example/nearside/nearside/slotted/delay/FairBack" "nextKey" "I" (.int u1) → Fld Z h1 fo "com/example/nearside/nearside/slotted/delay/FairBack" "retakenAt" "I" (.int u2) → Fld Z h1 fo "com/example/nearside/nearside/slotted/delay/FairBack" "retakenEnd" "I" (.int u3) → OwnArr Z h1 aB .int 3 (fun k => .int (fB k)) → OwnArr Z h1 aK .long 3 (fun j => .long (own_m6 (own_k5 (own_r s0 s1 s2 q0 q1 q2) n (own_mx (own_r s0 s1 s2 q0 q1 q2) n) (own_Ks s0 s1 s2 q0 q1 q2) n) x_ j)) → OwnArr Z h1 aT .long 3 fT → OwnArr Z h1 aP .int 3 fP0 → OwnArr Z h1 aO .int 3 fO → OwnArr Z h1 aR .int 3 (fun k => .int (Int32.ofNat (own_tri q0 q1 q2 k))) → OwnArr Z h1 aW .int nS (fun j => .int (own_m5 (own_r s0 s1 s2 q0 q1 q2) n (own_mx (own_r s0 s1 s2 q0 q1 q2) n) n j)) → (x_ + d = n - 1) → (One l7) → ((One l5 ∧ One l6) ∨ ∃ w : Int64, l5 = .val (.long w) ∧ l6 = .second) → OwnFin p e below s (fun v h L => v = none ∧ Fr n0 L ∧ Keep h0 h [fo, aS, aB, aK, aT, aP, aO] ∧ Exa Z h fo "com/example/nearside/nearside/slotted/delay/FairBack" ∧ Fld Z h fo "com/example/nearside/nearside/slotted/delay/FairBack" "keys" "[J" (.ref aK) ∧ Fld Z h fo "com/example/nearside/nearside/slotted/delay/FairBack" "retaken" "[J" (.ref aT) ∧ Fld Z h fo "com/example/nearside/nearside/slotted/delay/FairBack" "offeredFrom" "[I" (.ref aO) ∧ Fld Z h fo "com/example/nearside/nearside/slotted/delay/FairBack" "sorted" "I" (.int (Int32.ofNat n)) ∧ Fld Z h fo "com/example/nearside/nearside/slotted/delay/FairBack" "nextKey" "I" (.int 0) ∧ Fld Z h fo "com/example/nearside/nearside/slotted/delay/FairBack" "retakenAt" "I" (.int 0) ∧ Fld Z h fo "com/example/nearside/nearside/slotted/delay/FairBack" "retakenEnd" "I" (.int 0) ∧ OwnArr Z h aK .long 3 (fun j => .long (own_fin n s0 s1 s2 q0 q1 q2 j)) ∧ ∃ fT fO : Nat → Value, OwnArr Z h aT .long 3 fT ∧ OwnArr Z h aO .int 3 fO) 1 5 (T1.setTop (mkF m 258 #[rv fo, rv aR, iv pj, iv (Int32.ofNat (own_mx (own_r s0 s1 s2 q0 q1 q2) n)), iv (Int32.ofNat (x_ + 1)), l5, l6, l7] [])) := by
                      intro d
                      induction d with
                      | zero =>
                        intro x_ l5 l6 l7 T1 locs1 h1 X1 e1 N1 K1 H0 H1 H2 H3 H4 H5 H6 H7 H8 H9 H10 H11 H12 H13 H14 H15 H16 H17 H18 hxd hl7 hl56
                        have Z1 : n0 ≤ h1.size := Nat.le_trans Z0 K1.1
                        refine own_go (fun t_ k_ => XS.iload X1.here hx rfl (hb hby d4_258) rfl k_) ?_
                        show OwnFin p e below s _ _ _ (T1.setTop (mkF m 260 #[rv fo, rv aR, iv pj, iv (Int32.ofNat (own_mx (own_r s0 s1 s2 q0 q1 q2) n)), iv (Int32.ofNat (x_ + 1)), l5, l6, l7] [(.int (Int32.ofNat (x_ + 1)))]))
                        refine own_go (fun t_ k_ => XS.aloadN X1.here hx rfl (hb hby d4_260) rfl rfl k_) ?_
                        show OwnFin p e below s _ _ _ (T1.setTop (mkF m 261 #[rv fo, rv aR, iv pj, iv (Int32.ofNat (own_mx (own_r s0 s1 s2 q0 q1 q2) n)), iv (Int32.ofNat (x_ + 1)), l5, l6, l7] [(.ref fo), (.int (Int32.ofNat (x_ + 1)))]))
                        obtain ⟨T11, X11, e11, st11⟩ := getF X1 hx hZ hown (host := "") (Or.inl (hw _ (List.mem_of_getElem? (i := 33) rfl))) Via.refl e1 H7 (g := (mkF m 261 #[rv fo, rv aR, iv pj, iv (Int32.ofNat (own_mx (own_r s0 s1 s2 q0 q1 q2) n)), iv (Int32.ofNat (x_ + 1)), l5, l6, l7] [(.ref fo), (.int (Int32.ofNat (x_ + 1)))])) rfl rfl (hb hby d4_261)
                        refine own_go st11 ?_
                        show OwnFin p e below s _ _ _ (T11.setTop (mkF m 264 #[rv fo, rv aR, iv pj, iv (Int32.ofNat (own_mx (own_r s0 s1 s2 q0 q1 q2) n)), iv (Int32.ofNat (x_ + 1)), l5, l6, l7] [(.int (Int32.ofNat n)), (.int (Int32.ofNat (x_ + 1)))]))
                        have hc264 : ¬ ((Int32.ofNat (x_ + 1)) < (Int32.ofNat n)) := by rw [own_ltN (by omega) (by omega)]; omega
                        refine own_go (fun t_ k_ => XS.icmpYes X11.here hx rfl (pc0 := 264) (pc' := 337) rfl (hb hby d4_264) rfl (flt hc264).2.1 (by decide) (by decide) k_) ?_
                        show OwnFin p e below s _ _ _ (T11.setTop (mkF m 337 #[rv fo, rv aR, iv pj, iv (Int32.ofNat (own_mx (own_r s0 s1 s2 q0 q1 q2) n)), iv (Int32.ofNat (x_ + 1)), l5, l6, l7] []))
                        have hxe : x_ = n - 1 := by omega
                        subst hxe
                        have Vfin : OwnArr Z h1 aK .long 3 (fun j => .long (own_fin n s0 s1 s2 q0 q1 q2 j)) := H13
                        refine own_go (fun t_ k_ => XS.iconst X11.here hx rfl (hb hby d4_337) k_) ?_
                        show OwnFin p e below s _ _ _ (T11.setTop (mkF m 338 #[rv fo, rv aR, iv pj, iv (Int32.ofNat (own_mx (own_r s0 s1 s2 q0 q1 q2) n)), iv (Int32.ofNat ((n - 1) + 1)), l5, l6, l7] [(.int (0 : Int32))]))
                        refine own_go (fun t_ k_ => XS.istore X11.here hx rfl (hb hby d4_338) rfl (l' := #[rv fo, rv aR, iv pj, iv (Int32.ofNat (own_mx (own_r s0 s1 s2 q0 q1 q2) n)), iv (0 : Int32), l5, l6, l7]) rfl k_) ?_
                        show OwnFin p e below s _ _ _ (T11.setTop (mkF m 340 #[rv fo, rv aR, iv pj, iv (Int32.ofNat (own_mx (own_r s0 s1 s2 q0 q1 q2) n)), iv (0 : Int32), l5, l6, l7] []))
                        have loop7 : ∀ (d : Nat) (y_ : Nat) (gB : Nat → Value) (gP : Nat → Value) (T1 : State) (locs1 : List Loc) (h1 : Heap), Stand p l e ({ frames := 2, cells := 1, slots := 5, locals := 30 } : Room) s m #[(.ref fo), (.ref aR), (.int pj)] below meth c T1 locs1 cc ss → T1.heap = h1 → Fr n0 locs1 → Keep h0 h1 [fo, aS, aB, aK, aT, aP, aO] → Exa Z h1 fo "com/example/nearside/nearside/slotted/delay/FairBack" → Fld Z h1 fo "com/example/nearside/nearside/slotted/delay/FairBack" "starts" "[I" (.ref aW) → Fld Z h1 fo "com/example/nearside/nearside/slotted/delay/FairBack" "back" "[I" (.ref aB) → Fld Z h1 fo "com/example/nearside/nearside/slotted/delay/FairBack" "keys" "[J" (.ref aK) → Fld Z h1 fo "com/example/nearside/nearside/slotted/delay/FairBack" "retaken" "[J" (.ref aT) → Fld Z h1 fo "com/example/nearside/nearside/slotted/delay/FairBack" "positions" "[I" (.ref aP) → Fld Z h1 fo "com/example/nearside/nearside/slotted/delay/FairBack" "offeredFrom" "[I" (.ref aO) → Fld Z h1 fo "com/example/nearside/nearside/slotted/delay/FairBack" "size" "I" (.int (Int32.ofNat n)) → Fld Z h1 fo "com/example/nearside/nearside/slotted/delay/FairBack" "sorted" "I" (.int u0) → Fld Z h1 fo "com/example/nearside/nearside/slotted/delay/FairBack" "nextKey" "I" (.int u1) → Fld Z h1 fo "com/example/nearside/nearside/slotted/delay/FairBack" "retakenAt" "I" (.int u2) → Fld Z h1 fo "com/example/nearside/nearside/slotted/delay/FairBack" "retakenEnd" "I" (.int u3) → OwnArr Z h1 aB .int 3 gB → OwnArr Z h1 aK .long 3 (fun j => .long (own_fin n s0 s1 s2 q0 q1 q2 j)) → OwnArr Z h1 aT .long 3 fT → OwnArr Z h1 aP .int 3 gP → OwnArr Z h1 aO .int 3 fO → OwnArr Z h1 aR .int 3 (fun k => .int (Int32.ofNat (own_tri q0 q1 q2 k))) → OwnArr Z h1 aW .int nS (fun j => .int (own_m5 (own_r s0 s1 s2 q0 q1 q2) n (own_mx (own_r s0 s1 s2 q0 q1 q2) n) n j)) → (y_ + d = n) → OwnFin p e below s (fun v h L => v = none ∧ Fr n0 L ∧ Keep h0 h [fo, aS, aB, aK, aT, aP, aO] ∧ Exa Z h fo "com/example/nearside/nearside/slotted/delay/FairBack" ∧ Fld Z h fo "com/example/nearside/nearside/slotted/delay/FairBack" "keys" "[J" (.ref aK) ∧ Fld Z h fo "com/example/nearside/nearside/slotted/delay/FairBack" "retaken" "[J" (.ref aT) ∧ Fld Z h fo "com/example/nearside/nearside/slotted/delay/FairBack" "offeredFrom" "[I" (.ref aO) ∧ Fld Z h fo "com/example/nearside/nearside/slotted/delay/FairBack" "sorted" "I" (.int (Int32.ofNat n)) ∧ Fld Z h fo "com/example/nearside/nearside/slotted/delay/FairBack" "nextKey" "I" (.int 0) ∧ Fld Z h fo "com/example/nearside/nearside/slotted/delay/FairBack" "retakenAt" "I" (.int 0) ∧ Fld Z h fo "com/example/nearside/nearside/slotted/delay/FairBack" "retakenEnd" "I" (.int 0) ∧ OwnArr Z h aK .long 3 (fun j => .long (own_fin n s0 s1 s2 q0 q1 q2 j)) ∧ ∃ fT fO : Nat → Value, OwnArr Z h aT .long 3 fT ∧ OwnArr Z h aO .int 3 fO) 1 5 (T1.setTop (mkF m 340 #[rv fo, rv aR, iv pj, iv (Int32.ofNat (own_mx (own_r s0 s1 s2 q0 q1 q2) n)), iv (Int32.ofNat y_), l5, l6, l7] [])) := by
                          intro d
                          induction d with
                          | zero =>
                            intro y_ gB gP T1 locs1 h1 X1 e1 N1 K1 H0 H1 H2 H3 H4 H5 H6 H7 H8 H9 H10 H11 H12 H13 H14 H15 H16 H17 H18 hyd
                            have Z1 : n0 ≤ h1.size := Nat.le_trans Z0 K1.1
                            refine own_go (fun t_ k_ => XS.iload X1.here hx rfl (hb hby d4_340) rfl k_) ?_
                            show OwnFin p e below s _ _ _ (T1.setTop (mkF m 342 #[rv fo, rv aR, iv pj, iv (Int32.ofNat (own_mx (own_r s0 s1 s2 q0 q1 q2) n)), iv (Int32.ofNat y_), l5, l6, l7] [(.int (Int32.ofNat y_))]))
                            refine own_go (fun t_ k_ => XS.aloadN X1.here hx rfl (hb hby d4_342) rfl rfl k_) ?_
                            show OwnFin p e below s _ _ _ (T1.setTop (mkF m 343 #[rv fo, rv aR, iv pj, iv (Int32.ofNat (own_mx (own_r s0 s1 s2 q0 q1 q2) n)), iv (Int32.ofNat y_), l5, l6, l7] [(.ref fo), (.int (Int32.ofNat y_))]))
                            obtain ⟨T12, X12, e12, st12⟩ := getF X1 hx hZ hown (host := "") (Or.inl (hw _ (List.mem_of_getElem? (i := 33) rfl))) Via.refl e1 H7 (g := (mkF m 343 #[rv fo, rv aR, iv pj, iv (Int32.ofNat (own_mx (own_r s0 s1 s2 q0 q1 q2) n)), iv (Int32.ofNat y_), l5, l6, l7] [(.ref fo), (.int (Int32.ofNat y_))])) rfl rfl (hb hby d4_343)
                            refine own_go st12 ?_
                            show OwnFin p e below s _ _ _ (T12.setTop (mkF m 346 #[rv fo, rv aR, iv pj, iv (Int32.ofNat (own_mx (own_r s0 s1 s2 q0 q1 q2) n)), iv (Int32.ofNat y_), l5, l6, l7] [(.int (Int32.ofNat n)), (.int (Int32.ofNat y_))]))
                            have hc346 : ¬ ((Int32.ofNat y_) < (Int32.ofNat n)) := by rw [own_ltN (by omega) (by omega)]; omega
                            refine own_go (fun t_ k_ => XS.icmpYes X12.here hx rfl (pc0 := 346) (pc' := 384) rfl (hb hby d4_346) rfl (flt hc346).2.1 (by decide) (by decide) k_) ?_
                            show OwnFin p e below s _ _ _ (T12.setTop (mkF m 384 #[rv fo, rv aR, iv pj, iv (Int32.ofNat (own_mx (own_r s0 s1 s2 q0 q1 q2) n)), iv (Int32.ofNat y_), l5, l6, l7] []))
                            refine own_go (fun t_ k_ => XS.aloadN X12.here hx rfl (hb hby d4_384) rfl rfl k_) ?_
                            show OwnFin p e below s _ _ _ (T12.setTop (mkF m 385 #[rv fo, rv aR, iv pj, iv (Int32.ofNat (own_mx (own_r s0 s1 s2 q0 q1 q2) n)), iv (Int32.ofNat y_), l5, l6, l7] [(.ref fo)]))
                            refine own_go (fun t_ k_ => XS.aloadN X12.here hx rfl (hb hby d4_385) rfl rfl k_) ?_
                            show OwnFin p e below s _ _ _ (T12.setTop (mkF m 386 #[rv fo, rv aR, iv pj, iv (Int32.ofNat (own_mx (own_r s0 s1 s2 q0 q1 q2) n)), iv (Int32.ofNat y_), l5, l6, l7] [(.ref fo), (.ref fo)]))
                            obtain ⟨T13, X13, e13, st13⟩ := getF X12 hx hZ hown (host := "") (Or.inl (hw _ (List.mem_of_getElem? (i := 33) rfl))) Via.refl e12 H7 (g := (mkF m 386 #[rv fo, rv aR, iv pj, iv (Int32.ofNat (own_mx (own_r s0 s1 s2 q0 q1 q2) n)), iv (Int32.ofNat y_), l5, l6, l7] [(.ref fo), (.ref fo)])) rfl rfl (hb hby d4_386)
                            refine own_go st13 ?_
                            show OwnFin p e below s _ _ _ (T13.setTop (mkF m 389 #[rv fo, rv aR, iv pj, iv (Int32.ofNat (own_mx (own_r s0 s1 s2 q0 q1 q2) n)), iv (Int32.ofNat y_), l5, l6, l7] [(.int (Int32.ofNat n)), (.ref fo)]))
                            obtain ⟨T14, h14, X14, e14, W14, st14⟩ := putF X13 hx hZ hown (host := "") (Or.inl (hw _ (List.mem_of_getElem? (i := 42) rfl))) Via.refl e13 H8 H0 (Or.inl (hw _ (List.mem_of_getElem? (i := 43) rfl))) (hw _ (List.mem_of_getElem? (i := 7) rfl)) (ty := .int) (by decide) rfl rfl (g := (mkF m 389 #[rv fo, rv aR, iv pj, iv (Int32.ofNat (own_mx (own_r s0 s1 s2 q0 q1 q2) n)), iv (Int32.ofNat y_), l5, l6, l7] [(.int (Int32.ofNat n)), (.ref fo)])) rfl rfl (hb hby d4_389)
                            have H0_14 := H0.wr W14
                            have H1_14 := H1.other W14 (Or.inr (slot_ne (Or.inl (hw _ (List.mem_of_getElem? (i := 16) rfl))) (Or.inl (hw _ (List.mem_of_getElem? (i := 43) rfl))) (by decide) (t := (.array .int)) (t' := .int) (by decide) (by decide)))
                            have H2_14 := H2.other W14 (Or.inr (slot_ne (Or.inr (hw _ (List.mem_of_getElem? (i := 18) rfl))) (Or.inl (hw _ (List.mem_of_getElem? (i := 43) rfl))) (by decide) (t := (.array .int)) (t' := .int) (by decide) (by decide)))
                            have H3_14 := H3.other W14 (Or.inr (slot_ne (Or.inr (hw _ (List.mem_of_getElem? (i := 21) rfl))) (Or.inl (hw _ (List.mem_of_getElem? (i := 43) rfl))) (by decide) (t := (.array .long)) (t' := .int) (by decide) (by decide)))
                            have H4_14 := H4.other W14 (Or.inr (slot_ne (Or.inr (hw _ (List.mem_of_getElem? (i := 23) rfl))) (Or.inl (hw _ (List.mem_of_getElem? (i := 43) rfl))) (by decide) (t := (.array .long)) (t' := .int) (by decide) (by decide)))
                            have H5_14 := H5.other W14 (Or.inr (slot_ne (Or.inl (hw _ (List.mem_of_getElem? (i := 25) rfl))) (Or.inl (hw _ (List.mem_of_getElem? (i := 43) rfl))) (by decide) (t := (.array .int)) (t' := .int) (by decide) (by decide)))
                            have H6_14 := H6.other W14 (Or.inr (slot_ne (Or.inl (hw _ (List.mem_of_getElem? (i := 27) rfl))) (Or.inl (hw _ (List.mem_of_getElem? (i := 43) rfl))) (by decide) (t := (.array .int)) (t' := .int) (by decide) (by decide)))
                            have H7_14 := H7.other W14 (Or.inr (slot_ne (Or.inl (hw _ (List.mem_of_getElem? (i := 34) rfl))) (Or.inl (hw _ (List.mem_of_getElem? (i := 43) rfl))) (by decide) (t := .int) (t' := .int) (by decide) (by decide)))
                            have H8_14 := H8.same W14
                            have H9_14 := H9.other W14 (Or.inr (slot_ne (Or.inl (hw _ (List.mem_of_getElem? (i := 45) rfl))) (Or.inl (hw _ (List.mem_of_getElem? (i := 43) rfl))) (by decide) (t := .int) (t' := .int) (by decide) (by decide)))
                            have H10_14 := H10.other W14 (Or.inr (slot_ne (Or.inl (hw _ (List.mem_of_getElem? (i := 47) rfl))) (Or.inl (hw _ (List.mem_of_getElem? (i := 43) rfl))) (by decide) (t := .int) (t' := .int) (by decide) (by decide)))
                            have H11_14 := H11.other W14 (Or.inr (slot_ne (Or.inl (hw _ (List.mem_of_getElem? (i := 49) rfl))) (Or.inl (hw _ (List.mem_of_getElem? (i := 43) rfl))) (by decide) (t := .int) (t' := .int) (by decide) (by decide)))
                            have H12_14 := H12.other W14 (Ne.symm ne_fo_aB)
                            have H13_14 := H13.other W14 (Ne.symm ne_fo_aK)
                            have H14_14 := H14.other W14 (Ne.symm ne_fo_aT)
                            have H15_14 := H15.other W14 (Ne.symm ne_fo_aP)
                            have H16_14 := H16.other W14 (Ne.symm ne_fo_aO)
                            have H17_14 := H17.other W14 (Ne.symm ne_fo_aR)
                            have H18_14 := H18.other W14 (Ne.symm ne_fo_aW)
                            have Z14 : n0 ≤ h14.size := Nat.le_trans Z1 (Keep.of_wr W14).1
                            have K14 : Keep h0 h14 [fo, aS, aB, aK, aT, aP, aO] := K1.wr W14 (Or.inl (List.mem_of_getElem? (i := 0) rfl))
                            have N14 := Fr.snoc X14 N1 g_fo
                            refine own_go st14 ?_
                            show OwnFin p e below s _ _ _ (T14.setTop (mkF m 392 #[rv fo, rv aR, iv pj, iv (Int32.ofNat (own_mx (own_r s0 s1 s2 q0 q1 q2) n)), iv (Int32.ofNat y_), l5, l6, l7] []))
                            refine own_go (fun t_ k_ => XS.aloadN X14.here hx rfl (hb hby d4_392) rfl rfl k_) ?_
                            show OwnFin p e below s _ _ _ (T14.setTop (mkF m 393 #[rv fo, rv aR, iv pj, iv (Int32.ofNat (own_mx (own_r s0 s1 s2 q0 q1 q2) n)), iv (Int32.ofNat y_), l5, l6, l7] [(.ref fo)]))
                            refine own_go (fun t_ k_ => XS.iconst X14.here hx rfl (hb hby d4_393) k_) ?_
                            show OwnFin p e below s _ _ _ (T14.setTop (mkF m 394 #[rv fo, rv aR, iv pj, iv (Int32.ofNat (own_mx (own_r s0 s1 s2 q0 q1 q2) n)), iv (Int32.ofNat y_), l5, l6, l7] [(.int (0 : Int32)), (.ref fo)]))
                            obtain ⟨T15, h15, X15, e15, W15, st15⟩ := putF X14 hx hZ hown (host := "") (Or.inl (hw _ (List.mem_of_getElem? (i := 44) rfl))) Via.refl e14 H9_14 H0_14 (Or.inl (hw _ (List.mem_of_getElem? (i := 45) rfl))) (hw _ (List.mem_of_getElem? (i := 7) rfl)) (ty := .int) (by decide) rfl rfl (g := (mkF m 394 #[rv fo, rv aR, iv pj, iv (Int32.ofNat (own_mx (own_r s0 s1 s2 q0 q1 q2) n)), iv (Int32.ofNat y_), l5, l6, l7] [(.int (0 : Int32)), (.ref fo)])) rfl rfl (hb hby d4_394)
                            have H0_15 := H0_14.wr W15
                            have H1_15 := H1_14.other W15 (Or.inr (slot_ne (Or.inl (hw _ (List.mem_of_getElem? (i := 16) rfl))) (Or.inl (hw _ (List.mem_of_getElem? (i := 45) rfl))) (by decide) (t := (.array .int)) (t' := .int) (by decide) (by decide)))
                            have H2_15 := H2_14.other W15 (Or.inr (slot_ne (Or.inr (hw _ (List.mem_of_getElem? (i := 18) rfl))) (Or.inl (hw _ (List.mem_of_getElem? (i := 45) rfl))) (by decide) (t := (.array .int)) (t' := .int) (by decide) (by decide)))
                            have H3_15 := H3_14.other W15 (Or.inr (slot_ne (Or.inr (hw _ (List.mem_of_getElem? (i := 21) rfl))) (Or.inl (hw _ (List.mem_of_getElem? (i := 45) rfl))) (by decide) (t := (.array .long)) (t' := .int) (by decide) (by decide)))
                            have H4_15 := H4_14.other W15 (Or.inr (slot_ne (Or.inr (hw _ (List.mem_of_getElem? (i := 23) rfl))) (Or.inl (hw _ (List.mem_of_getElem? (i := 45) rfl))) (by decide) (t := (.array .long)) (t' := .int) (by decide) (by decide)))
                            have H5_15 := H5_14.other W15 (Or.inr (slot_ne (Or.inl (hw _ (List.mem_of_getElem? (i := 25) rfl))) (Or.inl (hw _ (List.mem_of_getElem? (i := 45) rfl))) (by decide) (t := (.array .int)) (t' := .int) (by decide) (by decide)))
                            have H6_15 := H6_14.other W15 (Or.inr (slot_ne (Or.inl (hw _ (List.mem_of_getElem? (i := 27) rfl))) (Or.inl (hw _ (List.mem_of_getElem? (i := 45) rfl))) (by decide) (t := (.array .int)) (t' := .int) (by decide) (by decide)))
                            have H7_15 := H7_14.other W15 (Or.inr (slot_ne (Or.inl (hw _ (List.mem_of_getElem? (i := 34) rfl))) (Or.inl (hw _ (List.mem_of_getElem? (i := 45) rfl))) (by decide) (t := .int) (t' := .int) (by decide) (by decide)))
                            have H8_15 := H8_14.other W15 (Or.inr (slot_ne (Or.inl (hw _ (List.mem_of_getElem? (i := 43) rfl))) (Or.inl (hw _ (List.mem_of_getElem? (i := 45) rfl))) (by decide) (t := .int) (t' := .int) (by decide) (by decide)))
                            have H9_15 := H9_14.same W15
                            have H10_15 := H10_14.other W15 (Or.inr (slot_ne (Or.inl (hw _ (List.mem_of_getElem? (i := 47) rfl))) (Or.inl (hw _ (List.mem_of_getElem? (i := 45) rfl))) (by decide) (t := .int) (t' := .int) (by decide) (by decide)))
                            have H11_15 := H11_14.other W15 (Or.inr (slot_ne (Or.inl (hw _ (List.mem_of_getElem? (i := 49) rfl))) (Or.inl (hw _ (List.mem_of_getElem? (i := 45) rfl))) (by decide) (t := .int) (t' := .int) (by decide) (by decide)))
                            have H12_15 := H12_14.other W15 (Ne.symm ne_fo_aB)
                            have H13_15 := H13_14.other W15 (Ne.symm ne_fo_aK)
                            have H14_15 := H14_14.other W15 (Ne.symm ne_fo_aT)
                            have H15_15 := H15_14.other W15 (Ne.symm ne_fo_aP)
                            have H16_15 := H16_14.other W15 (Ne.symm ne_fo_aO)
                            have H17_15 := H17_14.other W15 (Ne.symm ne_fo_aR)
                            have H18_15 := H18_14.other W15 (Ne.symm ne_fo_aW)
                            have Z15 : n0 ≤ h15.size := Nat.le_trans Z14 (Keep.of_wr W15).1
                            have K15 : Keep h0 h15 [fo, aS, aB, aK, aT, aP, aO] := K14.wr W15 (Or.inl (List.mem_of_getElem? (i := 0) rfl))
                            have N15 := Fr.snoc X15 N14 g_fo
                            refine own_go st15 ?_
                            show OwnFin p e below s _ _ _ (T15.setTop (mkF m 397 #[rv fo, rv aR, iv pj, iv (Int32.ofNat (own_mx (own_r s0 s1 s2 q0 q1 q2) n)), iv (Int32.ofNat y_), l5, l6, l7] []))
                            refine own_go (fun t_ k_ => XS.aloadN X15.here hx rfl (hb hby d4_397) rfl rfl k_) ?_
                            show OwnFin p e below s _ _ _ (T15.setTop (mkF m 398 #[rv fo, rv aR, iv pj, iv (Int32.ofNat (own_mx (own_r s0 s1 s2 q0 q1 q2) n)), iv (Int32.ofNat y_), l5, l6, l7] [(.ref fo)]))
                            refine own_go (fun t_ k_ => XS.iconst X15.here hx rfl (hb hby d4_398) k_) ?_
                            show OwnFin p e below s _ _ _ (T15.setTop (mkF m 399 #[rv fo, rv aR, iv pj, iv (Int32.ofNat (own_mx (own_r s0 s1 s2 q0 q1 q2) n)), iv (Int32.ofNat y_), l5, l6, l7] [(.int (0 : Int32)), (.ref fo)]))
                            obtain ⟨T16, h16, X16, e16, W16, st16⟩ := putF X15 hx hZ hown (host := "") (Or.inl (hw _ (List.mem_of_getElem? (i := 46) rfl))) Via.refl e15 H10_15 H0_15 (Or.inl (hw _ (List.mem_of_getElem? (i := 47) rfl))) (hw _ (List.mem_of_getElem? (i := 7) rfl)) (ty := .int) (by decide) rfl rfl (g := (mkF m 399 #[rv fo, rv aR, iv pj, iv (Int32.ofNat (own_mx (own_r s0 s1 s2 q0 q1 q2) n)), iv (Int32.ofNat y_), l5, l6, l7] [(.int (0 : Int32)), (.ref fo)])) rfl rfl (hb hby d4_399)
                            have H0_16 := H0_15.wr W16
                            have H1_16 := H1_15.other W16 (Or.inr (slot_ne (Or.inl (hw _ (List.mem_of_getElem? (i := 16) rfl))) (Or.inl (hw _ (List.mem_of_getElem? (i := 47) rfl))) (by decide) (t := (.array .int)) (t' := .int) (by decide) (by decide)))
                            have H2_16 := H2_15.other W16 (Or.inr (slot_ne (Or.inr (hw _ (List.mem_of_getElem? (i := 18) rfl))) (Or.inl (hw _ (List.mem_of_getElem? (i := 47) rfl))) (by decide) (t := (.array .int)) (t' := .int) (by decide) (by decide)))
                            have H3_16 := H3_15.other W16 (Or.inr (slot_ne (Or.inr (hw _ (List.mem_of_getElem? (i := 21) rfl))) (Or.inl (hw _ (List.mem_of_getElem? (i := 47) rfl))) (by decide) (t := (.array .long)) (t' := .int) (by decide) (by decide)))
                            have H4_16 := H4_15.other W16 (Or.inr (slot_ne (Or.inr (hw _ (List.mem_of_getElem? (i := 23) rfl))) (Or.inl (hw _ (List.mem_of_getElem? (i := 47) rfl))) (by decide) (t := (.array .long)) (t' := .int) (by decide) (by decide)))
                            have H5_16 := H5_15.other W16 (Or.inr (slot_ne (Or.inl (hw _ (List.mem_of_getElem? (i := 25) rfl))) (Or.inl (hw _ (List.mem_of_getElem? (i := 47) rfl))) (by decide) (t := (.array .int)) (t' := .int) (by decide) (by decide)))
                            have H6_16 := H6_15.other W16 (Or.inr (slot_ne (Or.inl (hw _ (List.mem_of_getElem? (i := 27) rfl))) (Or.inl (hw _ (List.mem_of_getElem? (i := 47) rfl))) (by decide) (t := (.array .int)) (t' := .int) (by decide) (by decide)))
                            have H7_16 := H7_15.other W16 (Or.inr (slot_ne (Or.inl (hw _ (List.mem_of_getElem? (i := 34) rfl))) (Or.inl (hw _ (List.mem_of_getElem? (i := 47) rfl))) (by decide) (t := .int) (t' := .int) (by decide) (by decide)))
                            have H8_16 := H8_15.other W16 (Or.inr (slot_ne (Or.inl (hw _ (List.mem_of_getElem? (i := 43) rfl))) (Or.inl (hw _ (List.mem_of_getElem? (i := 47) rfl))) (by decide) (t := .int) (t' := .int) (by decide) (by decide)))
                            have H9_16 := H9_15.other W16 (Or.inr (slot_ne (Or.inl (hw _ (List.mem_of_getElem? (i := 45) rfl))) (Or.inl (hw _ (List.mem_of_getElem? (i := 47) rfl))) (by decide) (t := .int) (t' := .int) (by decide) (by decide)))
                            have H10_16 := H10_15.same W16
                            have H11_16 := H11_15.other W16 (Or.inr (slot_ne (Or.inl (hw _ (List.mem_of_getElem? (i := 49) rfl))) (Or.inl (hw _ (List.mem_of_getElem? (i := 47) rfl))) (by decide) (t := .int) (t' := .int) (by decide) (by decide)))
                            have H12_16 := H12_15.other W16 (Ne.symm ne_fo_aB)
                            have H13_16 := H13_15.other W16 (Ne.symm ne_fo_aK)
                            have H14_16 := H14_15.other W16 (Ne.symm ne_fo_aT)
                            have H15_16 := H15_15.other W16 (Ne.symm ne_fo_aP)
                            have H16_16 := H16_15.other W16 (Ne.symm ne_fo_aO)
                            have H17_16 := H17_15.other W16 (Ne.symm ne_fo_aR)
                            have H18_16 := H18_15.other W16 (Ne.symm ne_fo_aW)
                            have Z16 : n0 ≤ h16.size := Nat.le_trans Z15 (Keep.of_wr W16).1
                            have K16 : Keep h0 h16 [fo, aS, aB, aK, aT, aP, aO] := K15.wr W16 (Or.inl (List.mem_of_getElem? (i := 0) rfl))
                            have N16 := Fr.snoc X16 N15 g_fo
                            refine own_go st16 ?_
                            show OwnFin p e below s _ _ _ (T16.setTop (mkF m 402 #[rv fo, rv aR, iv pj, iv (Int32.ofNat (own_mx (own_r s0 s1 s2 q0 q1 q2) n)), iv (Int32.ofNat y_), l5, l6, l7] []))
                            refine own_go (fun t_ k_ => XS.aloadN X16.here hx rfl (hb hby d4_402) rfl rfl k_) ?_
                            show OwnFin p e below s _ _ _ (T16.setTop (mkF m 403 #[rv fo, rv aR, iv pj, iv (Int32.ofNat (own_mx (own_r s0 s1 s2 q0 q1 q2) n)), iv (Int32.ofNat y_), l5, l6, l7] [(.ref fo)]))
                            refine own_go (fun t_ k_ => XS.iconst X16.here hx rfl (hb hby d4_403) k_) ?_
                            show OwnFin p e below s _ _ _ (T16.setTop (mkF m 404 #[rv fo, rv aR, iv pj, iv (Int32.ofNat (own_mx (own_r s0 s1 s2 q0 q1 q2) n)), iv (Int32.ofNat y_), l5, l6, l7] [(.int (0 : Int32)), (.ref fo)]))
                            obtain ⟨T17, h17, X17, e17, W17, st17⟩ := putF X16 hx hZ hown (host := "") (Or.inl (hw _ (List.mem_of_getElem? (i := 48) rfl))) Via.refl e16 H11_16 H0_16 (Or.inl (hw _ (List.mem_of_getElem? (i := 49) rfl))) (hw _ (List.mem_of_getElem? (i := 7) rfl)) (ty := .int) (by decide) rfl rfl (g := (mkF m 404 #[rv fo, rv aR, iv pj, iv (Int32.ofNat (own_mx (own_r s0 s1 s2 q0 q1 q2) n)), iv (Int32.ofNat y_), l5, l6, l7] [(.int (0 : Int32)), (.ref fo)])) rfl rfl (hb hby d4_404)
                            have H0_17 := H0_16.wr W17
                            have H1_17 := H1_16.other W17 (Or.inr (slot_ne (Or.inl (hw _ (List.mem_of_getElem? (i := 16) rfl))) (Or.inl (hw _ (List.mem_of_getElem? (i := 49) rfl))) (by decide) (t := (.array .int)) (t' := .int) (by decide) (by decide)))
                            have H2_17 := H2_16.other W17 (Or.inr (slot_ne (Or.inr (hw _ (List.mem_of_getElem? (i := 18) rfl))) (Or.inl (hw _ (List.mem_of_getElem? (i := 49) rfl))) (by decide) (t := (.array .int)) (t' := .int) (by decide) (by decide)))
                            have H3_17 := H3_16.other W17 (Or.inr (slot_ne (Or.inr (hw _ (List.mem_of_getElem? (i := 21) rfl))) (Or.inl (hw _ (List.mem_of_getElem? (i := 49) rfl))) (by decide) (t := (.array .long)) (t' := .int) (by decide) (by decide)))
                            have H4_17 := H4_16.other W17 (Or.inr (slot_ne (Or.inr (hw _ (List.mem_of_getElem? (i := 23) rfl))) (Or.inl (hw _ (List.mem_of_getElem? (i := 49) rfl))) (by decide) (t := (.array .long)) (t' := .int) (by decide) (by decide)))
                            have H5_17 := H5_16.other W17 (Or.inr (slot_ne (Or.inl (hw _ (List.mem_of_getElem? (i := 25) rfl))) (Or.inl (hw _ (List.mem_of_getElem? (i := 49) rfl))) (by decide) (t := (.array .int)) (t' := .int) (by decide) (by decide)))
                            have H6_17 := H6_16.other W17 (Or.inr (slot_ne (Or.inl (hw _ (List.mem_of_getElem? (i := 27) rfl))) (Or.inl (hw _ (List.mem_of_getElem? (i := 49) rfl))) (by decide) (t := (.array .int)) (t' := .int) (by decide) (by decide)))
                            have H7_17 := H7_16.other W17 (Or.inr (slot_ne (Or.inl (hw _ (List.mem_of_getElem? (i := 34) rfl))) (Or.inl (hw _ (List.mem_of_getElem? (i := 49) rfl))) (by decide) (t := .int) (t' := .int) (by decide) (by decide)))
                            have H8_17 := H8_16.other W17 (Or.inr (slot_ne (Or.inl (hw _ (List.mem_of_getElem? (i := 43) rfl))) (Or.inl (hw _ (List.mem_of_getElem? (i := 49) rfl))) (by decide) (t := .int) (t' := .int) (by decide) (by decide)))
                            have H9_17 := H9_16.other W17 (Or.inr (slot_ne (Or.inl (hw _ (List.mem_of_getElem? (i := 45) rfl))) (Or.inl (hw _ (List.mem_of_getElem? (i := 49) rfl))) (by decide) (t := .int) (t' := .int) (by decide) (by decide)))
                            have H10_17 := H10_16.other W17 (Or.inr (slot_ne (Or.inl (hw _ (List.mem_of_getElem? (i := 47) rfl))) (Or.inl (hw _ (List.mem_of_getElem? (i := 49) rfl))) (by decide) (t := .int) (t' := .int) (by decide) (by decide)))
                            have H11_17 := H11_16.same W17
                            have H12_17 := H12_16.other W17 (Ne.symm ne_fo_aB)
                            have H13_17 := H13_16.other W17 (Ne.symm ne_fo_aK)
                            have H14_17 := H14_16.other W17 (Ne.symm ne_fo_aT)
                            have H15_17 := H15_16.other W17 (Ne.symm ne_fo_aP)
                            have H16_17 := H16_16.other W17 (Ne.symm ne_fo_aO)
                            have H17_17 := H17_16.other W17 (Ne.symm ne_fo_aR)
                            have H18_17 := H18_16.other W17 (Ne.symm ne_fo_aW)
                            have Z17 : n0 ≤ h17.size := Nat.le_trans Z16 (Keep.of_wr W17).1
                            have K17 : Keep h0 h17 [fo, aS, aB, aK, aT, aP, aO] := K16.wr W17 (Or.inl (List.mem_of_getElem? (i := 0) rfl))
                            have N17 := Fr.snoc X17 N16 g_fo
                            refine own_go st17 ?_
                            show OwnFin p e below s _ _ _ (T17.setTop (mkF m 407 #[rv fo, rv aR, iv pj, iv (Int32.ofNat (own_mx (own_r s0 s1 s2 q0 q1 q2) n)), iv (Int32.ofNat y_), l5, l6, l7] []))
                            refine own_ret X17 (v := none) hlk (fun _ => rfl) (fun fs hr => X17.returnOut hx hret (hb hby d4_407) hr) hcc hss ?_
                            rw [e17]
                            exact ⟨rfl, N17, K17, H0_17, H3_17, H4_17, H6_17, H8_17, H9_17, H10_17, H11_17, H13_17, _, _, H14_17, H16_17⟩
                          | succ d ih =>
                            intro y_ gB gP T1 locs1 h1 X1 e1 N1 K1 H0 H1 H2 H3 H4 H5 H6 H7 H8 H9 H10 H11 H12 H13 H14 H15 H16 H17 H18 hyd
                            have Z1 : n0 ≤ h1.size := Nat.le_trans Z0 K1.1
                            refine own_go (fun t_ k_ => XS.iload X1.here hx rfl (hb hby d4_340) rfl k_) ?_
                            show OwnFin p e below s _ _ _ (T1.setTop (mkF m 342 #[rv fo, rv aR, iv pj, iv (Int32.ofNat (own_mx (own_r s0 s1 s2 q0 q1 q2) n)), iv (Int32.ofNat y_), l5, l6, l7] [(.int (Int32.ofNat y_))]))
                            refine own_go (fun t_ k_ => XS.aloadN X1.here hx rfl (hb hby d4_342) rfl rfl k_) ?_
                            show OwnFin p e below s _ _ _ (T1.setTop (mkF m 343 #[rv fo, rv aR, iv pj, iv (Int32.ofNat (own_mx (own_r s0 s1 s2 q0 q1 q2) n)), iv (Int32.ofNat y_), l5, l6, l7] [(.ref fo), (.int (Int32.ofNat y_))]))
                            obtain ⟨T18, X18, e18, st18⟩ := getF X1 hx hZ hown (host := "") (Or.inl (hw _ (List.mem_of_getElem? (i := 33) rfl))) Via.refl e1 H7 (g := (mkF m 343 #[rv fo, rv aR, iv pj, iv (Int32.ofNat (own_mx (own_r s0 s1 s2 q0 q1 q2) n)), iv (Int32.ofNat y_), l5, l6, l7] [(.ref fo), (.int (Int32.ofNat y_))])) rfl rfl (hb hby d4_343)
                            refine own_go st18 ?_
                            show OwnFin p e below s _ _ _ (T18.setTop (mkF m 346 #[rv fo, rv aR, iv pj, iv (Int32.ofNat (own_mx (own_r s0 s1 s2 q0 q1 q2) n)), iv (Int32.ofNat y_), l5, l6, l7] [(.int (Int32.ofNat n)), (.int (Int32.ofNat y_))]))
                            have hc346 : (Int32.ofNat y_) < (Int32.ofNat n) := by rw [own_ltN (by omega) (by omega)]; omega
                            refine own_go (fun t_ k_ => XS.icmpNo X18.here hx rfl (hb hby d4_346) rfl (tlt hc346).2.1 k_) ?_
                            show OwnFin p e below s _ _ _ (T18.setTop (mkF m 349 #[rv fo, rv aR, iv pj, iv (Int32.ofNat (own_mx (own_r s0 s1 s2 q0 q1 q2) n)), iv (Int32.ofNat y_), l5, l6, l7] []))
                            refine own_go (fun t_ k_ => XS.aloadN X18.here hx rfl (hb hby d4_349) rfl rfl k_) ?_
                            show OwnFin p e below s _ _ _ (T18.setTop (mkF m 350 #[rv fo, rv aR, iv pj, iv (Int32.ofNat (own_mx (own_r s0 s1 s2 q0 q1 q2) n)), iv (Int32.ofNat y_), l5, l6, l7] [(.ref fo)]))
                            obtain ⟨T19, X19, e19, st19⟩ := getF X18 hx hZ hown (host := "") (Or.inl (hw _ (List.mem_of_getElem? (i := 17) rfl))) Via.refl e18 H2 (g := (mkF m 350 #[rv fo, rv aR, iv pj, iv (Int32.ofNat (own_mx (own_r s0 s1 s2 q0 q1 q2) n)), iv (Int32.ofNat y_), l5, l6, l7] [(.ref fo)])) rfl rfl (hb hby d4_350)
                            refine own_go st19 ?_
                            show OwnFin p e below s _ _ _ (T19.setTop (mkF m 353 #[rv fo, rv aR, iv pj, iv (Int32.ofNat (own_mx (own_r s0 s1 s2 q0 q1 q2) n)), iv (Int32.ofNat y_), l5, l6, l7] [(.ref aB)]))
                            refine own_go (fun t_ k_ => XS.iload X19.here hx rfl (hb hby d4_353) rfl k_) ?_
                            show OwnFin p e below s _ _ _ (T19.setTop (mkF m 355 #[rv fo, rv aR, iv pj, iv (Int32.ofNat (own_mx (own_r s0 s1 s2 q0 q1 q2) n)), iv (Int32.ofNat y_), l5, l6, l7] [(.int (Int32.ofNat y_)), (.ref aB)]))
                            refine own_go (fun t_ k_ => XS.aloadN X19.here hx rfl (hb hby d4_355) rfl rfl k_) ?_
                            show OwnFin p e below s _ _ _ (T19.setTop (mkF m 356 #[rv fo, rv aR, iv pj, iv (Int32.ofNat (own_mx (own_r s0 s1 s2 q0 q1 q2) n)), iv (Int32.ofNat y_), l5, l6, l7] [(.ref fo), (.int (Int32.ofNat y_)), (.ref aB)]))
                            obtain ⟨T20, X20, e20, st20⟩ := getF X19 hx hZ hown (host := "") (Or.inl (hw _ (List.mem_of_getElem? (i := 20) rfl))) Via.refl e19 H3 (g := (mkF m 356 #[rv fo, rv aR, iv pj, iv (Int32.ofNat (own_mx (own_r s0 s1 s2 q0 q1 q2) n)), iv (Int32.ofNat y_), l5, l6, l7] [(.ref fo), (.int (Int32.ofNat y_)), (.ref aB)])) rfl rfl (hb hby d4_356)
                            refine own_go st20 ?_
                            show OwnFin p e below s _ _ _ (T20.setTop (mkF m 359 #[rv fo, rv aR, iv pj, iv (Int32.ofNat (own_mx (own_r s0 s1 s2 q0 q1 q2) n)), iv (Int32.ofNat y_), l5, l6, l7] [(.ref aK), (.int (Int32.ofNat y_)), (.ref aB)]))
                            refine own_go (fun t_ k_ => XS.iload X20.here hx rfl (hb hby d4_359) rfl k_) ?_
                            show OwnFin p e below s _ _ _ (T20.setTop (mkF m 361 #[rv fo, rv aR, iv pj, iv (Int32.ofNat (own_mx (own_r s0 s1 s2 q0 q1 q2) n)), iv (Int32.ofNat y_), l5, l6, l7] [(.int (Int32.ofNat y_)), (.ref aK), (.int (Int32.ofNat y_)), (.ref aB)]))
                            refine own_go (own_laload X20 hx hZ e20 H13 (i := y_) rfl (by omega) (g := (mkF m 361 #[rv fo, rv aR, iv pj, iv (Int32.ofNat (own_mx (own_r s0 s1 s2 q0 q1 q2) n)), iv (Int32.ofNat y_), l5, l6, l7] [(.int (Int32.ofNat y_)), (.ref aK), (.int (Int32.ofNat y_)), (.ref aB)])) rfl rfl (hb hby d4_361)) ?_
                            show OwnFin p e below s _ _ _ (T20.setTop (mkF m 362 #[rv fo, rv aR, iv pj, iv (Int32.ofNat (own_mx (own_r s0 s1 s2 q0 q1 q2) n)), iv (Int32.ofNat y_), l5, l6, l7] [(.long (own_fin n s0 s1 s2 q0 q1 q2 y_)), (.int (Int32.ofNat y_)), (.ref aB)]))
                            refine own_go (fun t_ k_ => XS.l2i X20.here hx rfl (hb hby d4_362) rfl k_) ?_
                            show OwnFin p e below s _ _ _ (T20.setTop (mkF m 363 #[rv fo, rv aR, iv pj, iv (Int32.ofNat (own_mx (own_r s0 s1 s2 q0 q1 q2) n)), iv (Int32.ofNat y_), l5, l6, l7] [(.int ((own_fin n s0 s1 s2 q0 q1 q2 y_).toInt32)), (.int (Int32.ofNat y_)), (.ref aB)]))
                            obtain ⟨T21, h21, X21, e21, W21, A21, st21⟩ := own_iastore X20 hx hZ e20 H12 (i := y_) rfl (by omega) (g := (mkF m 363 #[rv fo, rv aR, iv pj, iv (Int32.ofNat (own_mx (own_r s0 s1 s2 q0 q1 q2) n)), iv (Int32.ofNat y_), l5, l6, l7] [(.int ((own_fin n s0 s1 s2 q0 q1 q2 y_).toInt32)), (.int (Int32.ofNat y_)), (.ref aB)])) rfl rfl (hb hby d4_363)
                            have H0_21 := H0.wr W21
                            have H1_21 := H1.other W21 (Or.inl ne_fo_aB)
                            have H2_21 := H2.other W21 (Or.inl ne_fo_aB)
                            have H3_21 := H3.other W21 (Or.inl ne_fo_aB)
                            have H4_21 := H4.other W21 (Or.inl ne_fo_aB)
                            have H5_21 := H5.other W21 (Or.inl ne_fo_aB)
                            have H6_21 := H6.other W21 (Or.inl ne_fo_aB)
                            have H7_21 := H7.other W21 (Or.inl ne_fo_aB)
                            have H8_21 := H8.other W21 (Or.inl ne_fo_aB)
                            have H9_21 := H9.other W21 (Or.inl ne_fo_aB)
                            have H10_21 := H10.other W21 (Or.inl ne_fo_aB)
                            have H11_21 := H11.other W21 (Or.inl ne_fo_aB)
                            have H13_21 := H13.other W21 (Ne.symm ne_aB_aK)
                            have H14_21 := H14.other W21 (Ne.symm ne_aB_aT)
                            have H15_21 := H15.other W21 (Ne.symm ne_aB_aP)
                            have H16_21 := H16.other W21 (Ne.symm ne_aB_aO)
                            have H17_21 := H17.other W21 (Ne.symm ne_aB_aR)
                            have H18_21 := H18.other W21 (Ne.symm ne_aB_aW)
                            have Z21 : n0 ≤ h21.size := Nat.le_trans Z1 (Keep.of_wr W21).1
                            have K21 : Keep h0 h21 [fo, aS, aB, aK, aT, aP, aO] := K1.wr W21 (Or.inl (List.mem_of_getElem? (i := 2) rfl))
                            have N21 := Fr.snoc X21 N1 g_aB
                            refine own_go st21 ?_
                            show OwnFin p e below s _ _ _ (T21.setTop (mkF m 364 #[rv fo, rv aR, iv pj, iv (Int32.ofNat (own_mx (own_r s0 s1 s2 q0 q1 q2) n)), iv (Int32.ofNat y_), l5, l6, l7] []))
                            refine own_go (fun t_ k_ => XS.aloadN X21.here hx rfl (hb hby d4_364) rfl rfl k_) ?_
                            show OwnFin p e below s _ _ _ (T21.setTop (mkF m 365 #[rv fo, rv aR, iv pj, iv (Int32.ofNat (own_mx (own_r s0 s1 s2 q0 q1 q2) n)), iv (Int32.ofNat y_), l5, l6, l7] [(.ref fo)]))
                            obtain ⟨T22, X22, e22, st22⟩ := getF X21 hx hZ hown (host := "") (Or.inl (hw _ (List.mem_of_getElem? (i := 24) rfl))) Via.refl e21 H5_21 (g := (mkF m 365 #[rv fo, rv aR, iv pj, iv (Int32.ofNat (own_mx (own_r s0 s1 s2 q0 q1 q2) n)), iv (Int32.ofNat y_), l5, l6, l7] [(.ref fo)])) rfl rfl (hb hby d4_365)
                            refine own_go st22 ?_
                            show OwnFin p e below s _ _ _ (T22.setTop (mkF m 368 #[rv fo, rv aR, iv pj, iv (Int32.ofNat (own_mx (own_r s0 s1 s2 q0 q1 q2) n)), iv (Int32.ofNat y_), l5, l6, l7] [(.ref aP)]))
                            refine own_go (fun t_ k_ => XS.aloadN X22.here hx rfl (hb hby d4_368) rfl rfl k_) ?_
                            show OwnFin p e below s _ _ _ (T22.setTop (mkF m 369 #[rv fo, rv aR, iv pj, iv (Int32.ofNat (own_mx (own_r s0 s1 s2 q0 q1 q2) n)), iv (Int32.ofNat y_), l5, l6, l7] [(.ref fo), (.ref aP)]))
                            obtain ⟨T23, X23, e23, st23⟩ := getF X22 hx hZ hown (host := "") (Or.inl (hw _ (List.mem_of_getElem? (i := 17) rfl))) Via.refl e22 H2_21 (g := (mkF m 369 #[rv fo, rv aR, iv pj, iv (Int32.ofNat (own_mx (own_r s0 s1 s2 q0 q1 q2) n)), iv (Int32.ofNat y_), l5, l6, l7] [(.ref fo), (.ref aP)])) rfl rfl (hb hby d4_369)
                            refine own_go st23 ?_
                            show OwnFin p e below s _ _ _ (T23.setTop (mkF m 372 #[rv fo, rv aR, iv pj, iv (Int32.ofNat (own_mx (own_r s0 s1 s2 q0 q1 q2) n)), iv (Int32.ofNat y_), l5, l6, l7] [(.ref aB), (.ref aP)]))
                            refine own_go (fun t_ k_ => XS.iload X23.here hx rfl (hb hby d4_372) rfl k_) ?_
                            show OwnFin p e below s _ _ _ (T23.setTop (mkF m 374 #[rv fo, rv aR, iv pj, iv (Int32.ofNat (own_mx (own_r s0 s1 s2 q0 q1 q2) n)), iv (Int32.ofNat y_), l5, l6, l7] [(.int (Int32.ofNat y_)), (.ref aB), (.ref aP)]))
                            have hl24 := own_iaload X23 hx hZ e23 A21 (i := y_) rfl (by omega) (g := (mkF m 374 #[rv fo, rv aR, iv pj, iv (Int32.ofNat (own_mx (own_r s0 s1 s2 q0 q1 q2) n)), iv (Int32.ofNat y_), l5, l6, l7] [(.int (Int32.ofNat y_)), (.ref aB), (.ref aP)])) rfl rfl (hb hby d4_374)
                            simp only [↓reduceIte] at hl24
                            refine own_go hl24 ?_
                            show OwnFin p e below s _ _ _ (T23.setTop (mkF m 375 #[rv fo, rv aR, iv pj, iv (Int32.ofNat (own_mx (own_r s0 s1 s2 q0 q1 q2) n)), iv (Int32.ofNat y_), l5, l6, l7] [(.int ((own_fin n s0 s1 s2 q0 q1 q2 y_).toInt32)), (.ref aP)]))
                            refine own_go (fun t_ k_ => XS.iload X23.here hx rfl (hb hby d4_375) rfl k_) ?_
                            show OwnFin p e below s _ _ _ (T23.setTop (mkF m 377 #[rv fo, rv aR, iv pj, iv (Int32.ofNat (own_mx (own_r s0 s1 s2 q0 q1 q2) n)), iv (Int32.ofNat y_), l5, l6, l7] [(.int (Int32.ofNat y_)), (.int ((own_fin n s0 s1 s2 q0 q1 q2 y_).toInt32)), (.ref aP)]))
                            obtain ⟨T25, h25, X25, e25, W25, A25, st25⟩ := own_iastore X23 hx hZ e23 H15_21 (i := (own_fin n s0 s1 s2 q0 q1 q2 y_).toInt32.toNatClampNeg) (own_low hn hperm hq0 hq1 hq2 (by omega)).1 (own_low hn hperm hq0 hq1 hq2 (by omega)).2 (g := (mkF m 377 #[rv fo, rv aR, iv pj, iv (Int32.ofNat (own_mx (own_r s0 s1 s2 q0 q1 q2) n)), iv (Int32.ofNat y_), l5, l6, l7] [(.int (Int32.ofNat y_)), (.int ((own_fin n s0 s1 s2 q0 q1 q2 y_).toInt32)), (.ref aP)])) rfl rfl (hb hby d4_377)
                            have H0_25 := H0_21.wr W25
                            have H1_25 := H1_21.other W25 (Or.inl ne_fo_aP)
                            have H2_25 := H2_21.other W25 (Or.inl ne_fo_aP)
                            have H3_25 := H3_21.other W25 (Or.inl ne_fo_aP)
                            have H4_25 := H4_21.other W25 (Or.inl ne_fo_aP)
                            have H5_25 := H5_21.other W25 (Or.inl ne_fo_aP)
                            have H6_25 := H6_21.other W25 (Or.inl ne_fo_aP)
                            have H7_25 := H7_21.other W25 (Or.inl ne_fo_aP)
                            have H8_25 := H8_21.other W25 (Or.inl ne_fo_aP)
                            have H9_25 := H9_21.other W25 (Or.inl ne_fo_aP)
                            have H10_25 := H10_21.other W25 (Or.inl ne_fo_aP)
                            have H11_25 := H11_21.other W25 (Or.inl ne_fo_aP)
                            have H12_25 := A21.other W25 ne_aB_aP
                            have H13_25 := H13_21.other W25 ne_aK_aP
                            have H14_25 := H14_21.other W25 ne_aT_aP
                            have H16_25 := H16_21.other W25 (Ne.symm ne_aP_aO)
                            have H17_25 := H17_21.other W25 (Ne.symm ne_aP_aR)
                            have H18_25 := H18_21.other W25 (Ne.symm ne_aP_aW)
                            have Z25 : n0 ≤ h25.size := Nat.le_trans Z21 (Keep.of_wr W25).1
                            have K25 : Keep h0 h25 [fo, aS, aB, aK, aT, aP, aO] := K21.wr W25 (Or.inl (List.mem_of_getElem? (i := 5) rfl))
                            have N25 := Fr.snoc X25 N21 g_aP
                            refine own_go st25 ?_
                            show OwnFin p e below s _ _ _ (T25.setTop (mkF m 378 #[rv fo, rv aR, iv pj, iv (Int32.ofNat (own_mx (own_r s0 s1 s2 q0 q1 q2) n)), iv (Int32.ofNat y_), l5, l6, l7] []))
                            refine own_go (fun t_ k_ => XS.iinc X25.here hx rfl (hb hby d4_378) rfl (l' := #[rv fo, rv aR, iv pj, iv (Int32.ofNat (own_mx (own_r s0 s1 s2 q0 q1 q2) n)), iv ((Int32.ofNat y_) + (1 : Int32)), l5, l6, l7]) rfl k_) ?_
                            show OwnFin p e below s _ _ _ (T25.setTop (mkF m 381 #[rv fo, rv aR, iv pj, iv (Int32.ofNat (own_mx (own_r s0 s1 s2 q0 q1 q2) n)), iv ((Int32.ofNat y_) + (1 : Int32)), l5, l6, l7] []))
                            refine own_go (fun t_ k_ => XS.goto X25.here hx rfl (pc0 := 381) (pc' := 340) rfl (hb hby d4_381) (by decide) (by decide) k_) ?_
                            show OwnFin p e below s _ _ _ (T25.setTop (mkF m 340 #[rv fo, rv aR, iv pj, iv (Int32.ofNat (own_mx (own_r s0 s1 s2 q0 q1 q2) n)), iv ((Int32.ofNat y_) + (1 : Int32)), l5, l6, l7] []))
                            have einc : Int32.ofNat y_ + (1 : Int32) = Int32.ofNat (y_ + 1) := (inc_ofNat y_).symm
                            rw [einc]
                            exact ih (y_ + 1) _ _ T25 _ _ X25 e25 N25 K25 H0_25 H1_25 H2_25 H3_25 H4_25 H5_25 H6_25 H7_25 H8_25 H9_25 H10_25 H11_25 H12_25 H13_25 H14_25 A25 H16_25 H17_25 H18_25 (by omega)
                        exact loop7 n 0 _ _ T11 _ _ X11 e11 N1 K1 H0 H1 H2 H3 H4 H5 H6 H7 H8 H9 H10 H11 H12 Vfin H14 H15 H16 H17 H18 (by omega)
                      | succ d ih =>
                        intro x_ l5 l6 l7 T1 locs1 h1 X1 e1 N1 K1 H0 H1 H2 H3 H4 H5 H6 H7 H8 H9 H10 H11 H12 H13 H14 H15 H16 H17 H18 hxd hl7 hl56
                        have Z1 : n0 ≤ h1.size := Nat.le_trans Z0 K1.1
                        refine own_go (fun t_ k_ => XS.iload X1.here hx rfl (hb hby d4_258) rfl k_) ?_
                        show OwnFin p e below s _ _ _ (T1.setTop (mkF m 260 #[rv fo, rv aR, iv pj, iv (Int32.ofNat (own_mx (own_r s0 s1 s2 q0 q1 q2) n)), iv (Int32.ofNat (x_ + 1)), l5, l6, l7] [(.int (Int32.ofNat (x_ + 1)))]))
                        refine own_go (fun t_ k_ => XS.aloadN X1.here hx rfl (hb hby d4_260) rfl rfl k_) ?_
                        show OwnFin p e below s _ _ _ (T1.setTop (mkF m 261 #[rv fo, rv aR, iv pj, iv (Int32.ofNat (own_mx (own_r s0 s1 s2 q0 q1 q2) n)), iv (Int32.ofNat (x_ + 1)), l5, l6, l7] [(.ref fo), (.int (Int32.ofNat (x_ + 1)))]))
                        obtain ⟨T26, X26, e26, st26⟩ := getF X1 hx hZ hown (host := "") (Or.inl (hw _ (List.mem_of_getElem? (i := 33) rfl))) Via.refl e1 H7 (g := (mkF m 261 #[rv fo, rv aR, iv pj, iv (Int32.ofNat (own_mx (own_r s0 s1 s2 q0 q1 q2) n)), iv (Int32.ofNat (x_ + 1)), l5, l6, l7] [(.ref fo), (.int (Int32.ofNat (x_ + 1)))])) rfl rfl (hb hby d4_261)
                        refine own_go st26 ?_
                        show OwnFin p e below s _ _ _ (T26.setTop (mkF m 264 #[rv fo, rv aR, iv pj, iv (Int32.ofNat (own_mx (own_r s0 s1 s2 q0 q1 q2) n)), iv (Int32.ofNat (x_ + 1)), l5, l6, l7] [(.int (Int32.ofNat n)), (.int (Int32.ofNat (x_ + 1)))]))
                        have hc264 : (Int32.ofNat (x_ + 1)) < (Int32.ofNat n) := by rw [own_ltN (by omega) (by omega)]; omega
                        refine own_go (fun t_ k_ => XS.icmpNo X26.here hx rfl (hb hby d4_264) rfl (tlt hc264).2.1 k_) ?_
                        show OwnFin p e below s _ _ _ (T26.setTop (mkF m 267 #[rv fo, rv aR, iv pj, iv (Int32.ofNat (own_mx (own_r s0 s1 s2 q0 q1 q2) n)), iv (Int32.ofNat (x_ + 1)), l5, l6, l7] []))
                        refine own_go (fun t_ k_ => XS.aloadN X26.here hx rfl (hb hby d4_267) rfl rfl k_) ?_
                        show OwnFin p e below s _ _ _ (T26.setTop (mkF m 268 #[rv fo, rv aR, iv pj, iv (Int32.ofNat (own_mx (own_r s0 s1 s2 q0 q1 q2) n)), iv (Int32.ofNat (x_ + 1)), l5, l6, l7] [(.ref fo)]))
                        obtain ⟨T27, X27, e27, st27⟩ := getF X26 hx hZ hown (host := "") (Or.inl (hw _ (List.mem_of_getElem? (i := 20) rfl))) Via.refl e26 H3 (g := (mkF m 268 #[rv fo, rv aR, iv pj, iv (Int32.ofNat (own_mx (own_r s0 s1 s2 q0 q1 q2) n)), iv (Int32.ofNat (x_ + 1)), l5, l6, l7] [(.ref fo)])) rfl rfl (hb hby d4_268)
                        refine own_go st27 ?_
                        show OwnFin p e below s _ _ _ (T27.setTop (mkF m 271 #[rv fo, rv aR, iv pj, iv (Int32.ofNat (own_mx (own_r s0 s1 s2 q0 q1 q2) n)), iv (Int32.ofNat (x_ + 1)), l5, l6, l7] [(.ref aK)]))
                        refine own_go (fun t_ k_ => XS.iload X27.here hx rfl (hb hby d4_271) rfl k_) ?_
                        show OwnFin p e below s _ _ _ (T27.setTop (mkF m 273 #[rv fo, rv aR, iv pj, iv (Int32.ofNat (own_mx (own_r s0 s1 s2 q0 q1 q2) n)), iv (Int32.ofNat (x_ + 1)), l5, l6, l7] [(.int (Int32.ofNat (x_ + 1))), (.ref aK)]))
                        refine own_go (own_laload X27 hx hZ e27 H13 (i := (x_ + 1)) rfl (by omega) (g := (mkF m 273 #[rv fo, rv aR, iv pj, iv (Int32.ofNat (own_mx (own_r s0 s1 s2 q0 q1 q2) n)), iv (Int32.ofNat (x_ + 1)), l5, l6, l7] [(.int (Int32.ofNat (x_ + 1))), (.ref aK)])) rfl rfl (hb hby d4_273)) ?_
                        show OwnFin p e below s _ _ _ (T27.setTop (mkF m 274 #[rv fo, rv aR, iv pj, iv (Int32.ofNat (own_mx (own_r s0 s1 s2 q0 q1 q2) n)), iv (Int32.ofNat (x_ + 1)), l5, l6, l7] [(.long (own_m6 (own_k5 (own_r s0 s1 s2 q0 q1 q2) n (own_mx (own_r s0 s1 s2 q0 q1 q2) n) (own_Ks s0 s1 s2 q0 q1 q2) n) x_ (x_ + 1)))]))
                        refine own_go (fun t_ k_ => XS.lstore X27.here hx rfl (hb hby d4_274) rfl (l' := #[rv fo, rv aR, iv pj, iv (Int32.ofNat (own_mx (own_r s0 s1 s2 q0 q1 q2) n)), iv (Int32.ofNat (x_ + 1)), .val (.long (own_m6 (own_k5 (own_r s0 s1 s2 q0 q1 q2) n (own_mx (own_r s0 s1 s2 q0 q1 q2) n) (own_Ks s0 s1 s2 q0 q1 q2) n) x_ (x_ + 1))), .second, l7]) (by rcases hl56 with ⟨rfl | ⟨w5, rfl, hw5⟩, rfl | ⟨w6, rfl, hw6⟩⟩ | ⟨w, rfl, rfl⟩ <;> first | rfl | (cases w6 <;> first | rfl | (simp [Value.category] at hw6; done)) | (cases w5 <;> first | rfl | (simp [Value.category] at hw5; done)) | (cases w5 <;> first | (simp [Value.category] at hw5; done) | (cases w6 <;> first | rfl | (simp [Value.category] at hw6; done)))) k_) ?_
                        show OwnFin p e below s _ _ _ (T27.setTop (mkF m 276 #[rv fo, rv aR, iv pj, iv (Int32.ofNat (own_mx (own_r s0 s1 s2 q0 q1 q2) n)), iv (Int32.ofNat (x_ + 1)), .val (.long (own_m6 (own_k5 (own_r s0 s1 s2 q0 q1 q2) n (own_mx (own_r s0 s1 s2 q0 q1 q2) n) (own_Ks s0 s1 s2 q0 q1 q2) n) x_ (x_ + 1))), .second, l7] []))
                        refine own_go (fun t_ k_ => XS.iload X27.here hx rfl (hb hby d4_276) rfl k_) ?_
                        show OwnFin p e below s _ _ _ (T27.setTop (mkF m 278 #[rv fo, rv aR, iv pj, iv (Int32.ofNat (own_mx (own_r s0 s1 s2 q0 q1 q2) n)), iv (Int32.ofNat (x_ + 1)), .val (.long (own_m6 (own_k5 (own_r s0 s1 s2 q0 q1 q2) n (own_mx (own_r s0 s1 s2 q0 q1 q2) n) (own_Ks s0 s1 s2 q0 q1 q2) n) x_ (x_ + 1))), .second, l7] [(.int (Int32.ofNat (x_ + 1)))]))
                        refine own_go (fun t_ k_ => XS.istore X27.here hx rfl (hb hby d4_278) rfl (l' := #[rv fo, rv aR, iv pj, iv (Int32.ofNat (own_mx (own_r s0 s1 s2 q0 q1 q2) n)), iv (Int32.ofNat (x_ + 1)), .val (.long (own_m6 (own_k5 (own_r s0 s1 s2 q0 q1 q2) n (own_mx (own_r s0 s1 s2 q0 q1 q2) n) (own_Ks s0 s1 s2 q0 q1 q2) n) x_ (x_ + 1))), .second, iv (Int32.ofNat (x_ + 1))]) (by rcases hl7 with rfl | ⟨w, rfl, hw9⟩ <;> first | rfl | (cases w <;> first | rfl | (simp [Value.category] at hw9; done))) k_) ?_
                        show OwnFin p e below s _ _ _ (T27.setTop (mkF m 280 #[rv fo, rv aR, iv pj, iv (Int32.ofNat (own_mx (own_r s0 s1 s2 q0 q1 q2) n)), iv (Int32.ofNat (x_ + 1)), .val (.long (own_m6 (own_k5 (own_r s0 s1 s2 q0 q1 q2) n (own_mx (own_r s0 s1 s2 q0 q1 q2) n) (own_Ks s0 s1 s2 q0 q1 q2) n) x_ (x_ + 1))), .second, iv (Int32.ofNat (x_ + 1))] []))
                        have ihx := ih
                        have inner : ∀ (t : Nat) (G : Nat → Int64) (T1 : State) (locs1 : List Loc) (h1 : Heap), Stand p l e ({ frames := 2, cells := 1, slots := 5, locals := 30 } : Room) s m #[(.ref fo), (.ref aR), (.int pj)] below meth c T1 locs1 cc ss → T1.heap = h1 → Fr n0 locs1 → Keep h0 h1 [fo, aS, aB, aK, aT, aP, aO] → Exa Z h1 fo "com/example/nearside/nearside/slotted/delay/FairBack" → Fld Z h1 fo "com/example/nearside/nearside/slotted/delay/FairBack" "starts" "[I" (.ref aW) → Fld Z h1 fo "com/example/nearside/nearside/slotted/delay/FairBack" "back" "[I" (.ref aB) → Fld Z h1 fo "com/example/nearside/nearside/slotted/delay/FairBack" "keys" "[J" (.ref aK) → Fld Z h1 fo "com/example/nearside/nearside/slotted/delay/FairBack" "retaken" "[J" (.ref aT) → Fld Z h1 fo "com/example/nearside/nearside/slotted/delay/FairBack" "positions" "[I" (.ref aP) → Fld Z h1 fo "com/example/nearside/nearside/slotted/delay/FairBack" "offeredFrom" "[I" (.ref aO) → Fld Z h1 fo "com/example/nearside/nearside/slotted/delay/FairBack" "size" "I" (.int (Int32.ofNat n)) → Fld Z h1 fo "com/example/nearside/nearside/slotted/delay/FairBack" "sorted" "I" (.int u0) → Fld Z h1 fo "com/example/nearside/nearside/slotted/delay/FairBack" "nextKey" "I" (.int u1) → Fld Z h1 fo "com/example/nearside/nearside/slotted/delay/FairBack" "retakenAt" "I" (.int u2) → Fld Z h1 fo "com/example/nearside/nearside/slotted/delay/FairBack" "retakenEnd" "I" (.int u3) → OwnArr Z h1 aB .int 3 (fun k => .int (fB k)) → OwnArr Z h1 aK .long 3 (fun j => .long (G j)) → OwnArr Z h1 aT .long 3 fT → OwnArr Z h1 aP .int 3 fP0 → OwnArr Z h1 aO .int 3 fO → OwnArr Z h1 aR .int 3 (fun k => .int (Int32.ofNat (own_tri q0 q1 q2 k))) → OwnArr Z h1 aW .int nS (fun j => .int (own_m5 (own_r s0 s1 s2 q0 q1 q2) n (own_mx (own_r s0 s1 s2 q0 q1 q2) n) n j)) → (t ≤ x_ + 1) → (own_ins (own_m6 (own_k5 (own_r s0 s1 s2 q0 q1 q2) n (own_mx (own_r s0 s1 s2 q0 q1 q2) n) (own_Ks s0 s1 s2 q0 q1 q2) n) x_ (x_ + 1)) t G = own_m6 (own_k5 (own_r s0 s1 s2 q0 q1 q2) n (own_mx (own_r s0 s1 s2 q0 q1 q2) n) (own_Ks s0 s1 s2 q0 q1 q2) n) (x_ + 1)) → OwnFin p e below s (fun v h L => v = none ∧ Fr n0 L ∧ Keep h0 h [fo, aS, aB, aK, aT, aP, aO] ∧ Exa Z h fo "com/example/nearside/nearside/slotted/delay/FairBack" ∧ Fld Z h fo "com/example/nearside/nearside/slotted/delay/FairBack" "keys" "[J" (.ref aK) ∧ Fld Z h fo "com/example/nearside/nearside/slotted/delay/FairBack" "retaken" "[J" (.ref aT) ∧ Fld Z h fo "com/example/nearside/nearside/slotted/delay/FairBack" "offeredFrom" "[I" (.ref aO) ∧ Fld Z h fo "com/example/nearside/nearside/slotted/delay/FairBack" "sorted" "I" (.int (Int32.ofNat n)) ∧ Fld Z h fo "com/example/nearside/nearside/slotted/delay/FairBack" "nextKey" "I" (.int 0) ∧ Fld Z h fo "com/example/nearside/nearside/slotted/delay/FairBack" "retakenAt" "I" (.int 0) ∧ Fld Z h fo "com/example/nearside/nearside/slotted/delay/FairBack" "retakenEnd" "I" (.int 0) ∧ OwnArr Z h aK .long 3 (fun j => .long (own_fin n s0 s1 s2 q0 q1 q2 j)) ∧ ∃ fT fO : Nat → Value, OwnArr Z h aT .long 3 fT ∧ OwnArr Z h aO .int 3 fO) 1 5 (T1.setTop (mkF m 280 #[rv fo, rv aR, iv pj, iv (Int32.ofNat (own_mx (own_r s0 s1 s2 q0 q1 q2) n)), iv (Int32.ofNat (x_ + 1)), .val (.long (own_m6 (own_k5 (own_r s0 s1 s2 q0 q1 q2) n (own_mx (own_r s0 s1 s2 q0 q1 q2) n) (own_Ks s0 s1 s2 q0 q1 q2) n) x_ (x_ + 1))), .second, iv (Int32.ofNat t)] [])) := by
                          intro t
                          induction t with
                          | zero =>
                            intro G T1 locs1 h1 X1 e1 N1 K1 H0 H1 H2 H3 H4 H5 H6 H7 H8 H9 H10 H11 H12 H13 H14 H15 H16 H17 H18 htx hG
                            have Z1 : n0 ≤ h1.size := Nat.le_trans Z0 K1.1
                            have hG' : (fun j => if j = 0 then (own_m6 (own_k5 (own_r s0 s1 s2 q0 q1 q2) n (own_mx (own_r s0 s1 s2 q0 q1 q2) n) (own_Ks s0 s1 s2 q0 q1 q2) n) x_ (x_ + 1)) else G j) = own_m6 (own_k5 (own_r s0 s1 s2 q0 q1 q2) n (own_mx (own_r s0 s1 s2 q0 q1 q2) n) (own_Ks s0 s1 s2 q0 q1 q2) n) (x_ + 1) := hG
                            show OwnFin p e below s _ _ _ (T1.setTop (mkF m 280 #[rv fo, rv aR, iv pj, iv (Int32.ofNat (own_mx (own_r s0 s1 s2 q0 q1 q2) n)), iv (Int32.ofNat (x_ + 1)), .val (.long (own_m6 (own_k5 (own_r s0 s1 s2 q0 q1 q2) n (own_mx (own_r s0 s1 s2 q0 q1 q2) n) (own_Ks s0 s1 s2 q0 q1 q2) n) x_ (x_ + 1))), .second, iv (Int32.ofNat 0)] []))
                            refine own_go (fun t_ k_ => XS.iload X1.here hx rfl (hb hby d4_280) rfl k_) ?_
                            show OwnFin p e below s _ _ _ (T1.setTop (mkF m 282 #[rv fo, rv aR, iv pj, iv (Int32.ofNat (own_mx (own_r s0 s1 s2 q0 q1 q2) n)), iv (Int32.ofNat (x_ + 1)), .val (.long (own_m6 (own_k5 (own_r s0 s1 s2 q0 q1 q2) n (own_mx (own_r s0 s1 s2 q0 q1 q2) n) (own_Ks s0 s1 s2 q0 q1 q2) n) x_ (x_ + 1))), .second, iv (Int32.ofNat 0)] [(.int (Int32.ofNat 0))]))
                            have hc282 : ¬ ((0 : Int32) < (Int32.ofNat 0)) := by rw [Int32.lt_iff_toInt_lt]; decide
                            refine own_go (fun t_ k_ => XS.ifYes X1.here hx rfl (pc0 := 282) (pc' := 322) rfl (hb hby d4_282) rfl ((if0 _ _).trans (flt hc282).2.2.2) (by decide) (by decide) k_) ?_
                            show OwnFin p e below s _ _ _ (T1.setTop (mkF m 322 #[rv fo, rv aR, iv pj, iv (Int32.ofNat (own_mx (own_r s0 s1 s2 q0 q1 q2) n)), iv (Int32.ofNat (x_ + 1)), .val (.long (own_m6 (own_k5 (own_r s0 s1 s2 q0 q1 q2) n (own_mx (own_r s0 s1 s2 q0 q1 q2) n) (own_Ks s0 s1 s2 q0 q1 q2) n) x_ (x_ + 1))), .second, iv (Int32.ofNat 0)] []))
                            refine own_go (fun t_ k_ => XS.aloadN X1.here hx rfl (hb hby d4_322) rfl rfl k_) ?_
                            show OwnFin p e below s _ _ _ (T1.setTop (mkF m 323 #[rv fo, rv aR, iv pj, iv (Int32.ofNat (own_mx (own_r s0 s1 s2 q0 q1 q2) n)), iv (Int32.ofNat (x_ + 1)), .val (.long (own_m6 (own_k5 (own_r s0 s1 s2 q0 q1 q2) n (own_mx (own_r s0 s1 s2 q0 q1 q2) n) (own_Ks s0 s1 s2 q0 q1 q2) n) x_ (x_ + 1))), .second, iv (Int32.ofNat 0)] [(.ref fo)]))
                            obtain ⟨T28, X28, e28, st28⟩ := getF X1 hx hZ hown (host := "") (Or.inl (hw _ (List.mem_of_getElem? (i := 20) rfl))) Via.refl e1 H3 (g := (mkF m 323 #[rv fo, rv aR, iv pj, iv (Int32.ofNat (own_mx (own_r s0 s1 s2 q0 q1 q2) n)), iv (Int32.ofNat (x_ + 1)), .val (.long (own_m6 (own_k5 (own_r s0 s1 s2 q0 q1 q2) n (own_mx (own_r s0 s1 s2 q0 q1 q2) n) (own_Ks s0 s1 s2 q0 q1 q2) n) x_ (x_ + 1))), .second, iv (Int32.ofNat 0)] [(.ref fo)])) rfl rfl (hb hby d4_323)
                            refine own_go st28 ?_
                            show OwnFin p e below s _ _ _ (T28.setTop (mkF m 326 #[rv fo, rv aR, iv pj, iv (Int32.ofNat (own_mx (own_r s0 s1 s2 q0 q1 q2) n)), iv (Int32.ofNat (x_ + 1)), .val (.long (own_m6 (own_k5 (own_r s0 s1 s2 q0 q1 q2) n (own_mx (own_r s0 s1 s2 q0 q1 q2) n) (own_Ks s0 s1 s2 q0 q1 q2) n) x_ (x_ + 1))), .second, iv (Int32.ofNat 0)] [(.ref aK)]))
                            refine own_go (fun t_ k_ => XS.iload X28.here hx rfl (hb hby d4_326) rfl k_) ?_
                            show OwnFin p e below s _ _ _ (T28.setTop (mkF m 328 #[rv fo, rv aR, iv pj, iv (Int32.ofNat (own_mx (own_r s0 s1 s2 q0 q1 q2) n)), iv (Int32.ofNat (x_ + 1)), .val (.long (own_m6 (own_k5 (own_r s0 s1 s2 q0 q1 q2) n (own_mx (own_r s0 s1 s2 q0 q1 q2) n) (own_Ks s0 s1 s2 q0 q1 q2) n) x_ (x_ + 1))), .second, iv (Int32.ofNat 0)] [(.int (Int32.ofNat 0)), (.ref aK)]))
                            refine own_go (fun t_ k_ => XS.lload X28.here hx rfl (hb hby d4_328) rfl k_) ?_
                            show OwnFin p e below s _ _ _ (T28.setTop (mkF m 330 #[rv fo, rv aR, iv pj, iv (Int32.ofNat (own_mx (own_r s0 s1 s2 q0 q1 q2) n)), iv (Int32.ofNat (x_ + 1)), .val (.long (own_m6 (own_k5 (own_r s0 s1 s2 q0 q1 q2) n (own_mx (own_r s0 s1 s2 q0 q1 q2) n) (own_Ks s0 s1 s2 q0 q1 q2) n) x_ (x_ + 1))), .second, iv (Int32.ofNat 0)] [(.long (own_m6 (own_k5 (own_r s0 s1 s2 q0 q1 q2) n (own_mx (own_r s0 s1 s2 q0 q1 q2) n) (own_Ks s0 s1 s2 q0 q1 q2) n) x_ (x_ + 1))), (.int (Int32.ofNat 0)), (.ref aK)]))
                            obtain ⟨T29, h29, X29, e29, W29, A29, st29⟩ := own_lastore X28 hx hZ e28 H13 (i := 0) rfl (by decide) (g := (mkF m 330 #[rv fo, rv aR, iv pj, iv (Int32.ofNat (own_mx (own_r s0 s1 s2 q0 q1 q2) n)), iv (Int32.ofNat (x_ + 1)), .val (.long (own_m6 (own_k5 (own_r s0 s1 s2 q0 q1 q2) n (own_mx (own_r s0 s1 s2 q0 q1 q2) n) (own_Ks s0 s1 s2 q0 q1 q2) n) x_ (x_ + 1))), .second, iv (Int32.ofNat 0)] [(.long (own_m6 (own_k5 (own_r s0 s1 s2 q0 q1 q2) n (own_mx (own_r s0 s1 s2 q0 q1 q2) n) (own_Ks s0 s1 s2 q0 q1 q2) n) x_ (x_ + 1))), (.int (Int32.ofNat 0)), (.ref aK)])) rfl rfl (hb hby d4_330)
                            have H0_29 := H0.wr W29
                            have H1_29 := H1.other W29 (Or.inl ne_fo_aK)
                            have H2_29 := H2.other W29 (Or.inl ne_fo_aK)
                            have H3_29 := H3.other W29 (Or.inl ne_fo_aK)
                            have H4_29 := H4.other W29 (Or.inl ne_fo_aK)
                            have H5_29 := H5.other W29 (Or.inl ne_fo_aK)
                            have H6_29 := H6.other W29 (Or.inl ne_fo_aK)
                            have H7_29 := H7.other W29 (Or.inl ne_fo_aK)
                            have H8_29 := H8.other W29 (Or.inl ne_fo_aK)
                            have H9_29 := H9.other W29 (Or.inl ne_fo_aK)
                            have H10_29 := H10.other W29 (Or.inl ne_fo_aK)
                            have H11_29 := H11.other W29 (Or.inl ne_fo_aK)
                            have H12_29 := H12.other W29 ne_aB_aK
                            have H14_29 := H14.other W29 (Ne.symm ne_aK_aT)
                            have H15_29 := H15.other W29 (Ne.symm ne_aK_aP)
                            have H16_29 := H16.other W29 (Ne.symm ne_aK_aO)
                            have H17_29 := H17.other W29 (Ne.symm ne_aK_aR)
                            have H18_29 := H18.other W29 (Ne.symm ne_aK_aW)
                            have Z29 : n0 ≤ h29.size := Nat.le_trans Z1 (Keep.of_wr W29).1
                            have K29 : Keep h0 h29 [fo, aS, aB, aK, aT, aP, aO] := K1.wr W29 (Or.inl (List.mem_of_getElem? (i := 3) rfl))
                            have N29 := Fr.snoc X29 N1 g_aK
                            refine own_go st29 ?_
                            show OwnFin p e below s _ _ _ (T29.setTop (mkF m 331 #[rv fo, rv aR, iv pj, iv (Int32.ofNat (own_mx (own_r s0 s1 s2 q0 q1 q2) n)), iv (Int32.ofNat (x_ + 1)), .val (.long (own_m6 (own_k5 (own_r s0 s1 s2 q0 q1 q2) n (own_mx (own_r s0 s1 s2 q0 q1 q2) n) (own_Ks s0 s1 s2 q0 q1 q2) n) x_ (x_ + 1))), .second, iv (Int32.ofNat 0)] []))
                            refine own_go (fun t_ k_ => XS.iinc X29.here hx rfl (hb hby d4_331) rfl (l' := #[rv fo, rv aR, iv pj, iv (Int32.ofNat (own_mx (own_r s0 s1 s2 q0 q1 q2) n)), iv ((Int32.ofNat (x_ + 1)) + (1 : Int32)), .val (.long (own_m6 (own_k5 (own_r s0 s1 s2 q0 q1 q2) n (own_mx (own_r s0 s1 s2 q0 q1 q2) n) (own_Ks s0 s1 s2 q0 q1 q2) n) x_ (x_ + 1))), .second, iv (Int32.ofNat 0)]) rfl k_) ?_
                            show OwnFin p e below s _ _ _ (T29.setTop (mkF m 334 #[rv fo, rv aR, iv pj, iv (Int32.ofNat (own_mx (own_r s0 s1 s2 q0 q1 q2) n)), iv ((Int32.ofNat (x_ + 1)) + (1 : Int32)), .val (.long (own_m6 (own_k5 (own_r s0 s1 s2 q0 q1 q2) n (own_mx (own_r s0 s1 s2 q0 q1 q2) n) (own_Ks s0 s1 s2 q0 q1 q2) n) x_ (x_ + 1))), .second, iv (Int32.ofNat 0)] []))
                            refine own_go (fun t_ k_ => XS.goto X29.here hx rfl (pc0 := 334) (pc' := 258) rfl (hb hby d4_334) (by decide) (by decide) k_) ?_
                            show OwnFin p e below s _ _ _ (T29.setTop (mkF m 258 #[rv fo, rv aR, iv pj, iv (Int32.ofNat (own_mx (own_r s0 s1 s2 q0 q1 q2) n)), iv ((Int32.ofNat (x_ + 1)) + (1 : Int32)), .val (.long (own_m6 (own_k5 (own_r s0 s1 s2 q0 q1 q2) n (own_mx (own_r s0 s1 s2 q0 q1 q2) n) (own_Ks s0 s1 s2 q0 q1 q2) n) x_ (x_ + 1))), .second, iv (Int32.ofNat 0)] []))
                            have Rf : OwnArr Z h29 aK .long 3 (fun j => .long (own_m6 (own_k5 (own_r s0 s1 s2 q0 q1 q2) n (own_mx (own_r s0 s1 s2 q0 q1 q2) n) (own_Ks s0 s1 s2 q0 q1 q2) n) (x_ + 1) j)) := A29.congr (fun z hz => by rw [← hG']; show _ = Value.long (if z = _ then _ else _); split <;> rfl)
                            have einc : Int32.ofNat (x_ + 1) + (1 : Int32) = Int32.ofNat (x_ + 1 + 1) := (inc_ofNat (x_ + 1)).symm
                            rw [einc]
                            exact ihx (x_ + 1) _ _ _ T29 _ _ X29 e29 N29 K29 H0_29 H1_29 H2_29 H3_29 H4_29 H5_29 H6_29 H7_29 H8_29 H9_29 H10_29 H11_29 H12_29 Rf H14_29 H15_29 H16_29 H17_29 H18_29 (by omega) (One.val rfl) (Or.inr ⟨_, rfl, rfl⟩)
                          | succ t ih =>
                            intro G T1 locs1 h1 X1 e1 N1 K1 H0 H1 H2 H3 H4 H5 H6 H7 H8 H9 H10 H11 H12 H13 H14 H15 H16 H17 H18 htx hG
                            have Z1 : n0 ≤ h1.size := Nat.le_trans Z0 K1.1
                            show OwnFin p e below s _ _ _ (T1.setTop (mkF m 280 #[rv fo, rv aR, iv pj, iv (Int32.ofNat (own_mx (own_r s0 s1 s2 q0 q1 q2) n)), iv (Int32.ofNat (x_ + 1)), .val (.long (own_m6 (own_k5 (own_r s0 s1 s2 q0 q1 q2) n (own_mx (own_r s0 s1 s2 q0 q1 q2) n) (own_Ks s0 s1 s2 q0 q1 q2) n) x_ (x_ + 1))), .second, iv (Int32.ofNat (t + 1))] []))
                            refine own_go (fun t_ k_ => XS.iload X1.here hx rfl (hb hby d4_280) rfl k_) ?_
                            show OwnFin p e below s _ _ _ (T1.setTop (mkF m 282 #[rv fo, rv aR, iv pj, iv (Int32.ofNat (own_mx (own_r s0 s1 s2 q0 q1 q2) n)), iv (Int32.ofNat (x_ + 1)), .val (.long (own_m6 (own_k5 (own_r s0 s1 s2 q0 q1 q2) n (own_mx (own_r s0 s1 s2 q0 q1 q2) n) (own_Ks s0 s1 s2 q0 q1 q2) n) x_ (x_ + 1))), .second, iv (Int32.ofNat (t + 1))] [(.int (Int32.ofNat (t + 1)))]))
                            have hc282 : (0 : Int32) < (Int32.ofNat (t + 1)) := by rw [show (0 : Int32) = Int32.ofNat 0 from rfl, own_ltN (by decide) (by omega)]; omega
                            refine own_go (fun t_ k_ => XS.ifNo X1.here hx rfl (hb hby d4_282) rfl ((if0 _ _).trans (tlt hc282).2.2.2) k_) ?_
                            show OwnFin p e below s _ _ _ (T1.setTop (mkF m 285 #[rv fo, rv aR, iv pj, iv (Int32.ofNat (own_mx (own_r s0 s1 s2 q0 q1 q2) n)), iv (Int32.ofNat (x_ + 1)), .val (.long (own_m6 (own_k5 (own_r s0 s1 s2 q0 q1 q2) n (own_mx (own_r s0 s1 s2 q0 q1 q2) n) (own_Ks s0 s1 s2 q0 q1 q2) n) x_ (x_ + 1))), .second, iv (Int32.ofNat (t + 1))] []))
                            refine own_go (fun t_ k_ => XS.aloadN X1.here hx rfl (hb hby d4_285) rfl rfl k_) ?_
                            show OwnFin p e below s _ _ _ (T1.setTop (mkF m 286 #[rv fo, rv aR, iv pj, iv (Int32.ofNat (own_mx (own_r s0 s1 s2 q0 q1 q2) n)), iv (Int32.ofNat (x_ + 1)), .val (.long (own_m6 (own_k5 (own_r s0 s1 s2 q0 q1 q2) n (own_mx (own_r s0 s1 s2 q0 q1 q2) n) (own_Ks s0 s1 s2 q0 q1 q2) n) x_ (x_ + 1))), .second, iv (Int32.ofNat (t + 1))] [(.ref fo)]))
                            obtain ⟨T30, X30, e30, st30⟩ := getF X1 hx hZ hown (host := "") (Or.inl (hw _ (List.mem_of_getElem? (i := 20) rfl))) Via.refl e1 H3 (g := (mkF m 286 #[rv fo, rv aR, iv pj, iv (Int32.ofNat (own_mx (own_r s0 s1 s2 q0 q1 q2) n)), iv (Int32.ofNat (x_ + 1)), .val (.long (own_m6 (own_k5 (own_r s0 s1 s2 q0 q1 q2) n (own_mx (own_r s0 s1 s2 q0 q1 q2) n) (own_Ks s0 s1 s2 q0 q1 q2) n) x_ (x_ + 1))), .second, iv (Int32.ofNat (t + 1))] [(.ref fo)])) rfl rfl (hb hby d4_286)
                            refine own_go st30 ?_
                            show OwnFin p e below s _ _ _ (T30.setTop (mkF m 289 #[rv fo, rv aR, iv pj, iv (Int32.ofNat (own_mx (own_r s0 s1 s2 q0 q1 q2) n)), iv (Int32.ofNat (x_ + 1)), .val (.long (own_m6 (own_k5 (own_r s0 s1 s2 q0 q1 q2) n (own_mx (own_r s0 s1 s2 q0 q1 q2) n) (own_Ks s0 s1 s2 q0 q1 q2) n) x_ (x_ + 1))), .second, iv (Int32.ofNat (t + 1))] [(.ref aK)]))
                            refine own_go (fun t_ k_ => XS.iload X30.here hx rfl (hb hby d4_289) rfl k_) ?_
                            show OwnFin p e below s _ _ _ (T30.setTop (mkF m 291 #[rv fo, rv aR, iv pj, iv (Int32.ofNat (own_mx (own_r s0 s1 s2 q0 q1 q2) n)), iv (Int32.ofNat (x_ + 1)), .val (.long (own_m6 (own_k5 (own_r s0 s1 s2 q0 q1 q2) n (own_mx (own_r s0 s1 s2 q0 q1 q2) n) (own_Ks s0 s1 s2 q0 q1 q2) n) x_ (x_ + 1))), .second, iv (Int32.ofNat (t + 1))] [(.int (Int32.ofNat (t + 1))), (.ref aK)]))
                            refine own_go (fun t_ k_ => XS.iconst X30.here hx rfl (hb hby d4_291) k_) ?_
                            show OwnFin p e below s _ _ _ (T30.setTop (mkF m 292 #[rv fo, rv aR, iv pj, iv (Int32.ofNat (own_mx (own_r s0 s1 s2 q0 q1 q2) n)), iv (Int32.ofNat (x_ + 1)), .val (.long (own_m6 (own_k5 (own_r s0 s1 s2 q0 q1 q2) n (own_mx (own_r s0 s1 s2 q0 q1 q2) n) (own_Ks s0 s1 s2 q0 q1 q2) n) x_ (x_ + 1))), .second, iv (Int32.ofNat (t + 1))] [(.int (1 : Int32)), (.int (Int32.ofNat (t + 1))), (.ref aK)]))
                            refine own_go (fun t_ k_ => XS.isub X30.here hx rfl (hb hby d4_292) rfl k_) ?_
                            show OwnFin p e below s _ _ _ (T30.setTop (mkF m 293 #[rv fo, rv aR, iv pj, iv (Int32.ofNat (own_mx (own_r s0 s1 s2 q0 q1 q2) n)), iv (Int32.ofNat (x_ + 1)), .val (.long (own_m6 (own_k5 (own_r s0 s1 s2 q0 q1 q2) n (own_mx (own_r s0 s1 s2 q0 q1 q2) n) (own_Ks s0 s1 s2 q0 q1 q2) n) x_ (x_ + 1))), .second, iv (Int32.ofNat (t + 1))] [(.int ((Int32.ofNat (t + 1)) - (1 : Int32))), (.ref aK)]))
                            refine own_go (own_laload X30 hx hZ e30 H13 (i := t) (dec_ofNat t) (by omega) (g := (mkF m 293 #[rv fo, rv aR, iv pj, iv (Int32.ofNat (own_mx (own_r s0 s1 s2 q0 q1 q2) n)), iv (Int32.ofNat (x_ + 1)), .val (.long (own_m6 (own_k5 (own_r s0 s1 s2 q0 q1 q2) n (own_mx (own_r s0 s1 s2 q0 q1 q2) n) (own_Ks s0 s1 s2 q0 q1 q2) n) x_ (x_ + 1))), .second, iv (Int32.ofNat (t + 1))] [(.int ((Int32.ofNat (t + 1)) - (1 : Int32))), (.ref aK)])) rfl rfl (hb hby d4_293)) ?_
                            show OwnFin p e below s _ _ _ (T30.setTop (mkF m 294 #[rv fo, rv aR, iv pj, iv (Int32.ofNat (own_mx (own_r s0 s1 s2 q0 q1 q2) n)), iv (Int32.ofNat (x_ + 1)), .val (.long (own_m6 (own_k5 (own_r s0 s1 s2 q0 q1 q2) n (own_mx (own_r s0 s1 s2 q0 q1 q2) n) (own_Ks s0 s1 s2 q0 q1 q2) n) x_ (x_ + 1))), .second, iv (Int32.ofNat (t + 1))] [(.long (G t))]))
                            refine own_go (fun t_ k_ => XS.lload X30.here hx rfl (hb hby d4_294) rfl k_) ?_
                            show OwnFin p e below s _ _ _ (T30.setTop (mkF m 296 #[rv fo, rv aR, iv pj, iv (Int32.ofNat (own_mx (own_r s0 s1 s2 q0 q1 q2) n)), iv (Int32.ofNat (x_ + 1)), .val (.long (own_m6 (own_k5 (own_r s0 s1 s2 q0 q1 q2) n (own_mx (own_r s0 s1 s2 q0 q1 q2) n) (own_Ks s0 s1 s2 q0 q1 q2) n) x_ (x_ + 1))), .second, iv (Int32.ofNat (t + 1))] [(.long (own_m6 (own_k5 (own_r s0 s1 s2 q0 q1 q2) n (own_mx (own_r s0 s1 s2 q0 q1 q2) n) (own_Ks s0 s1 s2 q0 q1 q2) n) x_ (x_ + 1))), (.long (G t))]))
                            refine own_go (fun t_ k_ => XS.lcmp X30.here hx rfl (hb hby d4_296) rfl k_) ?_
                            show OwnFin p e below s _ _ _ (T30.setTop (mkF m 297 #[rv fo, rv aR, iv pj, iv (Int32.ofNat (own_mx (own_r s0 s1 s2 q0 q1 q2) n)), iv (Int32.ofNat (x_ + 1)), .val (.long (own_m6 (own_k5 (own_r s0 s1 s2 q0 q1 q2) n (own_mx (own_r s0 s1 s2 q0 q1 q2) n) (own_Ks s0 s1 s2 q0 q1 q2) n) x_ (x_ + 1))), .second, iv (Int32.ofNat (t + 1))] [(.int (lcmpW (G t) (own_m6 (own_k5 (own_r s0 s1 s2 q0 q1 q2) n (own_mx (own_r s0 s1 s2 q0 q1 q2) n) (own_Ks s0 s1 s2 q0 q1 q2) n) x_ (x_ + 1))))]))
                            by_cases hc297 : (own_m6 (own_k5 (own_r s0 s1 s2 q0 q1 q2) n (own_mx (own_r s0 s1 s2 q0 q1 q2) n) (own_Ks s0 s1 s2 q0 q1 q2) n) x_ (x_ + 1)) < (G t)
                            · refine own_go (fun t_ k_ => XS.ifNo X30.here hx rfl (hb hby d4_297) rfl ((if0 _ _).trans (tlt ((lw_gt (G t) (own_m6 (own_k5 (own_r s0 s1 s2 q0 q1 q2) n (own_mx (own_r s0 s1 s2 q0 q1 q2) n) (own_Ks s0 s1 s2 q0 q1 q2) n) x_ (x_ + 1))).mpr hc297)).2.2.2) k_) ?_
                              show OwnFin p e below s _ _ _ (T30.setTop (mkF m 300 #[rv fo, rv aR, iv pj, iv (Int32.ofNat (own_mx (own_r s0 s1 s2 q0 q1 q2) n)), iv (Int32.ofNat (x_ + 1)), .val (.long (own_m6 (own_k5 (own_r s0 s1 s2 q0 q1 q2) n (own_mx (own_r s0 s1 s2 q0 q1 q2) n) (own_Ks s0 s1 s2 q0 q1 q2) n) x_ (x_ + 1))), .second, iv (Int32.ofNat (t + 1))] []))
                              refine own_go (fun t_ k_ => XS.aloadN X30.here hx rfl (hb hby d4_300) rfl rfl k_) ?_
                              show OwnFin p e below s _ _ _ (T30.setTop (mkF m 301 #[rv fo, rv aR, iv pj, iv (Int32.ofNat (own_mx (own_r s0 s1 s2 q0 q1 q2) n)), iv (Int32.ofNat (x_ + 1)), .val (.long (own_m6 (own_k5 (own_r s0 s1 s2 q0 q1 q2) n (own_mx (own_r s0 s1 s2 q0 q1 q2) n) (own_Ks s0 s1 s2 q0 q1 q2) n) x_ (x_ + 1))), .second, iv (Int32.ofNat (t + 1))] [(.ref fo)]))
                              obtain ⟨T31, X31, e31, st31⟩ := getF X30 hx hZ hown (host := "") (Or.inl (hw _ (List.mem_of_getElem? (i := 20) rfl))) Via.refl e30 H3 (g := (mkF m 301 #[rv fo, rv aR, iv pj, iv (Int32.ofNat (own_mx (own_r s0 s1 s2 q0 q1 q2) n)), iv (Int32.ofNat (x_ + 1)), .val (.long (own_m6 (own_k5 (own_r s0 s1 s2 q0 q1 q2) n (own_mx (own_r s0 s1 s2 q0 q1 q2) n) (own_Ks s0 s1 s2 q0 q1 q2) n) x_ (x_ + 1))), .second, iv (Int32.ofNat (t + 1))] [(.ref fo)])) rfl rfl (hb hby d4_301)
                              refine own_go st31 ?_
                              show OwnFin p e below s _ _ _ (T31.setTop (mkF m 304 #[rv fo, rv aR, iv pj, iv (Int32.ofNat (own_mx (own_r s0 s1 s2 q0 q1 q2) n)), iv (Int32.ofNat (x_ + 1)), .val (.long (own_m6 (own_k5 (own_r s0 s1 s2 q0 q1 q2) n (own_mx (own_r s0 s1 s2 q0 q1 q2) n) (own_Ks s0 s1 s2 q0 q1 q2) n) x_ (x_ + 1))), .second, iv (Int32.ofNat (t + 1))] [(.ref aK)]))
                              refine own_go (fun t_ k_ => XS.iload X31.here hx rfl (hb hby d4_304) rfl k_) ?_
                              show OwnFin p e below s _ _ _ (T31.setTop (mkF m 306 #[rv fo, rv aR, iv pj, iv (Int32.ofNat (own_mx (own_r s0 s1 s2 q0 q1 q2) n)), iv (Int32.ofNat (x_ + 1)), .val (.long (own_m6 (own_k5 (own_r s0 s1 s2 q0 q1 q2) n (own_mx (own_r s0 s1 s2 q0 q1 q2) n) (own_Ks s0 s1 s2 q0 q1 q2) n) x_ (x_ + 1))), .second, iv (Int32.ofNat (t + 1))] [(.int (Int32.ofNat (t + 1))), (.ref aK)]))
                              refine own_go (fun t_ k_ => XS.aloadN X31.here hx rfl (hb hby d4_306) rfl rfl k_) ?_
                              show OwnFin p e below s _ _ _ (T31.setTop (mkF m 307 #[rv fo, rv aR, iv pj, iv (Int32.ofNat (own_mx (own_r s0 s1 s2 q0 q1 q2) n)), iv (Int32.ofNat (x_ + 1)), .val (.long (own_m6 (own_k5 (own_r s0 s1 s2 q0 q1 q2) n (own_mx (own_r s0 s1 s2 q0 q1 q2) n) (own_Ks s0 s1 s2 q0 q1 q2) n) x_ (x_ + 1))), .second, iv (Int32.ofNat (t + 1))] [(.ref fo), (.int (Int32.ofNat (t + 1))), (.ref aK)]))
                              obtain ⟨T32, X32, e32, st32⟩ := getF X31 hx hZ hown (host := "") (Or.inl (hw _ (List.mem_of_getElem? (i := 20) rfl))) Via.refl e31 H3 (g := (mkF m 307 #[rv fo, rv aR, iv pj, iv (Int32.ofNat (own_mx (own_r s0 s1 s2 q0 q1 q2) n)), iv (Int32.ofNat (x_ + 1)), .val (.long (own_m6 (own_k5 (own_r s0 s1 s2 q0 q1 q2) n (own_mx (own_r s0 s1 s2 q0 q1 q2) n) (own_Ks s0 s1 s2 q0 q1 q2) n) x_ (x_ + 1))), .second, iv (Int32.ofNat (t + 1))] [(.ref fo), (.int (Int32.ofNat (t + 1))), (.ref aK)])) rfl rfl (hb hby d4_307)
                              refine own_go st32 ?_
                              show OwnFin p e below s _ _ _ (T32.setTop (mkF m 310 #[rv fo, rv aR, iv pj, iv (Int32.ofNat (own_mx (own_r s0 s1 s2 q0 q1 q2) n)), iv (Int32.ofNat (x_ + 1)), .val (.long (own_m6 (own_k5 (own_r s0 s1 s2 q0 q1 q2) n (own_mx (own_r s0 s1 s2 q0 q1 q2) n) (own_Ks s0 s1 s2 q0 q1 q2) n) x_ (x_ + 1))), .second, iv (Int32.ofNat (t + 1))] [(.ref aK), (.int (Int32.ofNat (t + 1))), (.ref aK)]))
                              refine own_go (fun t_ k_ => XS.iload X32.here hx rfl (hb hby d4_310) rfl k_) ?_
                              show OwnFin p e below s _ _ _ (T32.setTop (mkF m 312 #[rv fo, rv aR, iv pj, iv (Int32.ofNat (own_mx (own_r s0 s1 s2 q0 q1 q2) n)), iv (Int32.ofNat (x_ + 1)), .val (.long (own_m6 (own_k5 (own_r s0 s1 s2 q0 q1 q2) n (own_mx (own_r s0 s1 s2 q0 q1 q2) n) (own_Ks s0 s1 s2 q0 q1 q2) n) x_ (x_ + 1))), .second, iv (Int32.ofNat (t + 1))] [(.int (Int32.ofNat (t + 1))), (.ref aK), (.int (Int32.ofNat (t + 1))), (.ref aK)]))
                              refine own_go (fun t_ k_ => XS.iconst X32.here hx rfl (hb hby d4_312) k_) ?_
                              show OwnFin p e below s _ _ _ (T32.setTop (mkF m 313 #[rv fo, rv aR, iv pj, iv (Int32.ofNat (own_mx (own_r s0 s1 s2 q0 q1 q2) n)), iv (Int32.ofNat (x_ + 1)), .val (.long (own_m6 (own_k5 (own_r s0 s1 s2 q0 q1 q2) n (own_mx (own_r s0 s1 s2 q0 q1 q2) n) (own_Ks s0 s1 s2 q0 q1 q2) n) x_ (x_ + 1))), .second, iv (Int32.ofNat (t + 1))] [(.int (1 : Int32)), (.int (Int32.ofNat (t + 1))), (.ref aK), (.int (Int32.ofNat (t + 1))), (.ref aK)]))
                              refine own_go (fun t_ k_ => XS.isub X32.here hx rfl (hb hby d4_313) rfl k_) ?_
                              show OwnFin p e below s _ _ _ (T32.setTop (mkF m 314 #[rv fo, rv aR, iv pj, iv (Int32.ofNat (own_mx (own_r s0 s1 s2 q0 q1 q2) n)), iv (Int32.ofNat (x_ + 1)), .val (.long (own_m6 (own_k5 (own_r s0 s1 s2 q0 q1 q2) n (own_mx (own_r s0 s1 s2 q0 q1 q2) n) (own_Ks s0 s1 s2 q0 q1 q2) n) x_ (x_ + 1))), .second, iv (Int32.ofNat (t + 1))] [(.int ((Int32.ofNat (t + 1)) - (1 : Int32))), (.ref aK), (.int (Int32.ofNat (t + 1))), (.ref aK)]))
                              refine own_go (own_laload X32 hx hZ e32 H13 (i := t) (dec_ofNat t) (by omega) (g := (mkF m 314 #[rv fo, rv aR, iv pj, iv (Int32.ofNat (own_mx (own_r s0 s1 s2 q0 q1 q2) n)), iv (Int32.ofNat (x_ + 1)), .val (.long (own_m6 (own_k5 (own_r s0 s1 s2 q0 q1 q2) n (own_mx (own_r s0 s1 s2 q0 q1 q2) n) (own_Ks s0 s1 s2 q0 q1 q2) n) x_ (x_ + 1))), .second, iv (Int32.ofNat (t + 1))] [(.int ((Int32.ofNat (t + 1)) - (1 : Int32))), (.ref aK), (.int (Int32.ofNat (t + 1))), (.ref aK)])) rfl rfl (hb hby d4_314)) ?_
                              show OwnFin p e below s _ _ _ (T32.setTop (mkF m 315 #[rv fo, rv aR, iv pj, iv (Int32.ofNat (own_mx (own_r s0 s1 s2 q0 q1 q2) n)), iv (Int32.ofNat (x_ + 1)), .val (.long (own_m6 (own_k5 (own_r s0 s1 s2 q0 q1 q2) n (own_mx (own_r s0 s1 s2 q0 q1 q2) n) (own_Ks s0 s1 s2 q0 q1 q2) n) x_ (x_ + 1))), .second, iv (Int32.ofNat (t + 1))] [(.long (G t)), (.int (Int32.ofNat (t + 1))), (.ref aK)]))
                              obtain ⟨T33, h33, X33, e33, W33, A33, st33⟩ := own_lastore X32 hx hZ e32 H13 (i := (t + 1)) rfl (by omega) (g := (mkF m 315 #[rv fo, rv aR, iv pj, iv (Int32.ofNat (own_mx (own_r s0 s1 s2 q0 q1 q2) n)), iv (Int32.ofNat (x_ + 1)), .val (.long (own_m6 (own_k5 (own_r s0 s1 s2 q0 q1 q2) n (own_mx (own_r s0 s1 s2 q0 q1 q2) n) (own_Ks s0 s1 s2 q0 q1 q2) n) x_ (x_ + 1))), .second, iv (Int32.ofNat (t + 1))] [(.long (G t)), (.int (Int32.ofNat (t + 1))), (.ref aK)])) rfl rfl (hb hby d4_315)
                              have H0_33 := H0.wr W33
                              have H1_33 := H1.other W33 (Or.inl ne_fo_aK)
                              have H2_33 := H2.other W33 (Or.inl ne_fo_aK)
                              have H3_33 := H3.other W33 (Or.inl ne_fo_aK)
                              have H4_33 := H4.other W33 (Or.inl ne_fo_aK)
                              have H5_33 := H5.other W33 (Or.inl ne_fo_aK)
                              have H6_33 := H6.other W33 (Or.inl ne_fo_aK)
                              have H7_33 := H7.other W33 (Or.inl ne_fo_aK)
                              have H8_33 := H8.other W33 (Or.inl ne_fo_aK)
                              have H9_33 := H9.other W33 (Or.inl ne_fo_aK)
                              have H10_33 := H10.other W33 (Or.inl ne_fo_aK)
                              have H11_33 := H11.other W33 (Or.inl ne_fo_aK)
                              have H12_33 := H12.other W33 ne_aB_aK
                              have H14_33 := H14.other W33 (Ne.symm ne_aK_aT)
                              have H15_33 := H15.other W33 (Ne.symm ne_aK_aP)
                              have H16_33 := H16.other W33 (Ne.symm ne_aK_aO)
                              have H17_33 := H17.other W33 (Ne.symm ne_aK_aR)
                              have H18_33 := H18.other W33 (Ne.symm ne_aK_aW)
                              have Z33 : n0 ≤ h33.size := Nat.le_trans Z1 (Keep.of_wr W33).1
                              have K33 : Keep h0 h33 [fo, aS, aB, aK, aT, aP, aO] := K1.wr W33 (Or.inl (List.mem_of_getElem? (i := 3) rfl))
                              have N33 := Fr.snoc X33 N1 g_aK
                              refine own_go st33 ?_
                              show OwnFin p e below s _ _ _ (T33.setTop (mkF m 316 #[rv fo, rv aR, iv pj, iv (Int32.ofNat (own_mx (own_r s0 s1 s2 q0 q1 q2) n)), iv (Int32.ofNat (x_ + 1)), .val (.long (own_m6 (own_k5 (own_r s0 s1 s2 q0 q1 q2) n (own_mx (own_r s0 s1 s2 q0 q1 q2) n) (own_Ks s0 s1 s2 q0 q1 q2) n) x_ (x_ + 1))), .second, iv (Int32.ofNat (t + 1))] []))
                              refine own_go (fun t_ k_ => XS.iinc X33.here hx rfl (hb hby d4_316) rfl (l' := #[rv fo, rv aR, iv pj, iv (Int32.ofNat (own_mx (own_r s0 s1 s2 q0 q1 q2) n)), iv (Int32.ofNat (x_ + 1)), .val (.long (own_m6 (own_k5 (own_r s0 s1 s2 q0 q1 q2) n (own_mx (own_r s0 s1 s2 q0 q1 q2) n) (own_Ks s0 s1 s2 q0 q1 q2) n) x_ (x_ + 1))), .second, iv ((Int32.ofNat (t + 1)) + (-1 : Int32))]) rfl k_) ?_
                              show OwnFin p e below s _ _ _ (T33.setTop (mkF m 319 #[rv fo, rv aR, iv pj, iv (Int32.ofNat (own_mx (own_r s0 s1 s2 q0 q1 q2) n)), iv (Int32.ofNat (x_ + 1)), .val (.long (own_m6 (own_k5 (own_r s0 s1 s2 q0 q1 q2) n (own_mx (own_r s0 s1 s2 q0 q1 q2) n) (own_Ks s0 s1 s2 q0 q1 q2) n) x_ (x_ + 1))), .second, iv ((Int32.ofNat (t + 1)) + (-1 : Int32))] []))
                              refine own_go (fun t_ k_ => XS.goto X33.here hx rfl (pc0 := 319) (pc' := 280) rfl (hb hby d4_319) (by decide) (by decide) k_) ?_
                              show OwnFin p e below s _ _ _ (T33.setTop (mkF m 280 #[rv fo, rv aR, iv pj, iv (Int32.ofNat (own_mx (own_r s0 s1 s2 q0 q1 q2) n)), iv (Int32.ofNat (x_ + 1)), .val (.long (own_m6 (own_k5 (own_r s0 s1 s2 q0 q1 q2) n (own_mx (own_r s0 s1 s2 q0 q1 q2) n) (own_Ks s0 s1 s2 q0 q1 q2) n) x_ (x_ + 1))), .second, iv ((Int32.ofNat (t + 1)) + (-1 : Int32))] []))
                              have edec : Int32.ofNat (t + 1) + (-1 : Int32) = Int32.ofNat t := (Int32.sub_eq_add_neg _ _).symm.trans (dec_ofNat t)
                              rw [edec]
                              have Rg : OwnArr Z h33 aK .long 3 (fun j => .long ((fun j => if j = t + 1 then G t else G j) j)) := A33.congr (fun z hz => by (try dsimp only); split <;> rfl)
                              exact ih _ T33 _ _ X33 e33 N33 K33 H0_33 H1_33 H2_33 H3_33 H4_33 H5_33 H6_33 H7_33 H8_33 H9_33 H10_33 H11_33 H12_33 Rg H14_33 H15_33 H16_33 H17_33 H18_33 (by omega) (by rw [← hG]; exact (if_pos hc297).symm)
                            · refine own_go (fun t_ k_ => XS.ifYes X30.here hx rfl (pc0 := 297) (pc' := 322) rfl (hb hby d4_297) rfl ((if0 _ _).trans (flt (mt (lw_gt (G t) (own_m6 (own_k5 (own_r s0 s1 s2 q0 q1 q2) n (own_mx (own_r s0 s1 s2 q0 q1 q2) n) (own_Ks s0 s1 s2 q0 q1 q2) n) x_ (x_ + 1))).mp hc297)).2.2.2) (by decide) (by decide) k_) ?_
                              show OwnFin p e below s _ _ _ (T30.setTop (mkF m 322 #[rv fo, rv aR, iv pj, iv (Int32.ofNat (own_mx (own_r s0 s1 s2 q0 q1 q2) n)), iv (Int32.ofNat (x_ + 1)), .val (.long (own_m6 (own_k5 (own_r s0 s1 s2 q0 q1 q2) n (own_mx (own_r s0 s1 s2 q0 q1 q2) n) (own_Ks s0 s1 s2 q0 q1 q2) n) x_ (x_ + 1))), .second, iv (Int32.ofNat (t + 1))] []))
                              have hG' : (fun j => if j = t + 1 then (own_m6 (own_k5 (own_r s0 s1 s2 q0 q1 q2) n (own_mx (own_r s0 s1 s2 q0 q1 q2) n) (own_Ks s0 s1 s2 q0 q1 q2) n) x_ (x_ + 1)) else G j) = own_m6 (own_k5 (own_r s0 s1 s2 q0 q1 q2) n (own_mx (own_r s0 s1 s2 q0 q1 q2) n) (own_Ks s0 s1 s2 q0 q1 q2) n) (x_ + 1) := by rw [← hG]; exact (if_neg hc297).symm
                              refine own_go (fun t_ k_ => XS.aloadN X30.here hx rfl (hb hby d4_322) rfl rfl k_) ?_
                              show OwnFin p e below s _ _ _ (T30.setTop (mkF m 323 #[rv fo, rv aR, iv pj, iv (Int32.ofNat (own_mx (own_r s0 s1 s2 q0 q1 q2) n)), iv (Int32.ofNat (x_ + 1)), .val (.long (own_m6 (own_k5 (own_r s0 s1 s2 q0 q1 q2) n (own_mx (own_r s0 s1 s2 q0 q1 q2) n) (own_Ks s0 s1 s2 q0 q1 q2) n) x_ (x_ + 1))), .second, iv (Int32.ofNat (t + 1))] [(.ref fo)]))
                              obtain ⟨T34, X34, e34, st34⟩ := getF X30 hx hZ hown (host := "") (Or.inl (hw _ (List.mem_of_getElem? (i := 20) rfl))) Via.refl e30 H3 (g := (mkF m 323 #[rv fo, rv aR, iv pj, iv (Int32.ofNat (own_mx (own_r s0 s1 s2 q0 q1 q2) n)), iv (Int32.ofNat (x_ + 1)), .val (.long (own_m6 (own_k5 (own_r s0 s1 s2 q0 q1 q2) n (own_mx (own_r s0 s1 s2 q0 q1 q2) n) (own_Ks s0 s1 s2 q0 q1 q2) n) x_ (x_ + 1))), .second, iv (Int32.ofNat (t + 1))] [(.ref fo)])) rfl rfl (hb hby d4_323)
                              refine own_go st34 ?_
                              show OwnFin p e below s _ _ _ (T34.setTop (mkF m 326 #[rv fo, rv aR, iv pj, iv (Int32.ofNat (own_mx (own_r s0 s1 s2 q0 q1 q2) n)), iv (Int32.ofNat (x_ + 1)), .val (.long (own_m6 (own_k5 (own_r s0 s1 s2 q0 q1 q2) n (own_mx (own_r s0 s1 s2 q0 q1 q2) n) (own_Ks s0 s1 s2 q0 q1 q2) n) x_ (x_ + 1))), .second, iv (Int32.ofNat (t + 1))] [(.ref aK)]))
                              refine own_go (fun t_ k_ => XS.iload X34.here hx rfl (hb hby d4_326) rfl k_) ?_
                              show OwnFin p e below s _ _ _ (T34.setTop (mkF m 328 #[rv fo, rv aR, iv pj, iv (Int32.ofNat (own_mx (own_r s0 s1 s2 q0 q1 q2) n)), iv (Int32.ofNat (x_ + 1)), .val (.long (own_m6 (own_k5 (own_r s0 s1 s2 q0 q1 q2) n (own_mx (own_r s0 s1 s2 q0 q1 q2) n) (own_Ks s0 s1 s2 q0 q1 q2) n) x_ (x_ + 1))), .second, iv (Int32.ofNat (t + 1))] [(.int (Int32.ofNat (t + 1))), (.ref aK)]))
                              refine own_go (fun t_ k_ => XS.lload X34.here hx rfl (hb hby d4_328) rfl k_) ?_
                              show OwnFin p e below s _ _ _ (T34.setTop (mkF m 330 #[rv fo, rv aR, iv pj, iv (Int32.ofNat (own_mx (own_r s0 s1 s2 q0 q1 q2) n)), iv (Int32.ofNat (x_ + 1)), .val (.long (own_m6 (own_k5 (own_r s0 s1 s2 q0 q1 q2) n (own_mx (own_r s0 s1 s2 q0 q1 q2) n) (own_Ks s0 s1 s2 q0 q1 q2) n) x_ (x_ + 1))), .second, iv (Int32.ofNat (t + 1))] [(.long (own_m6 (own_k5 (own_r s0 s1 s2 q0 q1 q2) n (own_mx (own_r s0 s1 s2 q0 q1 q2) n) (own_Ks s0 s1 s2 q0 q1 q2) n) x_ (x_ + 1))), (.int (Int32.ofNat (t + 1))), (.ref aK)]))
                              obtain ⟨T35, h35, X35, e35, W35, A35, st35⟩ := own_lastore X34 hx hZ e34 H13 (i := (t + 1)) rfl (by omega) (g := (mkF m 330 #[rv fo, rv aR, iv pj, iv (Int32.ofNat (own_mx (own_r s0 s1 s2 q0 q1 q2) n)), iv (Int32.ofNat (x_ + 1)), .val (.long (own_m6 (own_k5 (own_r s0 s1 s2 q0 q1 q2) n (own_mx (own_r s0 s1 s2 q0 q1 q2) n) (own_Ks s0 s1 s2 q0 q1 q2) n) x_ (x_ + 1))), .second, iv (Int32.ofNat (t + 1))] [(.long (own_m6 (own_k5 (own_r s0 s1 s2 q0 q1 q2) n (own_mx (own_r s0 s1 s2 q0 q1 q2) n) (own_Ks s0 s1 s2 q0 q1 q2) n) x_ (x_ + 1))), (.int (Int32.ofNat (t + 1))), (.ref aK)])) rfl rfl (hb hby d4_330)
                              have H0_35 := H0.wr W35
                              have H1_35 := H1.other W35 (Or.inl ne_fo_aK)
                              have H2_35 := H2.other W35 (Or.inl ne_fo_aK)
                              have H3_35 := H3.other W35 (Or.inl ne_fo_aK)
                              have H4_35 := H4.other W35 (Or.inl ne_fo_aK)
                              have H5_35 := H5.other W35 (Or.inl ne_fo_aK)
                              have H6_35 := H6.other W35 (Or.inl ne_fo_aK)
                              have H7_35 := H7.other W35 (Or.inl ne_fo_aK)
                              have H8_35 := H8.other W35 (Or.inl ne_fo_aK)
                              have H9_35 := H9.other W35 (Or.inl ne_fo_aK)
                              have H10_35 := H10.other W35 (Or.inl ne_fo_aK)
                              have H11_35 := H11.other W35 (Or.inl ne_fo_aK)
                              have H12_35 := H12.other W35 ne_aB_aK
                              have H14_35 := H14.other W35 (Ne.symm ne_aK_aT)
                              have H15_35 := H15.other W35 (Ne.symm ne_aK_aP)
                              have H16_35 := H16.other W35 (Ne.symm ne_aK_aO)
                              have H17_35 := H17.other W35 (Ne.symm ne_aK_aR)
                              have H18_35 := H18.other W35 (Ne.symm ne_aK_aW)
                              have Z35 : n0 ≤ h35.size := Nat.le_trans Z1 (Keep.of_wr W35).1
                              have K35 : Keep h0 h35 [fo, aS, aB, aK, aT, aP, aO] := K1.wr W35 (Or.inl (List.mem_of_getElem? (i := 3) rfl))
                              have N35 := Fr.snoc X35 N1 g_aK
                              refine own_go st35 ?_
                              show OwnFin p e below s _ _ _ (T35.setTop (mkF m 331 #[rv fo, rv aR, iv pj, iv (Int32.ofNat (own_mx (own_r s0 s1 s2 q0 q1 q2) n)), iv (Int32.ofNat (x_ + 1)), .val (.long (own_m6 (own_k5 (own_r s0 s1 s2 q0 q1 q2) n (own_mx (own_r s0 s1 s2 q0 q1 q2) n) (own_Ks s0 s1 s2 q0 q1 q2) n) x_ (x_ + 1))), .second, iv (Int32.ofNat (t + 1))] []))
                              refine own_go (fun t_ k_ => XS.iinc X35.here hx rfl (hb hby d4_331) rfl (l' := #[rv fo, rv aR, iv pj, iv (Int32.ofNat (own_mx (own_r s0 s1 s2 q0 q1 q2) n)), iv ((Int32.ofNat (x_ + 1)) + (1 : Int32)), .val (.long (own_m6 (own_k5 (own_r s0 s1 s2 q0 q1 q2) n (own_mx (own_r s0 s1 s2 q0 q1 q2) n) (own_Ks s0 s1 s2 q0 q1 q2) n) x_ (x_ + 1))), .second, iv (Int32.ofNat (t + 1))]) rfl k_) ?_
                              show OwnFin p e below s _ _ _ (T35.setTop (mkF m 334 #[rv fo, rv aR, iv pj, iv (Int32.ofNat (own_mx (own_r s0 s1 s2 q0 q1 q2) n)), iv ((Int32.ofNat (x_ + 1)) + (1 : Int32)), .val (.long (own_m6 (own_k5 (own_r s0 s1 s2 q0 q1 q2) n (own_mx (own_r s0 s1 s2 q0 q1 q2) n) (own_Ks s0 s1 s2 q0 q1 q2) n) x_ (x_ + 1))), .second, iv (Int32.ofNat (t + 1))] []))
                              refine own_go (fun t_ k_ => XS.goto X35.here hx rfl (pc0 := 334) (pc' := 258) rfl (hb hby d4_334) (by decide) (by decide) k_) ?_
                              show OwnFin p e below s _ _ _ (T35.setTop (mkF m 258 #[rv fo, rv aR, iv pj, iv (Int32.ofNat (own_mx (own_r s0 s1 s2 q0 q1 q2) n)), iv ((Int32.ofNat (x_ + 1)) + (1 : Int32)), .val (.long (own_m6 (own_k5 (own_r s0 s1 s2 q0 q1 q2) n (own_mx (own_r s0 s1 s2 q0 q1 q2) n) (own_Ks s0 s1 s2 q0 q1 q2) n) x_ (x_ + 1))), .second, iv (Int32.ofNat (t + 1))] []))
                              have Rf : OwnArr Z h35 aK .long 3 (fun j => .long (own_m6 (own_k5 (own_r s0 s1 s2 q0 q1 q2) n (own_mx (own_r s0 s1 s2 q0 q1 q2) n) (own_Ks s0 s1 s2 q0 q1 q2) n) (x_ + 1) j)) := A35.congr (fun z hz => by rw [← hG']; show _ = Value.long (if z = _ then _ else _); split <;> rfl)
                              have einc : Int32.ofNat (x_ + 1) + (1 : Int32) = Int32.ofNat (x_ + 1 + 1) := (inc_ofNat (x_ + 1)).symm
                              rw [einc]
                              exact ihx (x_ + 1) _ _ _ T35 _ _ X35 e35 N35 K35 H0_35 H1_35 H2_35 H3_35 H4_35 H5_35 H6_35 H7_35 H8_35 H9_35 H10_35 H11_35 H12_35 Rf H14_35 H15_35 H16_35 H17_35 H18_35 (by omega) (One.val rfl) (Or.inr ⟨_, rfl, rfl⟩)
                        exact inner (x_ + 1) _ T27 _ _ X27 e27 N1 K1 H0 H1 H2 H3 H4 H5 H6 H7 H8 H9 H10 H11 H12 H13 H14 H15 H16 H17 H18 (Nat.le_refl _) rfl
                    exact loop6 (n - 1) 0 _ _ _ T9 _ _ X9 e9 N1 K1 H0 H1 H2 H3 H4 H5 H6 H7 H8 H9 H10 H11 H12 R10 H14 H15 H16 H17 H18 (by omega) One.u (Or.inl ⟨hl5, One.u⟩)
                  | succ d ih =>
                    intro c_ l5 T1 locs1 h1 X1 e1 N1 K1 H0 H1 H2 H3 H4 H5 H6 H7 H8 H9 H10 H11 H12 H13 H14 H15 H16 H17 H18 hcd hl5
                    have Z1 : n0 ≤ h1.size := Nat.le_trans Z0 K1.1
                    refine own_go (fun t_ k_ => XS.iload X1.here hx rfl (hb hby d4_197) rfl k_) ?_
                    show OwnFin p e below s _ _ _ (T1.setTop (mkF m 199 #[rv fo, rv aR, iv pj, iv (Int32.ofNat (own_mx (own_r s0 s1 s2 q0 q1 q2) n)), iv (Int32.ofNat c_), l5, .unset, .unset] [(.int (Int32.ofNat c_))]))
                    refine own_go (fun t_ k_ => XS.aloadN X1.here hx rfl (hb hby d4_199) rfl rfl k_) ?_
                    show OwnFin p e below s _ _ _ (T1.setTop (mkF m 200 #[rv fo, rv aR, iv pj, iv (Int32.ofNat (own_mx (own_r s0 s1 s2 q0 q1 q2) n)), iv (Int32.ofNat c_), l5, .unset, .unset] [(.ref fo), (.int (Int32.ofNat c_))]))
                    obtain ⟨T36, X36, e36, st36⟩ := getF X1 hx hZ hown (host := "") (Or.inl (hw _ (List.mem_of_getElem? (i := 33) rfl))) Via.refl e1 H7 (g := (mkF m 200 #[rv fo, rv aR, iv pj, iv (Int32.ofNat (own_mx (own_r s0 s1 s2 q0 q1 q2) n)), iv (Int32.ofNat c_), l5, .unset, .unset] [(.ref fo), (.int (Int32.ofNat c_))])) rfl rfl (hb hby d4_200)
                    refine own_go st36 ?_
                    show OwnFin p e below s _ _ _ (T36.setTop (mkF m 203 #[rv fo, rv aR, iv pj, iv (Int32.ofNat (own_mx (own_r s0 s1 s2 q0 q1 q2) n)), iv (Int32.ofNat c_), l5, .unset, .unset] [(.int (Int32.ofNat n)), (.int (Int32.ofNat c_))]))
                    have hc203 : (Int32.ofNat c_) < (Int32.ofNat n) := by rw [own_ltN (by omega) (by omega)]; omega
                    refine own_go (fun t_ k_ => XS.icmpNo X36.here hx rfl (hb hby d4_203) rfl (tlt hc203).2.1 k_) ?_
                    show OwnFin p e below s _ _ _ (T36.setTop (mkF m 206 #[rv fo, rv aR, iv pj, iv (Int32.ofNat (own_mx (own_r s0 s1 s2 q0 q1 q2) n)), iv (Int32.ofNat c_), l5, .unset, .unset] []))
                    refine own_go (fun t_ k_ => XS.aloadN X36.here hx rfl (hb hby d4_206) rfl rfl k_) ?_
                    show OwnFin p e below s _ _ _ (T36.setTop (mkF m 207 #[rv fo, rv aR, iv pj, iv (Int32.ofNat (own_mx (own_r s0 s1 s2 q0 q1 q2) n)), iv (Int32.ofNat c_), l5, .unset, .unset] [(.ref fo)]))
                    obtain ⟨T37, X37, e37, st37⟩ := getF X36 hx hZ hown (host := "") (Or.inl (hw _ (List.mem_of_getElem? (i := 22) rfl))) Via.refl e36 H4 (g := (mkF m 207 #[rv fo, rv aR, iv pj, iv (Int32.ofNat (own_mx (own_r s0 s1 s2 q0 q1 q2) n)), iv (Int32.ofNat c_), l5, .unset, .unset] [(.ref fo)])) rfl rfl (hb hby d4_207)
                    refine own_go st37 ?_
                    show OwnFin p e below s _ _ _ (T37.setTop (mkF m 210 #[rv fo, rv aR, iv pj, iv (Int32.ofNat (own_mx (own_r s0 s1 s2 q0 q1 q2) n)), iv (Int32.ofNat c_), l5, .unset, .unset] [(.ref aT)]))
                    refine own_go (fun t_ k_ => XS.iload X37.here hx rfl (hb hby d4_210) rfl k_) ?_
                    show OwnFin p e below s _ _ _ (T37.setTop (mkF m 212 #[rv fo, rv aR, iv pj, iv (Int32.ofNat (own_mx (own_r s0 s1 s2 q0 q1 q2) n)), iv (Int32.ofNat c_), l5, .unset, .unset] [(.int (Int32.ofNat c_)), (.ref aT)]))
                    have hl38 := own_laload X37 hx hZ e37 H14 (i := c_) rfl (by omega) (g := (mkF m 212 #[rv fo, rv aR, iv pj, iv (Int32.ofNat (own_mx (own_r s0 s1 s2 q0 q1 q2) n)), iv (Int32.ofNat c_), l5, .unset, .unset] [(.int (Int32.ofNat c_)), (.ref aT)])) rfl rfl (hb hby d4_212)
                    rw [hT c_ (by omega)] at hl38
                    refine own_go hl38 ?_
                    show OwnFin p e below s _ _ _ (T37.setTop (mkF m 213 #[rv fo, rv aR, iv pj, iv (Int32.ofNat (own_mx (own_r s0 s1 s2 q0 q1 q2) n)), iv (Int32.ofNat c_), l5, .unset, .unset] [(.long ((own_Ks s0 s1 s2 q0 q1 q2) c_))]))
                    refine own_go (fun t_ k_ => XS.bipush X37.here hx rfl (hb hby d4_213) k_) ?_
                    show OwnFin p e below s _ _ _ (T37.setTop (mkF m 215 #[rv fo, rv aR, iv pj, iv (Int32.ofNat (own_mx (own_r s0 s1 s2 q0 q1 q2) n)), iv (Int32.ofNat c_), l5, .unset, .unset] [(.int (32 : Int32)), (.long ((own_Ks s0 s1 s2 q0 q1 q2) c_))]))
                    refine own_go (fun t_ k_ => XS.lushr X37.here hx rfl (hb hby d4_215) rfl k_) ?_
                    show OwnFin p e below s _ _ _ (T37.setTop (mkF m 216 #[rv fo, rv aR, iv pj, iv (Int32.ofNat (own_mx (own_r s0 s1 s2 q0 q1 q2) n)), iv (Int32.ofNat c_), l5, .unset, .unset] [(.long ((((own_Ks s0 s1 s2 q0 q1 q2) c_).toUInt64 >>> ((32 : Int32) &&& 0x3f).toInt64.toUInt64).toInt64))]))
                    refine own_go (fun t_ k_ => XS.l2i X37.here hx rfl (hb hby d4_216) rfl k_) ?_
                    show OwnFin p e below s _ _ _ (T37.setTop (mkF m 217 #[rv fo, rv aR, iv pj, iv (Int32.ofNat (own_mx (own_r s0 s1 s2 q0 q1 q2) n)), iv (Int32.ofNat c_), l5, .unset, .unset] [(.int (((((own_Ks s0 s1 s2 q0 q1 q2) c_).toUInt64 >>> ((32 : Int32) &&& 0x3f).toInt64.toUInt64).toInt64).toInt32))]))
                    rw [show ((((own_Ks s0 s1 s2 q0 q1 q2) c_).toUInt64 >>> ((32 : Int32) &&& 0x3f).toInt64.toUInt64).toInt64).toInt32 = Int32.ofNat ((own_r s0 s1 s2 q0 q1 q2) c_) from own_hi_all _ (hR c_) _ (hS c_)]
                    show OwnFin p e below s _ _ _ (T37.setTop (mkF m 217 #[rv fo, rv aR, iv pj, iv (Int32.ofNat (own_mx (own_r s0 s1 s2 q0 q1 q2) n)), iv (Int32.ofNat c_), l5, .unset, .unset] [(.int (Int32.ofNat ((own_r s0 s1 s2 q0 q1 q2) c_)))]))
                    refine own_go (fun t_ k_ => XS.istore X37.here hx rfl (hb hby d4_217) rfl (l' := #[rv fo, rv aR, iv pj, iv (Int32.ofNat (own_mx (own_r s0 s1 s2 q0 q1 q2) n)), iv (Int32.ofNat c_), iv (Int32.ofNat ((own_r s0 s1 s2 q0 q1 q2) c_)), .unset, .unset]) (by rcases hl5 with rfl | ⟨w, rfl, hw9⟩ <;> first | rfl | (cases w <;> first | rfl | (simp [Value.category] at hw9; done))) k_) ?_
                    show OwnFin p e below s _ _ _ (T37.setTop (mkF m 219 #[rv fo, rv aR, iv pj, iv (Int32.ofNat (own_mx (own_r s0 s1 s2 q0 q1 q2) n)), iv (Int32.ofNat c_), iv (Int32.ofNat ((own_r s0 s1 s2 q0 q1 q2) c_)), .unset, .unset] []))
                    have hpos := own_pos (n := n) (s0 := s0) (s1 := s1) (s2 := s2) hn hq0 hq1 hq2 (a := c_) (by omega)
                    refine own_go (fun t_ k_ => XS.aloadN X37.here hx rfl (hb hby d4_219) rfl rfl k_) ?_
                    show OwnFin p e below s _ _ _ (T37.setTop (mkF m 220 #[rv fo, rv aR, iv pj, iv (Int32.ofNat (own_mx (own_r s0 s1 s2 q0 q1 q2) n)), iv (Int32.ofNat c_), iv (Int32.ofNat ((own_r s0 s1 s2 q0 q1 q2) c_)), .unset, .unset] [(.ref fo)]))
                    obtain ⟨T39, X39, e39, st39⟩ := getF X37 hx hZ hown (host := "") (Or.inl (hw _ (List.mem_of_getElem? (i := 20) rfl))) Via.refl e37 H3 (g := (mkF m 220 #[rv fo, rv aR, iv pj, iv (Int32.ofNat (own_mx (own_r s0 s1 s2 q0 q1 q2) n)), iv (Int32.ofNat c_), iv (Int32.ofNat ((own_r s0 s1 s2 q0 q1 q2) c_)), .unset, .unset] [(.ref fo)])) rfl rfl (hb hby d4_220)
                    refine own_go st39 ?_
                    show OwnFin p e below s _ _ _ (T39.setTop (mkF m 223 #[rv fo, rv aR, iv pj, iv (Int32.ofNat (own_mx (own_r s0 s1 s2 q0 q1 q2) n)), iv (Int32.ofNat c_), iv (Int32.ofNat ((own_r s0 s1 s2 q0 q1 q2) c_)), .unset, .unset] [(.ref aK)]))
                    refine own_go (fun t_ k_ => XS.aloadN X39.here hx rfl (hb hby d4_223) rfl rfl k_) ?_
                    show OwnFin p e below s _ _ _ (T39.setTop (mkF m 224 #[rv fo, rv aR, iv pj, iv (Int32.ofNat (own_mx (own_r s0 s1 s2 q0 q1 q2) n)), iv (Int32.ofNat c_), iv (Int32.ofNat ((own_r s0 s1 s2 q0 q1 q2) c_)), .unset, .unset] [(.ref fo), (.ref aK)]))
                    obtain ⟨T40, X40, e40, st40⟩ := getF X39 hx hZ hown (host := "") (Or.inl (hw _ (List.mem_of_getElem? (i := 15) rfl))) Via.refl e39 H1 (g := (mkF m 224 #[rv fo, rv aR, iv pj, iv (Int32.ofNat (own_mx (own_r s0 s1 s2 q0 q1 q2) n)), iv (Int32.ofNat c_), iv (Int32.ofNat ((own_r s0 s1 s2 q0 q1 q2) c_)), .unset, .unset] [(.ref fo), (.ref aK)])) rfl rfl (hb hby d4_224)
                    refine own_go st40 ?_
                    show OwnFin p e below s _ _ _ (T40.setTop (mkF m 227 #[rv fo, rv aR, iv pj, iv (Int32.ofNat (own_mx (own_r s0 s1 s2 q0 q1 q2) n)), iv (Int32.ofNat c_), iv (Int32.ofNat ((own_r s0 s1 s2 q0 q1 q2) c_)), .unset, .unset] [(.ref aW), (.ref aK)]))
                    refine own_go (fun t_ k_ => XS.iload X40.here hx rfl (hb hby d4_227) rfl k_) ?_
                    show OwnFin p e below s _ _ _ (T40.setTop (mkF m 229 #[rv fo, rv aR, iv pj, iv (Int32.ofNat (own_mx (own_r s0 s1 s2 q0 q1 q2) n)), iv (Int32.ofNat c_), iv (Int32.ofNat ((own_r s0 s1 s2 q0 q1 q2) c_)), .unset, .unset] [(.int (Int32.ofNat ((own_r s0 s1 s2 q0 q1 q2) c_))), (.ref aW), (.ref aK)]))
                    refine own_go (own_iaload X40 hx hZ e40 H18 (i := ((own_r s0 s1 s2 q0 q1 q2) c_)) rfl (by have h := own_mx_le (r := (own_r s0 s1 s2 q0 q1 q2)) n c_ (by omega); omega) (g := (mkF m 229 #[rv fo, rv aR, iv pj, iv (Int32.ofNat (own_mx (own_r s0 s1 s2 q0 q1 q2) n)), iv (Int32.ofNat c_), iv (Int32.ofNat ((own_r s0 s1 s2 q0 q1 q2) c_)), .unset, .unset] [(.int (Int32.ofNat ((own_r s0 s1 s2 q0 q1 q2) c_))), (.ref aW), (.ref aK)])) rfl rfl (hb hby d4_229)) ?_
                    show OwnFin p e below s _ _ _ (T40.setTop (mkF m 230 #[rv fo, rv aR, iv pj, iv (Int32.ofNat (own_mx (own_r s0 s1 s2 q0 q1 q2) n)), iv (Int32.ofNat c_), iv (Int32.ofNat ((own_r s0 s1 s2 q0 q1 q2) c_)), .unset, .unset] [(.int (own_m5 (own_r s0 s1 s2 q0 q1 q2) n (own_mx (own_r s0 s1 s2 q0 q1 q2) n) c_ ((own_r s0 s1 s2 q0 q1 q2) c_))), (.ref aK)]))
                    refine own_go (fun t_ k_ => XS.aloadN X40.here hx rfl (hb hby d4_230) rfl rfl k_) ?_
                    show OwnFin p e below s _ _ _ (T40.setTop (mkF m 231 #[rv fo, rv aR, iv pj, iv (Int32.ofNat (own_mx (own_r s0 s1 s2 q0 q1 q2) n)), iv (Int32.ofNat c_), iv (Int32.ofNat ((own_r s0 s1 s2 q0 q1 q2) c_)), .unset, .unset] [(.ref fo), (.int (own_m5 (own_r s0 s1 s2 q0 q1 q2) n (own_mx (own_r s0 s1 s2 q0 q1 q2) n) c_ ((own_r s0 s1 s2 q0 q1 q2) c_))), (.ref aK)]))
                    obtain ⟨T41, X41, e41, st41⟩ := getF X40 hx hZ hown (host := "") (Or.inl (hw _ (List.mem_of_getElem? (i := 22) rfl))) Via.refl e40 H4 (g := (mkF m 231 #[rv fo, rv aR, iv pj, iv (Int32.ofNat (own_mx (own_r s0 s1 s2 q0 q1 q2) n)), iv (Int32.ofNat c_), iv (Int32.ofNat ((own_r s0 s1 s2 q0 q1 q2) c_)), .unset, .unset] [(.ref fo), (.int (own_m5 (own_r s0 s1 s2 q0 q1 q2) n (own_mx (own_r s0 s1 s2 q0 q1 q2) n) c_ ((own_r s0 s1 s2 q0 q1 q2) c_))), (.ref aK)])) rfl rfl (hb hby d4_231)
                    refine own_go st41 ?_
                    show OwnFin p e below s _ _ _ (T41.setTop (mkF m 234 #[rv fo, rv aR, iv pj, iv (Int32.ofNat (own_mx (own_r s0 s1 s2 q0 q1 q2) n)), iv (Int32.ofNat c_), iv (Int32.ofNat ((own_r s0 s1 s2 q0 q1 q2) c_)), .unset, .unset] [(.ref aT), (.int (own_m5 (own_r s0 s1 s2 q0 q1 q2) n (own_mx (own_r s0 s1 s2 q0 q1 q2) n) c_ ((own_r s0 s1 s2 q0 q1 q2) c_))), (.ref aK)]))
                    refine own_go (fun t_ k_ => XS.iload X41.here hx rfl (hb hby d4_234) rfl k_) ?_
                    show OwnFin p e below s _ _ _ (T41.setTop (mkF m 236 #[rv fo, rv aR, iv pj, iv (Int32.ofNat (own_mx (own_r s0 s1 s2 q0 q1 q2) n)), iv (Int32.ofNat c_), iv (Int32.ofNat ((own_r s0 s1 s2 q0 q1 q2) c_)), .unset, .unset] [(.int (Int32.ofNat c_)), (.ref aT), (.int (own_m5 (own_r s0 s1 s2 q0 q1 q2) n (own_mx (own_r s0 s1 s2 q0 q1 q2) n) c_ ((own_r s0 s1 s2 q0 q1 q2) c_))), (.ref aK)]))
                    have hl42 := own_laload X41 hx hZ e41 H14 (i := c_) rfl (by omega) (g := (mkF m 236 #[rv fo, rv aR, iv pj, iv (Int32.ofNat (own_mx (own_r s0 s1 s2 q0 q1 q2) n)), iv (Int32.ofNat c_), iv (Int32.ofNat ((own_r s0 s1 s2 q0 q1 q2) c_)), .unset, .unset] [(.int (Int32.ofNat c_)), (.ref aT), (.int (own_m5 (own_r s0 s1 s2 q0 q1 q2) n (own_mx (own_r s0 s1 s2 q0 q1 q2) n) c_ ((own_r s0 s1 s2 q0 q1 q2) c_))), (.ref aK)])) rfl rfl (hb hby d4_236)
                    rw [hT c_ (by omega)] at hl42
                    refine own_go hl42 ?_
                    show OwnFin p e below s _ _ _ (T41.setTop (mkF m 237 #[rv fo, rv aR, iv pj, iv (Int32.ofNat (own_mx (own_r s0 s1 s2 q0 q1 q2) n)), iv (Int32.ofNat c_), iv (Int32.ofNat ((own_r s0 s1 s2 q0 q1 q2) c_)), .unset, .unset] [(.long ((own_Ks s0 s1 s2 q0 q1 q2) c_)), (.int (own_m5 (own_r s0 s1 s2 q0 q1 q2) n (own_mx (own_r s0 s1 s2 q0 q1 q2) n) c_ ((own_r s0 s1 s2 q0 q1 q2) c_))), (.ref aK)]))
                    obtain ⟨T43, h43, X43, e43, W43, A43, st43⟩ := own_lastore X41 hx hZ e41 H13 (i := (own_p (own_r s0 s1 s2 q0 q1 q2) n (own_mx (own_r s0 s1 s2 q0 q1 q2) n) c_)) hpos.1 hpos.2 (g := (mkF m 237 #[rv fo, rv aR, iv pj, iv (Int32.ofNat (own_mx (own_r s0 s1 s2 q0 q1 q2) n)), iv (Int32.ofNat c_), iv (Int32.ofNat ((own_r s0 s1 s2 q0 q1 q2) c_)), .unset, .unset] [(.long ((own_Ks s0 s1 s2 q0 q1 q2) c_)), (.int (own_m5 (own_r s0 s1 s2 q0 q1 q2) n (own_mx (own_r s0 s1 s2 q0 q1 q2) n) c_ ((own_r s0 s1 s2 q0 q1 q2) c_))), (.ref aK)])) rfl rfl (hb hby d4_237)
                    have H0_43 := H0.wr W43
                    have H1_43 := H1.other W43 (Or.inl ne_fo_aK)
                    have H2_43 := H2.other W43 (Or.inl ne_fo_aK)
                    have H3_43 := H3.other W43 (Or.inl ne_fo_aK)
                    have H4_43 := H4.other W43 (Or.inl ne_fo_aK)
                    have H5_43 := H5.other W43 (Or.inl ne_fo_aK)
                    have H6_43 := H6.other W43 (Or.inl ne_fo_aK)
                    have H7_43 := H7.other W43 (Or.inl ne_fo_aK)
                    have H8_43 := H8.other W43 (Or.inl ne_fo_aK)
                    have H9_43 := H9.other W43 (Or.inl ne_fo_aK)
                    have H10_43 := H10.other W43 (Or.inl ne_fo_aK)
                    have H11_43 := H11.other W43 (Or.inl ne_fo_aK)
                    have H12_43 := H12.other W43 ne_aB_aK
                    have H14_43 := H14.other W43 (Ne.symm ne_aK_aT)
                    have H15_43 := H15.other W43 (Ne.symm ne_aK_aP)
                    have H16_43 := H16.other W43 (Ne.symm ne_aK_aO)
                    have H17_43 := H17.other W43 (Ne.symm ne_aK_aR)
                    have H18_43 := H18.other W43 (Ne.symm ne_aK_aW)
                    have Z43 : n0 ≤ h43.size := Nat.le_trans Z1 (Keep.of_wr W43).1
                    have K43 : Keep h0 h43 [fo, aS, aB, aK, aT, aP, aO] := K1.wr W43 (Or.inl (List.mem_of_getElem? (i := 3) rfl))
                    have N43 := Fr.snoc X43 N1 g_aK
                    refine own_go st43 ?_
                    show OwnFin p e below s _ _ _ (T43.setTop (mkF m 238 #[rv fo, rv aR, iv pj, iv (Int32.ofNat (own_mx (own_r s0 s1 s2 q0 q1 q2) n)), iv (Int32.ofNat c_), iv (Int32.ofNat ((own_r s0 s1 s2 q0 q1 q2) c_)), .unset, .unset] []))
                    refine own_go (fun t_ k_ => XS.aloadN X43.here hx rfl (hb hby d4_238) rfl rfl k_) ?_
                    show OwnFin p e below s _ _ _ (T43.setTop (mkF m 239 #[rv fo, rv aR, iv pj, iv (Int32.ofNat (own_mx (own_r s0 s1 s2 q0 q1 q2) n)), iv (Int32.ofNat c_), iv (Int32.ofNat ((own_r s0 s1 s2 q0 q1 q2) c_)), .unset, .unset] [(.ref fo)]))
                    obtain ⟨T44, X44, e44, st44⟩ := getF X43 hx hZ hown (host := "") (Or.inl (hw _ (List.mem_of_getElem? (i := 15) rfl))) Via.refl e43 H1_43 (g := (mkF m 239 #[rv fo, rv aR, iv pj, iv (Int32.ofNat (own_mx (own_r s0 s1 s2 q0 q1 q2) n)), iv (Int32.ofNat c_), iv (Int32.ofNat ((own_r s0 s1 s2 q0 q1 q2) c_)), .unset, .unset] [(.ref fo)])) rfl rfl (hb hby d4_239)
                    refine own_go st44 ?_
                    show OwnFin p e below s _ _ _ (T44.setTop (mkF m 242 #[rv fo, rv aR, iv pj, iv (Int32.ofNat (own_mx (own_r s0 s1 s2 q0 q1 q2) n)), iv (Int32.ofNat c_), iv (Int32.ofNat ((own_r s0 s1 s2 q0 q1 q2) c_)), .unset, .unset] [(.ref aW)]))
                    refine own_go (fun t_ k_ => XS.iload X44.here hx rfl (hb hby d4_242) rfl k_) ?_
                    show OwnFin p e below s _ _ _ (T44.setTop (mkF m 244 #[rv fo, rv aR, iv pj, iv (Int32.ofNat (own_mx (own_r s0 s1 s2 q0 q1 q2) n)), iv (Int32.ofNat c_), iv (Int32.ofNat ((own_r s0 s1 s2 q0 q1 q2) c_)), .unset, .unset] [(.int (Int32.ofNat ((own_r s0 s1 s2 q0 q1 q2) c_))), (.ref aW)]))
                    refine own_go (fun t_ k_ => Jvm.Free.XT.dup2 X44.here hx rfl (hb hby d4_244) rfl rfl rfl k_) ?_
                    show OwnFin p e below s _ _ _ (T44.setTop (mkF m 245 #[rv fo, rv aR, iv pj, iv (Int32.ofNat (own_mx (own_r s0 s1 s2 q0 q1 q2) n)), iv (Int32.ofNat c_), iv (Int32.ofNat ((own_r s0 s1 s2 q0 q1 q2) c_)), .unset, .unset] [(.int (Int32.ofNat ((own_r s0 s1 s2 q0 q1 q2) c_))), (.ref aW), (.int (Int32.ofNat ((own_r s0 s1 s2 q0 q1 q2) c_))), (.ref aW)]))
                    refine own_go (own_iaload X44 hx hZ e44 H18_43 (i := ((own_r s0 s1 s2 q0 q1 q2) c_)) rfl (by have h := own_mx_le (r := (own_r s0 s1 s2 q0 q1 q2)) n c_ (by omega); omega) (g := (mkF m 245 #[rv fo, rv aR, iv pj, iv (Int32.ofNat (own_mx (own_r s0 s1 s2 q0 q1 q2) n)), iv (Int32.ofNat c_), iv (Int32.ofNat ((own_r s0 s1 s2 q0 q1 q2) c_)), .unset, .unset] [(.int (Int32.ofNat ((own_r s0 s1 s2 q0 q1 q2) c_))), (.ref aW), (.int (Int32.ofNat ((own_r s0 s1 s2 q0 q1 q2) c_))), (.ref aW)])) rfl rfl (hb hby d4_245)) ?_
                    show OwnFin p e below s _ _ _ (T44.setTop (mkF m 246 #[rv fo, rv aR, iv pj, iv (Int32.ofNat (own_mx (own_r s0 s1 s2 q0 q1 q2) n)), iv (Int32.ofNat c_), iv (Int32.ofNat ((own_r s0 s1 s2 q0 q1 q2) c_)), .unset, .unset] [(.int (own_m5 (own_r s0 s1 s2 q0 q1 q2) n (own_mx (own_r s0 s1 s2 q0 q1 q2) n) c_ ((own_r s0 s1 s2 q0 q1 q2) c_))), (.int (Int32.ofNat ((own_r s0 s1 s2 q0 q1 q2) c_))), (.ref aW)]))
                    refine own_go (fun t_ k_ => XS.iconst X44.here hx rfl (hb hby d4_246) k_) ?_
                    show OwnFin p e below s _ _ _ (T44.setTop (mkF m 247 #[rv fo, rv aR, iv pj, iv (Int32.ofNat (own_mx (own_r s0 s1 s2 q0 q1 q2) n)), iv (Int32.ofNat c_), iv (Int32.ofNat ((own_r s0 s1 s2 q0 q1 q2) c_)), .unset, .unset] [(.int (1 : Int32)), (.int (own_m5 (own_r s0 s1 s2 q0 q1 q2) n (own_mx (own_r s0 s1 s2 q0 q1 q2) n) c_ ((own_r s0 s1 s2 q0 q1 q2) c_))), (.int (Int32.ofNat ((own_r s0 s1 s2 q0 q1 q2) c_))), (.ref aW)]))
                    refine own_go (fun t_ k_ => XS.iadd X44.here hx rfl (hb hby d4_247) rfl k_) ?_
                    show OwnFin p e below s _ _ _ (T44.setTop (mkF m 248 #[rv fo, rv aR, iv pj, iv (Int32.ofNat (own_mx (own_r s0 s1 s2 q0 q1 q2) n)), iv (Int32.ofNat c_), iv (Int32.ofNat ((own_r s0 s1 s2 q0 q1 q2) c_)), .unset, .unset] [(.int ((own_m5 (own_r s0 s1 s2 q0 q1 q2) n (own_mx (own_r s0 s1 s2 q0 q1 q2) n) c_ ((own_r s0 s1 s2 q0 q1 q2) c_)) + (1 : Int32))), (.int (Int32.ofNat ((own_r s0 s1 s2 q0 q1 q2) c_))), (.ref aW)]))
                    obtain ⟨T45, h45, X45, e45, W45, A45, st45⟩ := own_iastore X44 hx hZ e44 H18_43 (i := ((own_r s0 s1 s2 q0 q1 q2) c_)) rfl (by have h := own_mx_le (r := (own_r s0 s1 s2 q0 q1 q2)) n c_ (by omega); omega) (g := (mkF m 248 #[rv fo, rv aR, iv pj, iv (Int32.ofNat (own_mx (own_r s0 s1 s2 q0 q1 q2) n)), iv (Int32.ofNat c_), iv (Int32.ofNat ((own_r s0 s1 s2 q0 q1 q2) c_)), .unset, .unset] [(.int ((own_m5 (own_r s0 s1 s2 q0 q1 q2) n (own_mx (own_r s0 s1 s2 q0 q1 q2) n) c_ ((own_r s0 s1 s2 q0 q1 q2) c_)) + (1 : Int32))), (.int (Int32.ofNat ((own_r s0 s1 s2 q0 q1 q2) c_))), (.ref aW)])) rfl rfl (hb hby d4_248)
                    have H0_45 := H0_43.wr W45
                    have H1_45 := H1_43.other W45 (Or.inl ne_fo_aW)
                    have H2_45 := H2_43.other W45 (Or.inl ne_fo_aW)
                    have H3_45 := H3_43.other W45 (Or.inl ne_fo_aW)
                    have H4_45 := H4_43.other W45 (Or.inl ne_fo_aW)
                    have H5_45 := H5_43.other W45 (Or.inl ne_fo_aW)
                    have H6_45 := H6_43.other W45 (Or.inl ne_fo_aW)
                    have H7_45 := H7_43.other W45 (Or.inl ne_fo_aW)
                    have H8_45 := H8_43.other W45 (Or.inl ne_fo_aW)
                    have H9_45 := H9_43.other W45 (Or.inl ne_fo_aW)
                    have H10_45 := H10_43.other W45 (Or.inl ne_fo_aW)
                    have H11_45 := H11_43.other W45 (Or.inl ne_fo_aW)
                    have H12_45 := H12_43.other W45 ne_aB_aW
                    have H13_45 := A43.other W45 ne_aK_aW
                    have H14_45 := H14_43.other W45 ne_aT_aW
                    have H15_45 := H15_43.other W45 ne_aP_aW
                    have H16_45 := H16_43.other W45 ne_aO_aW
                    have H17_45 := H17_43.other W45 ne_aR_aW
                    have Z45 : n0 ≤ h45.size := Nat.le_trans Z43 (Keep.of_wr W45).1
                    have K45 : Keep h0 h45 [fo, aS, aB, aK, aT, aP, aO] := K43.wr W45 hKw
                    have N45 := Fr.snoc X45 N43 g_aW
                    refine own_go st45 ?_
                    show OwnFin p e below s _ _ _ (T45.setTop (mkF m 249 #[rv fo, rv aR, iv pj, iv (Int32.ofNat (own_mx (own_r s0 s1 s2 q0 q1 q2) n)), iv (Int32.ofNat c_), iv (Int32.ofNat ((own_r s0 s1 s2 q0 q1 q2) c_)), .unset, .unset] []))
                    refine own_go (fun t_ k_ => XS.iinc X45.here hx rfl (hb hby d4_249) rfl (l' := #[rv fo, rv aR, iv pj, iv (Int32.ofNat (own_mx (own_r s0 s1 s2 q0 q1 q2) n)), iv ((Int32.ofNat c_) + (1 : Int32)), iv (Int32.ofNat ((own_r s0 s1 s2 q0 q1 q2) c_)), .unset, .unset]) rfl k_) ?_
                    show OwnFin p e below s _ _ _ (T45.setTop (mkF m 252 #[rv fo, rv aR, iv pj, iv (Int32.ofNat (own_mx (own_r s0 s1 s2 q0 q1 q2) n)), iv ((Int32.ofNat c_) + (1 : Int32)), iv (Int32.ofNat ((own_r s0 s1 s2 q0 q1 q2) c_)), .unset, .unset] []))
                    refine own_go (fun t_ k_ => XS.goto X45.here hx rfl (pc0 := 252) (pc' := 197) rfl (hb hby d4_252) (by decide) (by decide) k_) ?_
                    show OwnFin p e below s _ _ _ (T45.setTop (mkF m 197 #[rv fo, rv aR, iv pj, iv (Int32.ofNat (own_mx (own_r s0 s1 s2 q0 q1 q2) n)), iv ((Int32.ofNat c_) + (1 : Int32)), iv (Int32.ofNat ((own_r s0 s1 s2 q0 q1 q2) c_)), .unset, .unset] []))
                    have R46 : OwnArr Z h45 aW .int nS (fun j => .int (own_m5 (own_r s0 s1 s2 q0 q1 q2) n (own_mx (own_r s0 s1 s2 q0 q1 q2) n) (c_ + 1) j)) := A45.congr (fun z hz => by show _ = Value.int (if z = _ then _ else _); split <;> rfl)
                    have R47 : OwnArr Z h45 aK .long 3 (fun j => .long (own_k5 (own_r s0 s1 s2 q0 q1 q2) n (own_mx (own_r s0 s1 s2 q0 q1 q2) n) (own_Ks s0 s1 s2 q0 q1 q2) (c_ + 1) j)) := H13_45.congr (fun z hz => by show _ = Value.long (if z = _ then _ else _); split <;> rfl)
                    have einc : Int32.ofNat c_ + (1 : Int32) = Int32.ofNat (c_ + 1) := (inc_ofNat c_).symm
                    rw [einc]
                    exact ih (c_ + 1) _ T45 _ _ X45 e45 N45 K45 H0_45 H1_45 H2_45 H3_45 H4_45 H5_45 H6_45 H7_45 H8_45 H9_45 H10_45 H11_45 H12_45 R47 H14_45 H15_45 H16_45 H17_45 R46 (by omega) (One.val rfl)
                exact loop5 n 0 _ T1 _ _ X1 e1 N1 K1 H0 H1 H2 H3 H4 H5 H6 H7 H8 H9 H10 H11 H12 R8 H14 H15 H16 H17 R7 (by omega) hl5
              | succ d ih =>
                intro e_ T1 locs1 h1 X1 e1 N1 K1 H0 H1 H2 H3 H4 H5 H6 H7 H8 H9 H10 H11 H12 H13 H14 H15 H16 H17 H18 hed
                have Z1 : n0 ≤ h1.size := Nat.le_trans Z0 K1.1
                refine own_go (fun t_ k_ => XS.iload X1.here hx rfl (hb hby d4_163) rfl k_) ?_
                show OwnFin p e below s _ _ _ (T1.setTop (mkF m 165 #[rv fo, rv aR, iv pj, iv (Int32.ofNat (own_mx (own_r s0 s1 s2 q0 q1 q2) n)), iv (Int32.ofNat (e_ + 1)), l5, .unset, .unset] [(.int (Int32.ofNat (e_ + 1)))]))
                refine own_go (fun t_ k_ => XS.iloadN X1.here hx rfl (hb hby d4_165) rfl k_) ?_
                show OwnFin p e below s _ _ _ (T1.setTop (mkF m 166 #[rv fo, rv aR, iv pj, iv (Int32.ofNat (own_mx (own_r s0 s1 s2 q0 q1 q2) n)), iv (Int32.ofNat (e_ + 1)), l5, .unset, .unset] [(.int (Int32.ofNat (own_mx (own_r s0 s1 s2 q0 q1 q2) n))), (.int (Int32.ofNat (e_ + 1)))]))
                have hc166 : ¬ ((Int32.ofNat (own_mx (own_r s0 s1 s2 q0 q1 q2) n)) < (Int32.ofNat (e_ + 1))) := by rw [own_ltN (by omega) (by omega)]; omega
                refine own_go (fun t_ k_ => XS.icmpNo X1.here hx rfl (hb hby d4_166) rfl (flt hc166).2.2.1 k_) ?_
                show OwnFin p e below s _ _ _ (T1.setTop (mkF m 169 #[rv fo, rv aR, iv pj, iv (Int32.ofNat (own_mx (own_r s0 s1 s2 q0 q1 q2) n)), iv (Int32.ofNat (e_ + 1)), l5, .unset, .unset] []))
                refine own_go (fun t_ k_ => XS.aloadN X1.here hx rfl (hb hby d4_169) rfl rfl k_) ?_
                show OwnFin p e below s _ _ _ (T1.setTop (mkF m 170 #[rv fo, rv aR, iv pj, iv (Int32.ofNat (own_mx (own_r s0 s1 s2 q0 q1 q2) n)), iv (Int32.ofNat (e_ + 1)), l5, .unset, .unset] [(.ref fo)]))
                obtain ⟨T48, X48, e48, st48⟩ := getF X1 hx hZ hown (host := "") (Or.inl (hw _ (List.mem_of_getElem? (i := 15) rfl))) Via.refl e1 H1 (g := (mkF m 170 #[rv fo, rv aR, iv pj, iv (Int32.ofNat (own_mx (own_r s0 s1 s2 q0 q1 q2) n)), iv (Int32.ofNat (e_ + 1)), l5, .unset, .unset] [(.ref fo)])) rfl rfl (hb hby d4_170)
                refine own_go st48 ?_
                show OwnFin p e below s _ _ _ (T48.setTop (mkF m 173 #[rv fo, rv aR, iv pj, iv (Int32.ofNat (own_mx (own_r s0 s1 s2 q0 q1 q2) n)), iv (Int32.ofNat (e_ + 1)), l5, .unset, .unset] [(.ref aW)]))
                refine own_go (fun t_ k_ => XS.iload X48.here hx rfl (hb hby d4_173) rfl k_) ?_
                show OwnFin p e below s _ _ _ (T48.setTop (mkF m 175 #[rv fo, rv aR, iv pj, iv (Int32.ofNat (own_mx (own_r s0 s1 s2 q0 q1 q2) n)), iv (Int32.ofNat (e_ + 1)), l5, .unset, .unset] [(.int (Int32.ofNat (e_ + 1))), (.ref aW)]))
                refine own_go (fun t_ k_ => Jvm.Free.XT.dup2 X48.here hx rfl (hb hby d4_175) rfl rfl rfl k_) ?_
                show OwnFin p e below s _ _ _ (T48.setTop (mkF m 176 #[rv fo, rv aR, iv pj, iv (Int32.ofNat (own_mx (own_r s0 s1 s2 q0 q1 q2) n)), iv (Int32.ofNat (e_ + 1)), l5, .unset, .unset] [(.int (Int32.ofNat (e_ + 1))), (.ref aW), (.int (Int32.ofNat (e_ + 1))), (.ref aW)]))
                refine own_go (own_iaload X48 hx hZ e48 H18 (i := (e_ + 1)) rfl (by omega) (g := (mkF m 176 #[rv fo, rv aR, iv pj, iv (Int32.ofNat (own_mx (own_r s0 s1 s2 q0 q1 q2) n)), iv (Int32.ofNat (e_ + 1)), l5, .unset, .unset] [(.int (Int32.ofNat (e_ + 1))), (.ref aW), (.int (Int32.ofNat (e_ + 1))), (.ref aW)])) rfl rfl (hb hby d4_176)) ?_
                show OwnFin p e below s _ _ _ (T48.setTop (mkF m 177 #[rv fo, rv aR, iv pj, iv (Int32.ofNat (own_mx (own_r s0 s1 s2 q0 q1 q2) n)), iv (Int32.ofNat (e_ + 1)), l5, .unset, .unset] [(.int (own_m4 (own_r s0 s1 s2 q0 q1 q2) n e_ (e_ + 1))), (.int (Int32.ofNat (e_ + 1))), (.ref aW)]))
                refine own_go (fun t_ k_ => XS.aloadN X48.here hx rfl (hb hby d4_177) rfl rfl k_) ?_
                show OwnFin p e below s _ _ _ (T48.setTop (mkF m 178 #[rv fo, rv aR, iv pj, iv (Int32.ofNat (own_mx (own_r s0 s1 s2 q0 q1 q2) n)), iv (Int32.ofNat (e_ + 1)), l5, .unset, .unset] [(.ref fo), (.int (own_m4 (own_r s0 s1 s2 q0 q1 q2) n e_ (e_ + 1))), (.int (Int32.ofNat (e_ + 1))), (.ref aW)]))
                obtain ⟨T49, X49, e49, st49⟩ := getF X48 hx hZ hown (host := "") (Or.inl (hw _ (List.mem_of_getElem? (i := 15) rfl))) Via.refl e48 H1 (g := (mkF m 178 #[rv fo, rv aR, iv pj, iv (Int32.ofNat (own_mx (own_r s0 s1 s2 q0 q1 q2) n)), iv (Int32.ofNat (e_ + 1)), l5, .unset, .unset] [(.ref fo), (.int (own_m4 (own_r s0 s1 s2 q0 q1 q2) n e_ (e_ + 1))), (.int (Int32.ofNat (e_ + 1))), (.ref aW)])) rfl rfl (hb hby d4_178)
                refine own_go st49 ?_
                show OwnFin p e below s _ _ _ (T49.setTop (mkF m 181 #[rv fo, rv aR, iv pj, iv (Int32.ofNat (own_mx (own_r s0 s1 s2 q0 q1 q2) n)), iv (Int32.ofNat (e_ + 1)), l5, .unset, .unset] [(.ref aW), (.int (own_m4 (own_r s0 s1 s2 q0 q1 q2) n e_ (e_ + 1))), (.int (Int32.ofNat (e_ + 1))), (.ref aW)]))
                refine own_go (fun t_ k_ => XS.iload X49.here hx rfl (hb hby d4_181) rfl k_) ?_
                show OwnFin p e below s _ _ _ (T49.setTop (mkF m 183 #[rv fo, rv aR, iv pj, iv (Int32.ofNat (own_mx (own_r s0 s1 s2 q0 q1 q2) n)), iv (Int32.ofNat (e_ + 1)), l5, .unset, .unset] [(.int (Int32.ofNat (e_ + 1))), (.ref aW), (.int (own_m4 (own_r s0 s1 s2 q0 q1 q2) n e_ (e_ + 1))), (.int (Int32.ofNat (e_ + 1))), (.ref aW)]))
                refine own_go (fun t_ k_ => XS.iconst X49.here hx rfl (hb hby d4_183) k_) ?_
                show OwnFin p e below s _ _ _ (T49.setTop (mkF m 184 #[rv fo, rv aR, iv pj, iv (Int32.ofNat (own_mx (own_r s0 s1 s2 q0 q1 q2) n)), iv (Int32.ofNat (e_ + 1)), l5, .unset, .unset] [(.int (1 : Int32)), (.int (Int32.ofNat (e_ + 1))), (.ref aW), (.int (own_m4 (own_r s0 s1 s2 q0 q1 q2) n e_ (e_ + 1))), (.int (Int32.ofNat (e_ + 1))), (.ref aW)]))
                refine own_go (fun t_ k_ => XS.isub X49.here hx rfl (hb hby d4_184) rfl k_) ?_
                show OwnFin p e below s _ _ _ (T49.setTop (mkF m 185 #[rv fo, rv aR, iv pj, iv (Int32.ofNat (own_mx (own_r s0 s1 s2 q0 q1 q2) n)), iv (Int32.ofNat (e_ + 1)), l5, .unset, .unset] [(.int ((Int32.ofNat (e_ + 1)) - (1 : Int32))), (.ref aW), (.int (own_m4 (own_r s0 s1 s2 q0 q1 q2) n e_ (e_ + 1))), (.int (Int32.ofNat (e_ + 1))), (.ref aW)]))
                refine own_go (own_iaload X49 hx hZ e49 H18 (i := e_) (dec_ofNat e_) (by omega) (g := (mkF m 185 #[rv fo, rv aR, iv pj, iv (Int32.ofNat (own_mx (own_r s0 s1 s2 q0 q1 q2) n)), iv (Int32.ofNat (e_ + 1)), l5, .unset, .unset] [(.int ((Int32.ofNat (e_ + 1)) - (1 : Int32))), (.ref aW), (.int (own_m4 (own_r s0 s1 s2 q0 q1 q2) n e_ (e_ + 1))), (.int (Int32.ofNat (e_ + 1))), (.ref aW)])) rfl rfl (hb hby d4_185)) ?_
                show OwnFin p e below s _ _ _ (T49.setTop (mkF m 186 #[rv fo, rv aR, iv pj, iv (Int32.ofNat (own_mx (own_r s0 s1 s2 q0 q1 q2) n)), iv (Int32.ofNat (e_ + 1)), l5, .unset, .unset] [(.int (own_m4 (own_r s0 s1 s2 q0 q1 q2) n e_ e_)), (.int (own_m4 (own_r s0 s1 s2 q0 q1 q2) n e_ (e_ + 1))), (.int (Int32.ofNat (e_ + 1))), (.ref aW)]))
                refine own_go (fun t_ k_ => XS.iadd X49.here hx rfl (hb hby d4_186) rfl k_) ?_
                show OwnFin p e below s _ _ _ (T49.setTop (mkF m 187 #[rv fo, rv aR, iv pj, iv (Int32.ofNat (own_mx (own_r s0 s1 s2 q0 q1 q2) n)), iv (Int32.ofNat (e_ + 1)), l5, .unset, .unset] [(.int ((own_m4 (own_r s0 s1 s2 q0 q1 q2) n e_ (e_ + 1)) + (own_m4 (own_r s0 s1 s2 q0 q1 q2) n e_ e_))), (.int (Int32.ofNat (e_ + 1))), (.ref aW)]))
                obtain ⟨T50, h50, X50, e50, W50, A50, st50⟩ := own_iastore X49 hx hZ e49 H18 (i := (e_ + 1)) rfl (by omega) (g := (mkF m 187 #[rv fo, rv aR, iv pj, iv (Int32.ofNat (own_mx (own_r s0 s1 s2 q0 q1 q2) n)), iv (Int32.ofNat (e_ + 1)), l5, .unset, .unset] [(.int ((own_m4 (own_r s0 s1 s2 q0 q1 q2) n e_ (e_ + 1)) + (own_m4 (own_r s0 s1 s2 q0 q1 q2) n e_ e_))), (.int (Int32.ofNat (e_ + 1))), (.ref aW)])) rfl rfl (hb hby d4_187)
                have H0_50 := H0.wr W50
                have H1_50 := H1.other W50 (Or.inl ne_fo_aW)
                have H2_50 := H2.other W50 (Or.inl ne_fo_aW)
                have H3_50 := H3.other W50 (Or.inl ne_fo_aW)
                have H4_50 := H4.other W50 (Or.inl ne_fo_aW)
                have H5_50 := H5.other W50 (Or.inl ne_fo_aW)
                have H6_50 := H6.other W50 (Or.inl ne_fo_aW)
                have H7_50 := H7.other W50 (Or.inl ne_fo_aW)
                have H8_50 := H8.other W50 (Or.inl ne_fo_aW)
                have H9_50 := H9.other W50 (Or.inl ne_fo_aW)
                have H10_50 := H10.other W50 (Or.inl ne_fo_aW)
                have H11_50 := H11.other W50 (Or.inl ne_fo_aW)
                have H12_50 := H12.other W50 ne_aB_aW
                have H13_50 := H13.other W50 ne_aK_aW
                have H14_50 := H14.other W50 ne_aT_aW
                have H15_50 := H15.other W50 ne_aP_aW
                have H16_50 := H16.other W50 ne_aO_aW
                have H17_50 := H17.other W50 ne_aR_aW
                have Z50 : n0 ≤ h50.size := Nat.le_trans Z1 (Keep.of_wr W50).1
                have K50 : Keep h0 h50 [fo, aS, aB, aK, aT, aP, aO] := K1.wr W50 hKw
                have N50 := Fr.snoc X50 N1 g_aW
                refine own_go st50 ?_
                show OwnFin p e below s _ _ _ (T50.setTop (mkF m 188 #[rv fo, rv aR, iv pj, iv (Int32.ofNat (own_mx (own_r s0 s1 s2 q0 q1 q2) n)), iv (Int32.ofNat (e_ + 1)), l5, .unset, .unset] []))
                refine own_go (fun t_ k_ => XS.iinc X50.here hx rfl (hb hby d4_188) rfl (l' := #[rv fo, rv aR, iv pj, iv (Int32.ofNat (own_mx (own_r s0 s1 s2 q0 q1 q2) n)), iv ((Int32.ofNat (e_ + 1)) + (1 : Int32)), l5, .unset, .unset]) rfl k_) ?_
                show OwnFin p e below s _ _ _ (T50.setTop (mkF m 191 #[rv fo, rv aR, iv pj, iv (Int32.ofNat (own_mx (own_r s0 s1 s2 q0 q1 q2) n)), iv ((Int32.ofNat (e_ + 1)) + (1 : Int32)), l5, .unset, .unset] []))
                refine own_go (fun t_ k_ => XS.goto X50.here hx rfl (pc0 := 191) (pc' := 163) rfl (hb hby d4_191) (by decide) (by decide) k_) ?_
                show OwnFin p e below s _ _ _ (T50.setTop (mkF m 163 #[rv fo, rv aR, iv pj, iv (Int32.ofNat (own_mx (own_r s0 s1 s2 q0 q1 q2) n)), iv ((Int32.ofNat (e_ + 1)) + (1 : Int32)), l5, .unset, .unset] []))
                have R51 : OwnArr Z h50 aW .int nS (fun j => .int (own_m4 (own_r s0 s1 s2 q0 q1 q2) n (e_ + 1) j)) := A50.congr (fun z hz => by show _ = Value.int (if z = _ then _ else _); split <;> rfl)
                have einc : Int32.ofNat (e_ + 1) + (1 : Int32) = Int32.ofNat (e_ + 1 + 1) := (inc_ofNat (e_ + 1)).symm
                rw [einc]
                exact ih (e_ + 1) T50 _ _ X50 e50 N50 K50 H0_50 H1_50 H2_50 H3_50 H4_50 H5_50 H6_50 H7_50 H8_50 H9_50 H10_50 H11_50 H12_50 H13_50 H14_50 H15_50 H16_50 H17_50 R51 (by omega)
            exact loop4 (own_mx (own_r s0 s1 s2 q0 q1 q2) n) 0 T5 _ _ X5 e5 N1 K1 H0 H1 H2 H3 H4 H5 H6 H7 H8 H9 H10 H11 H12 H13 H14 H15 H16 H17 R6 (by omega)
          | succ d ih =>
            intro a T1 locs1 h1 X1 e1 N1 K1 H0 H1 H2 H3 H4 H5 H6 H7 H8 H9 H10 H11 H12 H13 H14 H15 H16 H17 H18 had
            have Z1 : n0 ≤ h1.size := Nat.le_trans Z0 K1.1
            refine own_go (fun t_ k_ => XS.iload X1.here hx rfl (hb hby d4_123) rfl k_) ?_
            show OwnFin p e below s _ _ _ (T1.setTop (mkF m 125 #[rv fo, rv aR, iv pj, iv (Int32.ofNat (own_mx (own_r s0 s1 s2 q0 q1 q2) n)), iv (Int32.ofNat a), l5, .unset, .unset] [(.int (Int32.ofNat a))]))
            refine own_go (fun t_ k_ => XS.aloadN X1.here hx rfl (hb hby d4_125) rfl rfl k_) ?_
            show OwnFin p e below s _ _ _ (T1.setTop (mkF m 126 #[rv fo, rv aR, iv pj, iv (Int32.ofNat (own_mx (own_r s0 s1 s2 q0 q1 q2) n)), iv (Int32.ofNat a), l5, .unset, .unset] [(.ref fo), (.int (Int32.ofNat a))]))
            obtain ⟨T52, X52, e52, st52⟩ := getF X1 hx hZ hown (host := "") (Or.inl (hw _ (List.mem_of_getElem? (i := 33) rfl))) Via.refl e1 H7 (g := (mkF m 126 #[rv fo, rv aR, iv pj, iv (Int32.ofNat (own_mx (own_r s0 s1 s2 q0 q1 q2) n)), iv (Int32.ofNat a), l5, .unset, .unset] [(.ref fo), (.int (Int32.ofNat a))])) rfl rfl (hb hby d4_126)
            refine own_go st52 ?_
            show OwnFin p e below s _ _ _ (T52.setTop (mkF m 129 #[rv fo, rv aR, iv pj, iv (Int32.ofNat (own_mx (own_r s0 s1 s2 q0 q1 q2) n)), iv (Int32.ofNat a), l5, .unset, .unset] [(.int (Int32.ofNat n)), (.int (Int32.ofNat a))]))
            have hc129 : (Int32.ofNat a) < (Int32.ofNat n) := by rw [own_ltN (by omega) (by omega)]; omega
            refine own_go (fun t_ k_ => XS.icmpNo X52.here hx rfl (hb hby d4_129) rfl (tlt hc129).2.1 k_) ?_
            show OwnFin p e below s _ _ _ (T52.setTop (mkF m 132 #[rv fo, rv aR, iv pj, iv (Int32.ofNat (own_mx (own_r s0 s1 s2 q0 q1 q2) n)), iv (Int32.ofNat a), l5, .unset, .unset] []))
            refine own_go (fun t_ k_ => XS.aloadN X52.here hx rfl (hb hby d4_132) rfl rfl k_) ?_
            show OwnFin p e below s _ _ _ (T52.setTop (mkF m 133 #[rv fo, rv aR, iv pj, iv (Int32.ofNat (own_mx (own_r s0 s1 s2 q0 q1 q2) n)), iv (Int32.ofNat a), l5, .unset, .unset] [(.ref fo)]))
            obtain ⟨T53, X53, e53, st53⟩ := getF X52 hx hZ hown (host := "") (Or.inl (hw _ (List.mem_of_getElem? (i := 15) rfl))) Via.refl e52 H1 (g := (mkF m 133 #[rv fo, rv aR, iv pj, iv (Int32.ofNat (own_mx (own_r s0 s1 s2 q0 q1 q2) n)), iv (Int32.ofNat a), l5, .unset, .unset] [(.ref fo)])) rfl rfl (hb hby d4_133)
            refine own_go st53 ?_
            show OwnFin p e below s _ _ _ (T53.setTop (mkF m 136 #[rv fo, rv aR, iv pj, iv (Int32.ofNat (own_mx (own_r s0 s1 s2 q0 q1 q2) n)), iv (Int32.ofNat a), l5, .unset, .unset] [(.ref aW)]))
            refine own_go (fun t_ k_ => XS.aloadN X53.here hx rfl (hb hby d4_136) rfl rfl k_) ?_
            show OwnFin p e below s _ _ _ (T53.setTop (mkF m 137 #[rv fo, rv aR, iv pj, iv (Int32.ofNat (own_mx (own_r s0 s1 s2 q0 q1 q2) n)), iv (Int32.ofNat a), l5, .unset, .unset] [(.ref fo), (.ref aW)]))
            obtain ⟨T54, X54, e54, st54⟩ := getF X53 hx hZ hown (host := "") (Or.inl (hw _ (List.mem_of_getElem? (i := 22) rfl))) Via.refl e53 H4 (g := (mkF m 137 #[rv fo, rv aR, iv pj, iv (Int32.ofNat (own_mx (own_r s0 s1 s2 q0 q1 q2) n)), iv (Int32.ofNat a), l5, .unset, .unset] [(.ref fo), (.ref aW)])) rfl rfl (hb hby d4_137)
            refine own_go st54 ?_
            show OwnFin p e below s _ _ _ (T54.setTop (mkF m 140 #[rv fo, rv aR, iv pj, iv (Int32.ofNat (own_mx (own_r s0 s1 s2 q0 q1 q2) n)), iv (Int32.ofNat a), l5, .unset, .unset] [(.ref aT), (.ref aW)]))
            refine own_go (fun t_ k_ => XS.iload X54.here hx rfl (hb hby d4_140) rfl k_) ?_
            show OwnFin p e below s _ _ _ (T54.setTop (mkF m 142 #[rv fo, rv aR, iv pj, iv (Int32.ofNat (own_mx (own_r s0 s1 s2 q0 q1 q2) n)), iv (Int32.ofNat a), l5, .unset, .unset] [(.int (Int32.ofNat a)), (.ref aT), (.ref aW)]))
            have hl55 := own_laload X54 hx hZ e54 H14 (i := a) rfl (by omega) (g := (mkF m 142 #[rv fo, rv aR, iv pj, iv (Int32.ofNat (own_mx (own_r s0 s1 s2 q0 q1 q2) n)), iv (Int32.ofNat a), l5, .unset, .unset] [(.int (Int32.ofNat a)), (.ref aT), (.ref aW)])) rfl rfl (hb hby d4_142)
            rw [hT a (by omega)] at hl55
            refine own_go hl55 ?_
            show OwnFin p e below s _ _ _ (T54.setTop (mkF m 143 #[rv fo, rv aR, iv pj, iv (Int32.ofNat (own_mx (own_r s0 s1 s2 q0 q1 q2) n)), iv (Int32.ofNat a), l5, .unset, .unset] [(.long ((own_Ks s0 s1 s2 q0 q1 q2) a)), (.ref aW)]))
            refine own_go (fun t_ k_ => XS.bipush X54.here hx rfl (hb hby d4_143) k_) ?_
            show OwnFin p e below s _ _ _ (T54.setTop (mkF m 145 #[rv fo, rv aR, iv pj, iv (Int32.ofNat (own_mx (own_r s0 s1 s2 q0 q1 q2) n)), iv (Int32.ofNat a), l5, .unset, .unset] [(.int (32 : Int32)), (.long ((own_Ks s0 s1 s2 q0 q1 q2) a)), (.ref aW)]))
            refine own_go (fun t_ k_ => XS.lushr X54.here hx rfl (hb hby d4_145) rfl k_) ?_
            show OwnFin p e below s _ _ _ (T54.setTop (mkF m 146 #[rv fo, rv aR, iv pj, iv (Int32.ofNat (own_mx (own_r s0 s1 s2 q0 q1 q2) n)), iv (Int32.ofNat a), l5, .unset, .unset] [(.long ((((own_Ks s0 s1 s2 q0 q1 q2) a).toUInt64 >>> ((32 : Int32) &&& 0x3f).toInt64.toUInt64).toInt64)), (.ref aW)]))
            refine own_go (fun t_ k_ => XS.l2i X54.here hx rfl (hb hby d4_146) rfl k_) ?_
            show OwnFin p e below s _ _ _ (T54.setTop (mkF m 147 #[rv fo, rv aR, iv pj, iv (Int32.ofNat (own_mx (own_r s0 s1 s2 q0 q1 q2) n)), iv (Int32.ofNat a), l5, .unset, .unset] [(.int (((((own_Ks s0 s1 s2 q0 q1 q2) a).toUInt64 >>> ((32 : Int32) &&& 0x3f).toInt64.toUInt64).toInt64).toInt32)), (.ref aW)]))
            refine own_go (fun t_ k_ => XS.iconst X54.here hx rfl (hb hby d4_147) k_) ?_
            show OwnFin p e below s _ _ _ (T54.setTop (mkF m 148 #[rv fo, rv aR, iv pj, iv (Int32.ofNat (own_mx (own_r s0 s1 s2 q0 q1 q2) n)), iv (Int32.ofNat a), l5, .unset, .unset] [(.int (1 : Int32)), (.int (((((own_Ks s0 s1 s2 q0 q1 q2) a).toUInt64 >>> ((32 : Int32) &&& 0x3f).toInt64.toUInt64).toInt64).toInt32)), (.ref aW)]))
            refine own_go (fun t_ k_ => XS.iadd X54.here hx rfl (hb hby d4_148) rfl k_) ?_
            show OwnFin p e below s _ _ _ (T54.setTop (mkF m 149 #[rv fo, rv aR, iv pj, iv (Int32.ofNat (own_mx (own_r s0 s1 s2 q0 q1 q2) n)), iv (Int32.ofNat a), l5, .unset, .unset] [(.int ((((((own_Ks s0 s1 s2 q0 q1 q2) a).toUInt64 >>> ((32 : Int32) &&& 0x3f).toInt64.toUInt64).toInt64).toInt32) + (1 : Int32))), (.ref aW)]))
            have hhi : (((((own_Ks s0 s1 s2 q0 q1 q2) a).toUInt64 >>> ((32 : Int32) &&& 0x3f).toInt64.toUInt64).toInt64)).toInt32 + (1 : Int32) = Int32.ofNat ((own_r s0 s1 s2 q0 q1 q2) a + 1) := by rw [show ((((own_Ks s0 s1 s2 q0 q1 q2) a).toUInt64 >>> ((32 : Int32) &&& 0x3f).toInt64.toUInt64).toInt64).toInt32 = Int32.ofNat ((own_r s0 s1 s2 q0 q1 q2) a) from own_hi_all _ (hR a) _ (hS a)]; exact own_addN _ 1
            rw [hhi]
            show OwnFin p e below s _ _ _ (T54.setTop (mkF m 149 #[rv fo, rv aR, iv pj, iv (Int32.ofNat (own_mx (own_r s0 s1 s2 q0 q1 q2) n)), iv (Int32.ofNat a), l5, .unset, .unset] [(.int (Int32.ofNat ((own_r s0 s1 s2 q0 q1 q2) a + 1))), (.ref aW)]))
            refine own_go (fun t_ k_ => Jvm.Free.XT.dup2 X54.here hx rfl (hb hby d4_149) rfl rfl rfl k_) ?_
            show OwnFin p e below s _ _ _ (T54.setTop (mkF m 150 #[rv fo, rv aR, iv pj, iv (Int32.ofNat (own_mx (own_r s0 s1 s2 q0 q1 q2) n)), iv (Int32.ofNat a), l5, .unset, .unset] [(.int (Int32.ofNat ((own_r s0 s1 s2 q0 q1 q2) a + 1))), (.ref aW), (.int (Int32.ofNat ((own_r s0 s1 s2 q0 q1 q2) a + 1))), (.ref aW)]))
            refine own_go (own_iaload X54 hx hZ e54 H18 (i := ((own_r s0 s1 s2 q0 q1 q2) a + 1)) rfl (by have h := own_mx_le (r := (own_r s0 s1 s2 q0 q1 q2)) n a (by omega); omega) (g := (mkF m 150 #[rv fo, rv aR, iv pj, iv (Int32.ofNat (own_mx (own_r s0 s1 s2 q0 q1 q2) n)), iv (Int32.ofNat a), l5, .unset, .unset] [(.int (Int32.ofNat ((own_r s0 s1 s2 q0 q1 q2) a + 1))), (.ref aW), (.int (Int32.ofNat ((own_r s0 s1 s2 q0 q1 q2) a + 1))), (.ref aW)])) rfl rfl (hb hby d4_150)) ?_
            show OwnFin p e below s _ _ _ (T54.setTop (mkF m 151 #[rv fo, rv aR, iv pj, iv (Int32.ofNat (own_mx (own_r s0 s1 s2 q0 q1 q2) n)), iv (Int32.ofNat a), l5, .unset, .unset] [(.int (own_m3 (own_r s0 s1 s2 q0 q1 q2) a ((own_r s0 s1 s2 q0 q1 q2) a + 1))), (.int (Int32.ofNat ((own_r s0 s1 s2 q0 q1 q2) a + 1))), (.ref aW)]))
            refine own_go (fun t_ k_ => XS.iconst X54.here hx rfl (hb hby d4_151) k_) ?_
            show OwnFin p e below s _ _ _ (T54.setTop (mkF m 152 #[rv fo, rv aR, iv pj, iv (Int32.ofNat (own_mx (own_r s0 s1 s2 q0 q1 q2) n)), iv (Int32.ofNat a), l5, .unset, .unset] [(.int (1 : Int32)), (.int (own_m3 (own_r s0 s1 s2 q0 q1 q2) a ((own_r s0 s1 s2 q0 q1 q2) a + 1))), (.int (Int32.ofNat ((own_r s0 s1 s2 q0 q1 q2) a + 1))), (.ref aW)]))
            refine own_go (fun t_ k_ => XS.iadd X54.here hx rfl (hb hby d4_152) rfl k_) ?_
            show OwnFin p e below s _ _ _ (T54.setTop (mkF m 153 #[rv fo, rv aR, iv pj, iv (Int32.ofNat (own_mx (own_r s0 s1 s2 q0 q1 q2) n)), iv (Int32.ofNat a), l5, .unset, .unset] [(.int ((own_m3 (own_r s0 s1 s2 q0 q1 q2) a ((own_r s0 s1 s2 q0 q1 q2) a + 1)) + (1 : Int32))), (.int (Int32.ofNat ((own_r s0 s1 s2 q0 q1 q2) a + 1))), (.ref aW)]))
            obtain ⟨T56, h56, X56, e56, W56, A56, st56⟩ := own_iastore X54 hx hZ e54 H18 (i := ((own_r s0 s1 s2 q0 q1 q2) a + 1)) rfl (by have h := own_mx_le (r := (own_r s0 s1 s2 q0 q1 q2)) n a (by omega); omega) (g := (mkF m 153 #[rv fo, rv aR, iv pj, iv (Int32.ofNat (own_mx (own_r s0 s1 s2 q0 q1 q2) n)), iv (Int32.ofNat a), l5, .unset, .unset] [(.int ((own_m3 (own_r s0 s1 s2 q0 q1 q2) a ((own_r s0 s1 s2 q0 q1 q2) a + 1)) + (1 : Int32))), (.int (Int32.ofNat ((own_r s0 s1 s2 q0 q1 q2) a + 1))), (.ref aW)])) rfl rfl (hb hby d4_153)
            have H0_56 := H0.wr W56
            have H1_56 := H1.other W56 (Or.inl ne_fo_aW)
            have H2_56 := H2.other W56 (Or.inl ne_fo_aW)
            have H3_56 := H3.other W56 (Or.inl ne_fo_aW)
            have H4_56 := H4.other W56 (Or.inl ne_fo_aW)
            have H5_56 := H5.other W56 (Or.inl ne_fo_aW)
            have H6_56 := H6.other W56 (Or.inl ne_fo_aW)
            have H7_56 := H7.other W56 (Or.inl ne_fo_aW)
            have H8_56 := H8.other W56 (Or.inl ne_fo_aW)
            have H9_56 := H9.other W56 (Or.inl ne_fo_aW)
            have H10_56 := H10.other W56 (Or.inl ne_fo_aW)
            have H11_56 := H11.other W56 (Or.inl ne_fo_aW)
            have H12_56 := H12.other W56 ne_aB_aW
            have H13_56 := H13.other W56 ne_aK_aW
            have H14_56 := H14.other W56 ne_aT_aW
            have H15_56 := H15.other W56 ne_aP_aW
            have H16_56 := H16.other W56 ne_aO_aW
            have H17_56 := H17.other W56 ne_aR_aW
            have Z56 : n0 ≤ h56.size := Nat.le_trans Z1 (Keep.of_wr W56).1
            have K56 : Keep h0 h56 [fo, aS, aB, aK, aT, aP, aO] := K1.wr W56 hKw
            have N56 := Fr.snoc X56 N1 g_aW
            refine own_go st56 ?_
            show OwnFin p e below s _ _ _ (T56.setTop (mkF m 154 #[rv fo, rv aR, iv pj, iv (Int32.ofNat (own_mx (own_r s0 s1 s2 q0 q1 q2) n)), iv (Int32.ofNat a), l5, .unset, .unset] []))
            refine own_go (fun t_ k_ => XS.iinc X56.here hx rfl (hb hby d4_154) rfl (l' := #[rv fo, rv aR, iv pj, iv (Int32.ofNat (own_mx (own_r s0 s1 s2 q0 q1 q2) n)), iv ((Int32.ofNat a) + (1 : Int32)), l5, .unset, .unset]) rfl k_) ?_
            show OwnFin p e below s _ _ _ (T56.setTop (mkF m 157 #[rv fo, rv aR, iv pj, iv (Int32.ofNat (own_mx (own_r s0 s1 s2 q0 q1 q2) n)), iv ((Int32.ofNat a) + (1 : Int32)), l5, .unset, .unset] []))
            refine own_go (fun t_ k_ => XS.goto X56.here hx rfl (pc0 := 157) (pc' := 123) rfl (hb hby d4_157) (by decide) (by decide) k_) ?_
            show OwnFin p e below s _ _ _ (T56.setTop (mkF m 123 #[rv fo, rv aR, iv pj, iv (Int32.ofNat (own_mx (own_r s0 s1 s2 q0 q1 q2) n)), iv ((Int32.ofNat a) + (1 : Int32)), l5, .unset, .unset] []))
            have R57 : OwnArr Z h56 aW .int nS (fun j => .int (own_m3 (own_r s0 s1 s2 q0 q1 q2) (a + 1) j)) := A56.congr (fun z hz => by show _ = Value.int (if z = _ then _ else _); split <;> rfl)
            have einc : Int32.ofNat a + (1 : Int32) = Int32.ofNat (a + 1) := (inc_ofNat a).symm
            rw [einc]
            exact ih (a + 1) T56 _ _ X56 e56 N56 K56 H0_56 H1_56 H2_56 H3_56 H4_56 H5_56 H6_56 H7_56 H8_56 H9_56 H10_56 H11_56 H12_56 H13_56 H14_56 H15_56 H16_56 H17_56 R57 (by omega)
        exact loop3 n 0 T3 _ _ X3 rfl N3 K3 H0_3 H1_3 H2_3 H3_3 H4_3 H5_3 H6_3 H7_3 H8_3 H9_3 H10_3 H11_3 H13_3 H14_3 H15_3 H16_3 H17_3 H18_3 R4 (by omega)
      by_cases hM0 : (own_mx (own_r s0 s1 s2 q0 q1 q2) n) = 0
      · have hM2 : Int32.ofNat (own_mx (own_r s0 s1 s2 q0 q1 q2) n) + (2 : Int32) = Int32.ofNat ((own_mx (own_r s0 s1 s2 q0 q1 q2) n) + 2) := own_addN _ 2
        refine own_go (fun t_ k_ => XS.iloadN X1.here hx rfl (hb hby d4_78) rfl k_) ?_
        show OwnFin p e below s _ _ _ (T1.setTop (mkF m 79 #[rv fo, rv aR, iv pj, iv (Int32.ofNat (own_mx (own_r s0 s1 s2 q0 q1 q2) n)), iv (Int32.ofNat n), l5, .unset, .unset] [(.int (Int32.ofNat (own_mx (own_r s0 s1 s2 q0 q1 q2) n)))]))
        refine own_go (fun t_ k_ => XS.iconst X1.here hx rfl (hb hby d4_79) k_) ?_
        show OwnFin p e below s _ _ _ (T1.setTop (mkF m 80 #[rv fo, rv aR, iv pj, iv (Int32.ofNat (own_mx (own_r s0 s1 s2 q0 q1 q2) n)), iv (Int32.ofNat n), l5, .unset, .unset] [(.int (2 : Int32)), (.int (Int32.ofNat (own_mx (own_r s0 s1 s2 q0 q1 q2) n)))]))
        refine own_go (fun t_ k_ => XS.iadd X1.here hx rfl (hb hby d4_80) rfl k_) ?_
        show OwnFin p e below s _ _ _ (T1.setTop (mkF m 81 #[rv fo, rv aR, iv pj, iv (Int32.ofNat (own_mx (own_r s0 s1 s2 q0 q1 q2) n)), iv (Int32.ofNat n), l5, .unset, .unset] [(.int ((Int32.ofNat (own_mx (own_r s0 s1 s2 q0 q1 q2) n)) + (2 : Int32)))]))
        refine own_go (fun t_ k_ => XS.aloadN X1.here hx rfl (hb hby d4_81) rfl rfl k_) ?_
        show OwnFin p e below s _ _ _ (T1.setTop (mkF m 82 #[rv fo, rv aR, iv pj, iv (Int32.ofNat (own_mx (own_r s0 s1 s2 q0 q1 q2) n)), iv (Int32.ofNat n), l5, .unset, .unset] [(.ref fo), (.int ((Int32.ofNat (own_mx (own_r s0 s1 s2 q0 q1 q2) n)) + (2 : Int32)))]))
        obtain ⟨T58, X58, e58, st58⟩ := getF X1 hx hZ hown (host := "") (Or.inl (hw _ (List.mem_of_getElem? (i := 15) rfl))) Via.refl e1 H1 (g := (mkF m 82 #[rv fo, rv aR, iv pj, iv (Int32.ofNat (own_mx (own_r s0 s1 s2 q0 q1 q2) n)), iv (Int32.ofNat n), l5, .unset, .unset] [(.ref fo), (.int ((Int32.ofNat (own_mx (own_r s0 s1 s2 q0 q1 q2) n)) + (2 : Int32)))])) rfl rfl (hb hby d4_82)
        refine own_go st58 ?_
        show OwnFin p e below s _ _ _ (T58.setTop (mkF m 85 #[rv fo, rv aR, iv pj, iv (Int32.ofNat (own_mx (own_r s0 s1 s2 q0 q1 q2) n)), iv (Int32.ofNat n), l5, .unset, .unset] [(.ref aS), (.int ((Int32.ofNat (own_mx (own_r s0 s1 s2 q0 q1 q2) n)) + (2 : Int32)))]))
        refine own_go (own_alength X58 hx hZ e58 H12 (g := (mkF m 85 #[rv fo, rv aR, iv pj, iv (Int32.ofNat (own_mx (own_r s0 s1 s2 q0 q1 q2) n)), iv (Int32.ofNat n), l5, .unset, .unset] [(.ref aS), (.int ((Int32.ofNat (own_mx (own_r s0 s1 s2 q0 q1 q2) n)) + (2 : Int32)))])) rfl rfl (hb hby d4_85)) ?_
        show OwnFin p e below s _ _ _ (T58.setTop (mkF m 86 #[rv fo, rv aR, iv pj, iv (Int32.ofNat (own_mx (own_r s0 s1 s2 q0 q1 q2) n)), iv (Int32.ofNat n), l5, .unset, .unset] [(.int (2 : Int32)), (.int ((Int32.ofNat (own_mx (own_r s0 s1 s2 q0 q1 q2) n)) + (2 : Int32)))]))
        have hc86 : ¬ ((2 : Int32) < ((Int32.ofNat (own_mx (own_r s0 s1 s2 q0 q1 q2) n)) + (2 : Int32))) := by rw [hM2, show (2 : Int32) = Int32.ofNat 2 from rfl, own_ltN (by omega) (by omega)]; omega
        refine own_go (fun t_ k_ => XS.icmpYes X58.here hx rfl (pc0 := 86) (pc' := 108) rfl (hb hby d4_86) rfl (flt hc86).2.2.2 (by decide) (by decide) k_) ?_
        show OwnFin p e below s _ _ _ (T58.setTop (mkF m 108 #[rv fo, rv aR, iv pj, iv (Int32.ofNat (own_mx (own_r s0 s1 s2 q0 q1 q2) n)), iv (Int32.ofNat n), l5, .unset, .unset] []))
        exact tl aS 2 0 0 T58 _ _ X58 e58 N1 K1 H0 H1 H2 H3 H4 H5 H6 H7 H8 H9 H10 H11 H12 H13 H14 H15 H16 H17 H18 (by decide) (by decide) (by omega) (by decide) g_aS (Or.inl (List.mem_of_getElem? (i := 1) rfl)) ne_fo_aS (Ne.symm ne_aS_aB) (Ne.symm ne_aS_aK) (Ne.symm ne_aS_aT) (Ne.symm ne_aS_aP) (Ne.symm ne_aS_aO) (Ne.symm ne_aS_aR)
      · have hM2 : Int32.ofNat (own_mx (own_r s0 s1 s2 q0 q1 q2) n) + (2 : Int32) = Int32.ofNat ((own_mx (own_r s0 s1 s2 q0 q1 q2) n) + 2) := own_addN _ 2
        refine own_go (fun t_ k_ => XS.iloadN X1.here hx rfl (hb hby d4_78) rfl k_) ?_
        show OwnFin p e below s _ _ _ (T1.setTop (mkF m 79 #[rv fo, rv aR, iv pj, iv (Int32.ofNat (own_mx (own_r s0 s1 s2 q0 q1 q2) n)), iv (Int32.ofNat n), l5, .unset, .unset] [(.int (Int32.ofNat (own_mx (own_r s0 s1 s2 q0 q1 q2) n)))]))
        refine own_go (fun t_ k_ => XS.iconst X1.here hx rfl (hb hby d4_79) k_) ?_
        show OwnFin p e below s _ _ _ (T1.setTop (mkF m 80 #[rv fo, rv aR, iv pj, iv (Int32.ofNat (own_mx (own_r s0 s1 s2 q0 q1 q2) n)), iv (Int32.ofNat n), l5, .unset, .unset] [(.int (2 : Int32)), (.int (Int32.ofNat (own_mx (own_r s0 s1 s2 q0 q1 q2) n)))]))
        refine own_go (fun t_ k_ => XS.iadd X1.here hx rfl (hb hby d4_80) rfl k_) ?_
        show OwnFin p e below s _ _ _ (T1.setTop (mkF m 81 #[rv fo, rv aR, iv pj, iv (Int32.ofNat (own_mx (own_r s0 s1 s2 q0 q1 q2) n)), iv (Int32.ofNat n), l5, .unset, .unset] [(.int ((Int32.ofNat (own_mx (own_r s0 s1 s2 q0 q1 q2) n)) + (2 : Int32)))]))
        refine own_go (fun t_ k_ => XS.aloadN X1.here hx rfl (hb hby d4_81) rfl rfl k_) ?_
        show OwnFin p e below s _ _ _ (T1.setTop (mkF m 82 #[rv fo, rv aR, iv pj, iv (Int32.ofNat (own_mx (own_r s0 s1 s2 q0 q1 q2) n)), iv (Int32.ofNat n), l5, .unset, .unset] [(.ref fo), (.int ((Int32.ofNat (own_mx (own_r s0 s1 s2 q0 q1 q2) n)) + (2 : Int32)))]))
        obtain ⟨T59, X59, e59, st59⟩ := getF X1 hx hZ hown (host := "") (Or.inl (hw _ (List.mem_of_getElem? (i := 15) rfl))) Via.refl e1 H1 (g := (mkF m 82 #[rv fo, rv aR, iv pj, iv (Int32.ofNat (own_mx (own_r s0 s1 s2 q0 q1 q2) n)), iv (Int32.ofNat n), l5, .unset, .unset] [(.ref fo), (.int ((Int32.ofNat (own_mx (own_r s0 s1 s2 q0 q1 q2) n)) + (2 : Int32)))])) rfl rfl (hb hby d4_82)
        refine own_go st59 ?_
        show OwnFin p e below s _ _ _ (T59.setTop (mkF m 85 #[rv fo, rv aR, iv pj, iv (Int32.ofNat (own_mx (own_r s0 s1 s2 q0 q1 q2) n)), iv (Int32.ofNat n), l5, .unset, .unset] [(.ref aS), (.int ((Int32.ofNat (own_mx (own_r s0 s1 s2 q0 q1 q2) n)) + (2 : Int32)))]))
        refine own_go (own_alength X59 hx hZ e59 H12 (g := (mkF m 85 #[rv fo, rv aR, iv pj, iv (Int32.ofNat (own_mx (own_r s0 s1 s2 q0 q1 q2) n)), iv (Int32.ofNat n), l5, .unset, .unset] [(.ref aS), (.int ((Int32.ofNat (own_mx (own_r s0 s1 s2 q0 q1 q2) n)) + (2 : Int32)))])) rfl rfl (hb hby d4_85)) ?_
        show OwnFin p e below s _ _ _ (T59.setTop (mkF m 86 #[rv fo, rv aR, iv pj, iv (Int32.ofNat (own_mx (own_r s0 s1 s2 q0 q1 q2) n)), iv (Int32.ofNat n), l5, .unset, .unset] [(.int (2 : Int32)), (.int ((Int32.ofNat (own_mx (own_r s0 s1 s2 q0 q1 q2) n)) + (2 : Int32)))]))
        have hc86 : (2 : Int32) < ((Int32.ofNat (own_mx (own_r s0 s1 s2 q0 q1 q2) n)) + (2 : Int32)) := by rw [hM2, show (2 : Int32) = Int32.ofNat 2 from rfl, own_ltN (by omega) (by omega)]; omega
        refine own_go (fun t_ k_ => XS.icmpNo X59.here hx rfl (hb hby d4_86) rfl (tlt hc86).2.2.2 k_) ?_
        show OwnFin p e below s _ _ _ (T59.setTop (mkF m 89 #[rv fo, rv aR, iv pj, iv (Int32.ofNat (own_mx (own_r s0 s1 s2 q0 q1 q2) n)), iv (Int32.ofNat n), l5, .unset, .unset] []))
        refine own_go (fun t_ k_ => XS.aloadN X59.here hx rfl (hb hby d4_89) rfl rfl k_) ?_
        show OwnFin p e below s _ _ _ (T59.setTop (mkF m 90 #[rv fo, rv aR, iv pj, iv (Int32.ofNat (own_mx (own_r s0 s1 s2 q0 q1 q2) n)), iv (Int32.ofNat n), l5, .unset, .unset] [(.ref fo)]))
        refine own_go (fun t_ k_ => XS.iloadN X59.here hx rfl (hb hby d4_90) rfl k_) ?_
        show OwnFin p e below s _ _ _ (T59.setTop (mkF m 91 #[rv fo, rv aR, iv pj, iv (Int32.ofNat (own_mx (own_r s0 s1 s2 q0 q1 q2) n)), iv (Int32.ofNat n), l5, .unset, .unset] [(.int (Int32.ofNat (own_mx (own_r s0 s1 s2 q0 q1 q2) n))), (.ref fo)]))
        refine own_go (fun t_ k_ => XS.iconst X59.here hx rfl (hb hby d4_91) k_) ?_
        show OwnFin p e below s _ _ _ (T59.setTop (mkF m 92 #[rv fo, rv aR, iv pj, iv (Int32.ofNat (own_mx (own_r s0 s1 s2 q0 q1 q2) n)), iv (Int32.ofNat n), l5, .unset, .unset] [(.int (2 : Int32)), (.int (Int32.ofNat (own_mx (own_r s0 s1 s2 q0 q1 q2) n))), (.ref fo)]))
        refine own_go (fun t_ k_ => XS.iadd X59.here hx rfl (hb hby d4_92) rfl k_) ?_
        show OwnFin p e below s _ _ _ (T59.setTop (mkF m 93 #[rv fo, rv aR, iv pj, iv (Int32.ofNat (own_mx (own_r s0 s1 s2 q0 q1 q2) n)), iv (Int32.ofNat n), l5, .unset, .unset] [(.int ((Int32.ofNat (own_mx (own_r s0 s1 s2 q0 q1 q2) n)) + (2 : Int32))), (.ref fo)]))
        refine own_go (fun t_ k_ => XS.iconst X59.here hx rfl (hb hby d4_93) k_) ?_
        show OwnFin p e below s _ _ _ (T59.setTop (mkF m 94 #[rv fo, rv aR, iv pj, iv (Int32.ofNat (own_mx (own_r s0 s1 s2 q0 q1 q2) n)), iv (Int32.ofNat n), l5, .unset, .unset] [(.int (2 : Int32)), (.int ((Int32.ofNat (own_mx (own_r s0 s1 s2 q0 q1 q2) n)) + (2 : Int32))), (.ref fo)]))
        refine own_go (fun t_ k_ => XS.aloadN X59.here hx rfl (hb hby d4_94) rfl rfl k_) ?_
        show OwnFin p e below s _ _ _ (T59.setTop (mkF m 95 #[rv fo, rv aR, iv pj, iv (Int32.ofNat (own_mx (own_r s0 s1 s2 q0 q1 q2) n)), iv (Int32.ofNat n), l5, .unset, .unset] [(.ref fo), (.int (2 : Int32)), (.int ((Int32.ofNat (own_mx (own_r s0 s1 s2 q0 q1 q2) n)) + (2 : Int32))), (.ref fo)]))
        obtain ⟨T60, X60, e60, st60⟩ := getF X59 hx hZ hown (host := "") (Or.inl (hw _ (List.mem_of_getElem? (i := 15) rfl))) Via.refl e59 H1 (g := (mkF m 95 #[rv fo, rv aR, iv pj, iv (Int32.ofNat (own_mx (own_r s0 s1 s2 q0 q1 q2) n)), iv (Int32.ofNat n), l5, .unset, .unset] [(.ref fo), (.int (2 : Int32)), (.int ((Int32.ofNat (own_mx (own_r s0 s1 s2 q0 q1 q2) n)) + (2 : Int32))), (.ref fo)])) rfl rfl (hb hby d4_95)
        refine own_go st60 ?_
        show OwnFin p e below s _ _ _ (T60.setTop (mkF m 98 #[rv fo, rv aR, iv pj, iv (Int32.ofNat (own_mx (own_r s0 s1 s2 q0 q1 q2) n)), iv (Int32.ofNat n), l5, .unset, .unset] [(.ref aS), (.int (2 : Int32)), (.int ((Int32.ofNat (own_mx (own_r s0 s1 s2 q0 q1 q2) n)) + (2 : Int32))), (.ref fo)]))
        refine own_go (own_alength X60 hx hZ e60 H12 (g := (mkF m 98 #[rv fo, rv aR, iv pj, iv (Int32.ofNat (own_mx (own_r s0 s1 s2 q0 q1 q2) n)), iv (Int32.ofNat n), l5, .unset, .unset] [(.ref aS), (.int (2 : Int32)), (.int ((Int32.ofNat (own_mx (own_r s0 s1 s2 q0 q1 q2) n)) + (2 : Int32))), (.ref fo)])) rfl rfl (hb hby d4_98)) ?_
        show OwnFin p e below s _ _ _ (T60.setTop (mkF m 99 #[rv fo, rv aR, iv pj, iv (Int32.ofNat (own_mx (own_r s0 s1 s2 q0 q1 q2) n)), iv (Int32.ofNat n), l5, .unset, .unset] [(.int (2 : Int32)), (.int (2 : Int32)), (.int ((Int32.ofNat (own_mx (own_r s0 s1 s2 q0 q1 q2) n)) + (2 : Int32))), (.ref fo)]))
        refine own_go (fun t_ k_ => XS.imul X60.here hx rfl (hb hby d4_99) rfl k_) ?_
        show OwnFin p e below s _ _ _ (T60.setTop (mkF m 100 #[rv fo, rv aR, iv pj, iv (Int32.ofNat (own_mx (own_r s0 s1 s2 q0 q1 q2) n)), iv (Int32.ofNat n), l5, .unset, .unset] [(.int (4 : Int32)), (.int ((Int32.ofNat (own_mx (own_r s0 s1 s2 q0 q1 q2) n)) + (2 : Int32))), (.ref fo)]))
        obtain ⟨v61, T61, L61, X61, hQ61, st61⟩ := own_callS X60 hx hZ (y := (⟨"java/lang/Math", "max", "(II)I"⟩ : MethodName)) hown (hw _ (List.mem_of_getElem? (i := 66) rfl)) (hw _ (List.mem_of_getElem? (i := 67) rfl)) (hw _ (List.mem_of_getElem? (i := 68) rfl)) (hw _ (List.mem_of_getElem? (i := 69) rfl)) (by decide) (W := 1) (rm11 l Z a0 hw [] ((Int32.ofNat (own_mx (own_r s0 s1 s2 q0 q1 q2) n)) + (2 : Int32)) (4 : Int32) h1 n0 Z1) (by decide) (by decide) (g := (mkF m 100 #[rv fo, rv aR, iv pj, iv (Int32.ofNat (own_mx (own_r s0 s1 s2 q0 q1 q2) n)), iv (Int32.ofNat n), l5, .unset, .unset] [(.int (4 : Int32)), (.int ((Int32.ofNat (own_mx (own_r s0 s1 s2 q0 q1 q2) n)) + (2 : Int32))), (.ref fo)])) rfl (by rw [hml]; rfl) (argsL := [(.int ((Int32.ofNat (own_mx (own_r s0 s1 s2 q0 q1 q2) n)) + (2 : Int32))), (.int (4 : Int32))]) (rest := [(.ref fo)]) (lenOf pd_4_9 rfl) rfl (by show 2 * 0 + _ ≤ _; exact Nat.le_of_eq rfl) (hb hby d4_100) e60 rfl (by decide) (by decide)
        obtain ⟨rfl, Nq61, e61⟩ := hQ61
        have N61 := Fr.app N1 Nq61
        refine own_go st61 ?_
        show OwnFin p e below s _ _ _ (T61.setTop (mkF m 103 #[rv fo, rv aR, iv pj, iv (Int32.ofNat (own_mx (own_r s0 s1 s2 q0 q1 q2) n)), iv (Int32.ofNat n), l5, .unset, .unset] [(.int (own_max ((Int32.ofNat (own_mx (own_r s0 s1 s2 q0 q1 q2) n)) + (2 : Int32)) (4 : Int32))), (.ref fo)]))
        rw [hM2]
        have hmx : own_max (Int32.ofNat ((own_mx (own_r s0 s1 s2 q0 q1 q2) n) + 2)) (4 : Int32) = Int32.ofNat (max ((own_mx (own_r s0 s1 s2 q0 q1 q2) n) + 2) 4) := own_maxN (a := (own_mx (own_r s0 s1 s2 q0 q1 q2) n) + 2) (b := 4) (by omega) (by decide)
        rw [hmx]
        show OwnFin p e below s _ _ _ (T61.setTop (mkF m 103 #[rv fo, rv aR, iv pj, iv (Int32.ofNat (own_mx (own_r s0 s1 s2 q0 q1 q2) n)), iv (Int32.ofNat n), l5, .unset, .unset] [(.int (Int32.ofNat (max ((own_mx (own_r s0 s1 s2 q0 q1 q2) n) + 2) 4))), (.ref fo)]))
        obtain ⟨T62, h62, X62, e62, E62, A62, st62⟩ := own_newarr X61 hx hZ (hw _ (List.mem_of_getElem? (i := 0) rfl)) e61 (g := (mkF m 103 #[rv fo, rv aR, iv pj, iv (Int32.ofNat (own_mx (own_r s0 s1 s2 q0 q1 q2) n)), iv (Int32.ofNat n), l5, .unset, .unset] [(.int (Int32.ofNat (max ((own_mx (own_r s0 s1 s2 q0 q1 q2) n) + 2) 4))), (.ref fo)])) rfl (hb hby d4_103) rfl (n := (max ((own_mx (own_r s0 s1 s2 q0 q1 q2) n) + 2) 4)) (cap := 5) rfl (by omega) (by decide) (by decide) (by decide)
        obtain ⟨b62, g62⟩ : ∃ z, z = h1.size := ⟨_, rfl⟩
        rw [← g62] at A62 st62
        have g_b62 : n0 ≤ b62 := Nat.le_trans Z1 (Nat.le_of_eq g62.symm)
        have sz_b62 : h0.size ≤ b62 := Nat.le_trans K1.1 (Nat.le_of_eq g62.symm)
        have ne_fo_b62 : fo ≠ b62 := Nat.ne_of_lt (Nat.lt_of_lt_of_le H0.lt (Nat.le_of_eq g62.symm))
        have ne_aS_b62 : aS ≠ b62 := Nat.ne_of_lt (Nat.lt_of_lt_of_le H12.lt (Nat.le_of_eq g62.symm))
        have ne_aB_b62 : aB ≠ b62 := Nat.ne_of_lt (Nat.lt_of_lt_of_le H13.lt (Nat.le_of_eq g62.symm))
        have ne_aK_b62 : aK ≠ b62 := Nat.ne_of_lt (Nat.lt_of_lt_of_le H14.lt (Nat.le_of_eq g62.symm))
        have ne_aT_b62 : aT ≠ b62 := Nat.ne_of_lt (Nat.lt_of_lt_of_le H15.lt (Nat.le_of_eq g62.symm))
        have ne_aP_b62 : aP ≠ b62 := Nat.ne_of_lt (Nat.lt_of_lt_of_le H16.lt (Nat.le_of_eq g62.symm))
        have ne_aO_b62 : aO ≠ b62 := Nat.ne_of_lt (Nat.lt_of_lt_of_le H17.lt (Nat.le_of_eq g62.symm))
        have ne_aR_b62 : aR ≠ b62 := Nat.ne_of_lt (Nat.lt_of_lt_of_le H18.lt (Nat.le_of_eq g62.symm))
        have H0_62 := H0.ext E62
        have H1_62 := H1.ext E62
        have H2_62 := H2.ext E62
        have H3_62 := H3.ext E62
        have H4_62 := H4.ext E62
        have H5_62 := H5.ext E62
        have H6_62 := H6.ext E62
        have H7_62 := H7.ext E62
        have H8_62 := H8.ext E62
        have H9_62 := H9.ext E62
        have H10_62 := H10.ext E62
        have H11_62 := H11.ext E62
        have H12_62 := H12.ext E62
        have H13_62 := H13.ext E62
        have H14_62 := H14.ext E62
        have H15_62 := H15.ext E62
        have H16_62 := H16.ext E62
        have H17_62 := H17.ext E62
        have H18_62 := H18.ext E62
        have Z62 : n0 ≤ h62.size := Nat.le_trans Z1 E62.1
        have K62 : Keep h0 h62 [fo, aS, aB, aK, aT, aP, aO] := K1.ext E62
        have V_b62 : OwnArr Z h62 b62 .int (max ((own_mx (own_r s0 s1 s2 q0 q1 q2) n) + 2) 4) (fun _ => (.int (0 : Int32))) := A62
        refine own_go st62 ?_
        show OwnFin p e below s _ _ _ (T62.setTop (mkF m 105 #[rv fo, rv aR, iv pj, iv (Int32.ofNat (own_mx (own_r s0 s1 s2 q0 q1 q2) n)), iv (Int32.ofNat n), l5, .unset, .unset] [(.ref b62), (.ref fo)]))
        obtain ⟨T63, h63, X63, e63, W63, st63⟩ := putF X62 hx hZ hown (host := "") (Or.inl (hw _ (List.mem_of_getElem? (i := 15) rfl))) Via.refl e62 H1_62 H0_62 (Or.inl (hw _ (List.mem_of_getElem? (i := 16) rfl))) (hw _ (List.mem_of_getElem? (i := 7) rfl)) (ty := (.array .int)) (by decide) rfl rfl (g := (mkF m 105 #[rv fo, rv aR, iv pj, iv (Int32.ofNat (own_mx (own_r s0 s1 s2 q0 q1 q2) n)), iv (Int32.ofNat n), l5, .unset, .unset] [(.ref b62), (.ref fo)])) rfl rfl (hb hby d4_105)
        have H0_63 := H0_62.wr W63
        have H1_63 := H1_62.same W63
        have H2_63 := H2_62.other W63 (Or.inr (slot_ne (Or.inr (hw _ (List.mem_of_getElem? (i := 18) rfl))) (Or.inl (hw _ (List.mem_of_getElem? (i := 16) rfl))) (by decide) (t := (.array .int)) (t' := (.array .int)) (by decide) (by decide)))
        have H3_63 := H3_62.other W63 (Or.inr (slot_ne (Or.inr (hw _ (List.mem_of_getElem? (i := 21) rfl))) (Or.inl (hw _ (List.mem_of_getElem? (i := 16) rfl))) (by decide) (t := (.array .long)) (t' := (.array .int)) (by decide) (by decide)))
        have H4_63 := H4_62.other W63 (Or.inr (slot_ne (Or.inr (hw _ (List.mem_of_getElem? (i := 23) rfl))) (Or.inl (hw _ (List.mem_of_getElem? (i := 16) rfl))) (by decide) (t := (.array .long)) (t' := (.array .int)) (by decide) (by decide)))
        have H5_63 := H5_62.other W63 (Or.inr (slot_ne (Or.inl (hw _ (List.mem_of_getElem? (i := 25) rfl))) (Or.inl (hw _ (List.mem_of_getElem? (i := 16) rfl))) (by decide) (t := (.array .int)) (t' := (.array .int)) (by decide) (by decide)))
        have H6_63 := H6_62.other W63 (Or.inr (slot_ne (Or.inl (hw _ (List.mem_of_getElem? (i := 27) rfl))) (Or.inl (hw _ (List.mem_of_getElem? (i := 16) rfl))) (by decide) (t := (.array .int)) (t' := (.array .int)) (by decide) (by decide)))
        have H7_63 := H7_62.other W63 (Or.inr (slot_ne (Or.inl (hw _ (List.mem_of_getElem? (i := 34) rfl))) (Or.inl (hw _ (List.mem_of_getElem? (i := 16) rfl))) (by decide) (t := .int) (t' := (.array .int)) (by decide) (by decide)))
        have H8_63 := H8_62.other W63 (Or.inr (slot_ne (Or.inl (hw _ (List.mem_of_getElem? (i := 43) rfl))) (Or.inl (hw _ (List.mem_of_getElem? (i := 16) rfl))) (by decide) (t := .int) (t' := (.array .int)) (by decide) (by decide)))
        have H9_63 := H9_62.other W63 (Or.inr (slot_ne (Or.inl (hw _ (List.mem_of_getElem? (i := 45) rfl))) (Or.inl (hw _ (List.mem_of_getElem? (i := 16) rfl))) (by decide) (t := .int) (t' := (.array .int)) (by decide) (by decide)))
        have H10_63 := H10_62.other W63 (Or.inr (slot_ne (Or.inl (hw _ (List.mem_of_getElem? (i := 47) rfl))) (Or.inl (hw _ (List.mem_of_getElem? (i := 16) rfl))) (by decide) (t := .int) (t' := (.array .int)) (by decide) (by decide)))
        have H11_63 := H11_62.other W63 (Or.inr (slot_ne (Or.inl (hw _ (List.mem_of_getElem? (i := 49) rfl))) (Or.inl (hw _ (List.mem_of_getElem? (i := 16) rfl))) (by decide) (t := .int) (t' := (.array .int)) (by decide) (by decide)))
        have H12_63 := H12_62.other W63 (Ne.symm ne_fo_aS)
        have H13_63 := H13_62.other W63 (Ne.symm ne_fo_aB)
        have H14_63 := H14_62.other W63 (Ne.symm ne_fo_aK)
        have H15_63 := H15_62.other W63 (Ne.symm ne_fo_aT)
        have H16_63 := H16_62.other W63 (Ne.symm ne_fo_aP)
        have H17_63 := H17_62.other W63 (Ne.symm ne_fo_aO)
        have H18_63 := H18_62.other W63 (Ne.symm ne_fo_aR)
        have V_b62_63 := V_b62.other W63 (Ne.symm ne_fo_b62)
        have Z63 : n0 ≤ h63.size := Nat.le_trans Z62 (Keep.of_wr W63).1
        have K63 : Keep h0 h63 [fo, aS, aB, aK, aT, aP, aO] := K62.wr W63 (Or.inl (List.mem_of_getElem? (i := 0) rfl))
        have N63 := Fr.snoc X63 N61 g_fo
        refine own_go st63 ?_
        show OwnFin p e below s _ _ _ (T63.setTop (mkF m 108 #[rv fo, rv aR, iv pj, iv (Int32.ofNat (own_mx (own_r s0 s1 s2 q0 q1 q2) n)), iv (Int32.ofNat n), l5, .unset, .unset] []))
        exact tl b62 (max ((own_mx (own_r s0 s1 s2 q0 q1 q2) n) + 2) 4) 1 5 T63 _ _ X63 e63 N63 K63 H0_63 H1_63 H2_63 H3_63 H4_63 H5_63 H6_63 H7_63 H8_63 H9_63 H10_63 H11_63 V_b62_63 H13_63 H14_63 H15_63 H16_63 H17_63 H18_63 (by decide) (by decide) (by omega) (by omega) g_b62 (Or.inr sz_b62) ne_fo_b62 ne_aB_b62 ne_aK_b62 ne_aT_b62 ne_aP_b62 ne_aO_b62 ne_aR_b62
    | succ d ih =>
      intro i fO fT l5 T1 locs1 h1 X1 e1 N1 K1 H0 H1 H2 H3 H4 H5 H6 H7 H8 H9 H10 H11 H12 H13 H14 H15 H16 H17 H18 hid hT hl5
      have Z1 : n0 ≤ h1.size := Nat.le_trans Z0 K1.1
      refine own_go (fun t_ k_ => XS.iload X1.here hx rfl (hb hby d4_5) rfl k_) ?_
      show OwnFin p e below s _ _ _ (T1.setTop (mkF m 7 #[rv fo, rv aR, iv pj, iv (Int32.ofNat (own_mx (own_r s0 s1 s2 q0 q1 q2) i)), iv (Int32.ofNat i), l5, .unset, .unset] [(.int (Int32.ofNat i))]))
      refine own_go (fun t_ k_ => XS.aloadN X1.here hx rfl (hb hby d4_7) rfl rfl k_) ?_
      show OwnFin p e below s _ _ _ (T1.setTop (mkF m 8 #[rv fo, rv aR, iv pj, iv (Int32.ofNat (own_mx (own_r s0 s1 s2 q0 q1 q2) i)), iv (Int32.ofNat i), l5, .unset, .unset] [(.ref fo), (.int (Int32.ofNat i))]))
      obtain ⟨T64, X64, e64, st64⟩ := getF X1 hx hZ hown (host := "") (Or.inl (hw _ (List.mem_of_getElem? (i := 33) rfl))) Via.refl e1 H7 (g := (mkF m 8 #[rv fo, rv aR, iv pj, iv (Int32.ofNat (own_mx (own_r s0 s1 s2 q0 q1 q2) i)), iv (Int32.ofNat i), l5, .unset, .unset] [(.ref fo), (.int (Int32.ofNat i))])) rfl rfl (hb hby d4_8)
      refine own_go st64 ?_
      show OwnFin p e below s _ _ _ (T64.setTop (mkF m 11 #[rv fo, rv aR, iv pj, iv (Int32.ofNat (own_mx (own_r s0 s1 s2 q0 q1 q2) i)), iv (Int32.ofNat i), l5, .unset, .unset] [(.int (Int32.ofNat n)), (.int (Int32.ofNat i))]))
      have hc11 : (Int32.ofNat i) < (Int32.ofNat n) := by rw [own_ltN (by omega) (by omega)]; omega
      refine own_go (fun t_ k_ => XS.icmpNo X64.here hx rfl (hb hby d4_11) rfl (tlt hc11).2.1 k_) ?_
      show OwnFin p e below s _ _ _ (T64.setTop (mkF m 14 #[rv fo, rv aR, iv pj, iv (Int32.ofNat (own_mx (own_r s0 s1 s2 q0 q1 q2) i)), iv (Int32.ofNat i), l5, .unset, .unset] []))
      refine own_go (fun t_ k_ => XS.aloadN X64.here hx rfl (hb hby d4_14) rfl rfl k_) ?_
      show OwnFin p e below s _ _ _ (T64.setTop (mkF m 15 #[rv fo, rv aR, iv pj, iv (Int32.ofNat (own_mx (own_r s0 s1 s2 q0 q1 q2) i)), iv (Int32.ofNat i), l5, .unset, .unset] [(.ref fo)]))
      obtain ⟨T65, X65, e65, st65⟩ := getF X64 hx hZ hown (host := "") (Or.inl (hw _ (List.mem_of_getElem? (i := 17) rfl))) Via.refl e64 H2 (g := (mkF m 15 #[rv fo, rv aR, iv pj, iv (Int32.ofNat (own_mx (own_r s0 s1 s2 q0 q1 q2) i)), iv (Int32.ofNat i), l5, .unset, .unset] [(.ref fo)])) rfl rfl (hb hby d4_15)
      refine own_go st65 ?_
      show OwnFin p e below s _ _ _ (T65.setTop (mkF m 18 #[rv fo, rv aR, iv pj, iv (Int32.ofNat (own_mx (own_r s0 s1 s2 q0 q1 q2) i)), iv (Int32.ofNat i), l5, .unset, .unset] [(.ref aB)]))
      refine own_go (fun t_ k_ => XS.iload X65.here hx rfl (hb hby d4_18) rfl k_) ?_
      show OwnFin p e below s _ _ _ (T65.setTop (mkF m 20 #[rv fo, rv aR, iv pj, iv (Int32.ofNat (own_mx (own_r s0 s1 s2 q0 q1 q2) i)), iv (Int32.ofNat i), l5, .unset, .unset] [(.int (Int32.ofNat i)), (.ref aB)]))
      refine own_go (own_iaload X65 hx hZ e65 H13 (i := i) rfl (by omega) (g := (mkF m 20 #[rv fo, rv aR, iv pj, iv (Int32.ofNat (own_mx (own_r s0 s1 s2 q0 q1 q2) i)), iv (Int32.ofNat i), l5, .unset, .unset] [(.int (Int32.ofNat i)), (.ref aB)])) rfl rfl (hb hby d4_20)) ?_
      show OwnFin p e below s _ _ _ (T65.setTop (mkF m 21 #[rv fo, rv aR, iv pj, iv (Int32.ofNat (own_mx (own_r s0 s1 s2 q0 q1 q2) i)), iv (Int32.ofNat i), l5, .unset, .unset] [(.int (fB i))]))
      rw [hB i (by omega)]
      show OwnFin p e below s _ _ _ (T65.setTop (mkF m 21 #[rv fo, rv aR, iv pj, iv (Int32.ofNat (own_mx (own_r s0 s1 s2 q0 q1 q2) i)), iv (Int32.ofNat i), l5, .unset, .unset] [(.int (Int32.ofNat (own_tri s0 s1 s2 i)))]))
      refine own_go (fun t_ k_ => XS.istore X65.here hx rfl (hb hby d4_21) rfl (l' := #[rv fo, rv aR, iv pj, iv (Int32.ofNat (own_mx (own_r s0 s1 s2 q0 q1 q2) i)), iv (Int32.ofNat i), iv (Int32.ofNat (own_tri s0 s1 s2 i)), .unset, .unset]) (by rcases hl5 with rfl | ⟨w, rfl, hw9⟩ <;> first | rfl | (cases w <;> first | rfl | (simp [Value.category] at hw9; done))) k_) ?_
      show OwnFin p e below s _ _ _ (T65.setTop (mkF m 23 #[rv fo, rv aR, iv pj, iv (Int32.ofNat (own_mx (own_r s0 s1 s2 q0 q1 q2) i)), iv (Int32.ofNat i), iv (Int32.ofNat (own_tri s0 s1 s2 i)), .unset, .unset] []))
      refine own_go (fun t_ k_ => XS.aloadN X65.here hx rfl (hb hby d4_23) rfl rfl k_) ?_
      show OwnFin p e below s _ _ _ (T65.setTop (mkF m 24 #[rv fo, rv aR, iv pj, iv (Int32.ofNat (own_mx (own_r s0 s1 s2 q0 q1 q2) i)), iv (Int32.ofNat i), iv (Int32.ofNat (own_tri s0 s1 s2 i)), .unset, .unset] [(.ref fo)]))
      obtain ⟨T66, X66, e66, st66⟩ := getF X65 hx hZ hown (host := "") (Or.inl (hw _ (List.mem_of_getElem? (i := 26) rfl))) Via.refl e65 H6 (g := (mkF m 24 #[rv fo, rv aR, iv pj, iv (Int32.ofNat (own_mx (own_r s0 s1 s2 q0 q1 q2) i)), iv (Int32.ofNat i), iv (Int32.ofNat (own_tri s0 s1 s2 i)), .unset, .unset] [(.ref fo)])) rfl rfl (hb hby d4_24)
      refine own_go st66 ?_
      show OwnFin p e below s _ _ _ (T66.setTop (mkF m 27 #[rv fo, rv aR, iv pj, iv (Int32.ofNat (own_mx (own_r s0 s1 s2 q0 q1 q2) i)), iv (Int32.ofNat i), iv (Int32.ofNat (own_tri s0 s1 s2 i)), .unset, .unset] [(.ref aO)]))
      refine own_go (fun t_ k_ => XS.iload X66.here hx rfl (hb hby d4_27) rfl k_) ?_
      show OwnFin p e below s _ _ _ (T66.setTop (mkF m 29 #[rv fo, rv aR, iv pj, iv (Int32.ofNat (own_mx (own_r s0 s1 s2 q0 q1 q2) i)), iv (Int32.ofNat i), iv (Int32.ofNat (own_tri s0 s1 s2 i)), .unset, .unset] [(.int (Int32.ofNat (own_tri s0 s1 s2 i))), (.ref aO)]))
      refine own_go (fun t_ k_ => XS.iload X66.here hx rfl (hb hby d4_29) rfl k_) ?_
      show OwnFin p e below s _ _ _ (T66.setTop (mkF m 31 #[rv fo, rv aR, iv pj, iv (Int32.ofNat (own_mx (own_r s0 s1 s2 q0 q1 q2) i)), iv (Int32.ofNat i), iv (Int32.ofNat (own_tri s0 s1 s2 i)), .unset, .unset] [(.int (Int32.ofNat i)), (.int (Int32.ofNat (own_tri s0 s1 s2 i))), (.ref aO)]))
      refine own_go (fun t_ k_ => XS.iloadN X66.here hx rfl (hb hby d4_31) rfl k_) ?_
      show OwnFin p e below s _ _ _ (T66.setTop (mkF m 32 #[rv fo, rv aR, iv pj, iv (Int32.ofNat (own_mx (own_r s0 s1 s2 q0 q1 q2) i)), iv (Int32.ofNat i), iv (Int32.ofNat (own_tri s0 s1 s2 i)), .unset, .unset] [(.int pj), (.int (Int32.ofNat i)), (.int (Int32.ofNat (own_tri s0 s1 s2 i))), (.ref aO)]))
      have hc32 : (Int32.ofNat i) < pj := by rw [hj, own_ltN (by omega) (by omega)]; omega
      refine own_go (fun t_ k_ => XS.icmpNo X66.here hx rfl (hb hby d4_32) rfl (tlt hc32).2.1 k_) ?_
      show OwnFin p e below s _ _ _ (T66.setTop (mkF m 35 #[rv fo, rv aR, iv pj, iv (Int32.ofNat (own_mx (own_r s0 s1 s2 q0 q1 q2) i)), iv (Int32.ofNat i), iv (Int32.ofNat (own_tri s0 s1 s2 i)), .unset, .unset] [(.int (Int32.ofNat (own_tri s0 s1 s2 i))), (.ref aO)]))
      refine own_go (fun t_ k_ => XS.iconst X66.here hx rfl (hb hby d4_35) k_) ?_
      show OwnFin p e below s _ _ _ (T66.setTop (mkF m 36 #[rv fo, rv aR, iv pj, iv (Int32.ofNat (own_mx (own_r s0 s1 s2 q0 q1 q2) i)), iv (Int32.ofNat i), iv (Int32.ofNat (own_tri s0 s1 s2 i)), .unset, .unset] [(.int (0 : Int32)), (.int (Int32.ofNat (own_tri s0 s1 s2 i))), (.ref aO)]))
      refine own_go (fun t_ k_ => XS.goto X66.here hx rfl (pc0 := 36) (pc' := 46) rfl (hb hby d4_36) (by decide) (by decide) k_) ?_
      show OwnFin p e below s _ _ _ (T66.setTop (mkF m 46 #[rv fo, rv aR, iv pj, iv (Int32.ofNat (own_mx (own_r s0 s1 s2 q0 q1 q2) i)), iv (Int32.ofNat i), iv (Int32.ofNat (own_tri s0 s1 s2 i)), .unset, .unset] [(.int (0 : Int32)), (.int (Int32.ofNat (own_tri s0 s1 s2 i))), (.ref aO)]))
      obtain ⟨T67, h67, X67, e67, W67, A67, st67⟩ := own_iastore X66 hx hZ e66 H17 (i := (own_tri s0 s1 s2 i)) rfl (hS i) (g := (mkF m 46 #[rv fo, rv aR, iv pj, iv (Int32.ofNat (own_mx (own_r s0 s1 s2 q0 q1 q2) i)), iv (Int32.ofNat i), iv (Int32.ofNat (own_tri s0 s1 s2 i)), .unset, .unset] [(.int (0 : Int32)), (.int (Int32.ofNat (own_tri s0 s1 s2 i))), (.ref aO)])) rfl rfl (hb hby d4_46)
      have H0_67 := H0.wr W67
      have H1_67 := H1.other W67 (Or.inl ne_fo_aO)
      have H2_67 := H2.other W67 (Or.inl ne_fo_aO)
      have H3_67 := H3.other W67 (Or.inl ne_fo_aO)
      have H4_67 := H4.other W67 (Or.inl ne_fo_aO)
      have H5_67 := H5.other W67 (Or.inl ne_fo_aO)
      have H6_67 := H6.other W67 (Or.inl ne_fo_aO)
      have H7_67 := H7.other W67 (Or.inl ne_fo_aO)
      have H8_67 := H8.other W67 (Or.inl ne_fo_aO)
      have H9_67 := H9.other W67 (Or.inl ne_fo_aO)
      have H10_67 := H10.other W67 (Or.inl ne_fo_aO)
      have H11_67 := H11.other W67 (Or.inl ne_fo_aO)
      have H12_67 := H12.other W67 ne_aS_aO
      have H13_67 := H13.other W67 ne_aB_aO
      have H14_67 := H14.other W67 ne_aK_aO
      have H15_67 := H15.other W67 ne_aT_aO
      have H16_67 := H16.other W67 ne_aP_aO
      have H18_67 := H18.other W67 (Ne.symm ne_aO_aR)
      have Z67 : n0 ≤ h67.size := Nat.le_trans Z1 (Keep.of_wr W67).1
      have K67 : Keep h0 h67 [fo, aS, aB, aK, aT, aP, aO] := K1.wr W67 (Or.inl (List.mem_of_getElem? (i := 6) rfl))
      have N67 := Fr.snoc X67 N1 g_aO
      refine own_go st67 ?_
      show OwnFin p e below s _ _ _ (T67.setTop (mkF m 47 #[rv fo, rv aR, iv pj, iv (Int32.ofNat (own_mx (own_r s0 s1 s2 q0 q1 q2) i)), iv (Int32.ofNat i), iv (Int32.ofNat (own_tri s0 s1 s2 i)), .unset, .unset] []))
      refine own_go (fun t_ k_ => XS.aloadN X67.here hx rfl (hb hby d4_47) rfl rfl k_) ?_
      show OwnFin p e below s _ _ _ (T67.setTop (mkF m 48 #[rv fo, rv aR, iv pj, iv (Int32.ofNat (own_mx (own_r s0 s1 s2 q0 q1 q2) i)), iv (Int32.ofNat i), iv (Int32.ofNat (own_tri s0 s1 s2 i)), .unset, .unset] [(.ref fo)]))
      obtain ⟨T68, X68, e68, st68⟩ := getF X67 hx hZ hown (host := "") (Or.inl (hw _ (List.mem_of_getElem? (i := 22) rfl))) Via.refl e67 H4_67 (g := (mkF m 48 #[rv fo, rv aR, iv pj, iv (Int32.ofNat (own_mx (own_r s0 s1 s2 q0 q1 q2) i)), iv (Int32.ofNat i), iv (Int32.ofNat (own_tri s0 s1 s2 i)), .unset, .unset] [(.ref fo)])) rfl rfl (hb hby d4_48)
      refine own_go st68 ?_
      show OwnFin p e below s _ _ _ (T68.setTop (mkF m 51 #[rv fo, rv aR, iv pj, iv (Int32.ofNat (own_mx (own_r s0 s1 s2 q0 q1 q2) i)), iv (Int32.ofNat i), iv (Int32.ofNat (own_tri s0 s1 s2 i)), .unset, .unset] [(.ref aT)]))
      refine own_go (fun t_ k_ => XS.iload X68.here hx rfl (hb hby d4_51) rfl k_) ?_
      show OwnFin p e below s _ _ _ (T68.setTop (mkF m 53 #[rv fo, rv aR, iv pj, iv (Int32.ofNat (own_mx (own_r s0 s1 s2 q0 q1 q2) i)), iv (Int32.ofNat i), iv (Int32.ofNat (own_tri s0 s1 s2 i)), .unset, .unset] [(.int (Int32.ofNat i)), (.ref aT)]))
      refine own_go (fun t_ k_ => XS.aloadN X68.here hx rfl (hb hby d4_53) rfl rfl k_) ?_
      show OwnFin p e below s _ _ _ (T68.setTop (mkF m 54 #[rv fo, rv aR, iv pj, iv (Int32.ofNat (own_mx (own_r s0 s1 s2 q0 q1 q2) i)), iv (Int32.ofNat i), iv (Int32.ofNat (own_tri s0 s1 s2 i)), .unset, .unset] [(.ref aR), (.int (Int32.ofNat i)), (.ref aT)]))
      refine own_go (fun t_ k_ => XS.iload X68.here hx rfl (hb hby d4_54) rfl k_) ?_
      show OwnFin p e below s _ _ _ (T68.setTop (mkF m 56 #[rv fo, rv aR, iv pj, iv (Int32.ofNat (own_mx (own_r s0 s1 s2 q0 q1 q2) i)), iv (Int32.ofNat i), iv (Int32.ofNat (own_tri s0 s1 s2 i)), .unset, .unset] [(.int (Int32.ofNat (own_tri s0 s1 s2 i))), (.ref aR), (.int (Int32.ofNat i)), (.ref aT)]))
      refine own_go (own_iaload X68 hx hZ e68 H18_67 (i := (own_tri s0 s1 s2 i)) rfl (hS i) (g := (mkF m 56 #[rv fo, rv aR, iv pj, iv (Int32.ofNat (own_mx (own_r s0 s1 s2 q0 q1 q2) i)), iv (Int32.ofNat i), iv (Int32.ofNat (own_tri s0 s1 s2 i)), .unset, .unset] [(.int (Int32.ofNat (own_tri s0 s1 s2 i))), (.ref aR), (.int (Int32.ofNat i)), (.ref aT)])) rfl rfl (hb hby d4_56)) ?_
      show OwnFin p e below s _ _ _ (T68.setTop (mkF m 57 #[rv fo, rv aR, iv pj, iv (Int32.ofNat (own_mx (own_r s0 s1 s2 q0 q1 q2) i)), iv (Int32.ofNat i), iv (Int32.ofNat (own_tri s0 s1 s2 i)), .unset, .unset] [(.int (Int32.ofNat (own_tri q0 q1 q2 (own_tri s0 s1 s2 i)))), (.int (Int32.ofNat i)), (.ref aT)]))
      refine own_go (fun t_ k_ => XS.iload X68.here hx rfl (hb hby d4_57) rfl k_) ?_
      show OwnFin p e below s _ _ _ (T68.setTop (mkF m 59 #[rv fo, rv aR, iv pj, iv (Int32.ofNat (own_mx (own_r s0 s1 s2 q0 q1 q2) i)), iv (Int32.ofNat i), iv (Int32.ofNat (own_tri s0 s1 s2 i)), .unset, .unset] [(.int (Int32.ofNat (own_tri s0 s1 s2 i))), (.int (Int32.ofNat (own_tri q0 q1 q2 (own_tri s0 s1 s2 i)))), (.int (Int32.ofNat i)), (.ref aT)]))
      obtain ⟨v69, T69, L69, X69, hQ69, st69⟩ := own_callS X68 hx hZ (y := (⟨"com/example/nearside/nearside/slotted/delay/FairBack", "key", "(II)J"⟩ : MethodName)) hown (hw _ (List.mem_of_getElem? (i := 63) rfl)) (hw _ (List.mem_of_getElem? (i := 64) rfl)) (hw _ (List.mem_of_getElem? (i := 8) rfl)) (hw _ (List.mem_of_getElem? (i := 65) rfl)) (by decide) (W := 2) (rm10 l Z a0 hw [] (Int32.ofNat (own_tri q0 q1 q2 (own_tri s0 s1 s2 i))) (Int32.ofNat (own_tri s0 s1 s2 i)) h67 n0 Z67) (by decide) (by decide) (g := (mkF m 59 #[rv fo, rv aR, iv pj, iv (Int32.ofNat (own_mx (own_r s0 s1 s2 q0 q1 q2) i)), iv (Int32.ofNat i), iv (Int32.ofNat (own_tri s0 s1 s2 i)), .unset, .unset] [(.int (Int32.ofNat (own_tri s0 s1 s2 i))), (.int (Int32.ofNat (own_tri q0 q1 q2 (own_tri s0 s1 s2 i)))), (.int (Int32.ofNat i)), (.ref aT)])) rfl (by rw [hml]; rfl) (argsL := [(.int (Int32.ofNat (own_tri q0 q1 q2 (own_tri s0 s1 s2 i)))), (.int (Int32.ofNat (own_tri s0 s1 s2 i)))]) (rest := [(.int (Int32.ofNat i)), (.ref aT)]) (lenOf pd_4_8 rfl) rfl (by show 2 * 0 + _ ≤ _; exact Nat.le_of_eq rfl) (hb hby d4_59) e68 rfl (by decide) (by decide)
      obtain ⟨rfl, Nq69, e69⟩ := hQ69
      have N69 := Fr.app N67 Nq69
      refine own_go st69 ?_
      show OwnFin p e below s _ _ _ (T69.setTop (mkF m 62 #[rv fo, rv aR, iv pj, iv (Int32.ofNat (own_mx (own_r s0 s1 s2 q0 q1 q2) i)), iv (Int32.ofNat i), iv (Int32.ofNat (own_tri s0 s1 s2 i)), .unset, .unset] [(.long (own_key (Int32.ofNat (own_tri q0 q1 q2 (own_tri s0 s1 s2 i))) (Int32.ofNat (own_tri s0 s1 s2 i)))), (.int (Int32.ofNat i)), (.ref aT)]))
      obtain ⟨T70, h70, X70, e70, W70, A70, st70⟩ := own_lastore X69 hx hZ e69 H15_67 (i := i) rfl (by omega) (g := (mkF m 62 #[rv fo, rv aR, iv pj, iv (Int32.ofNat (own_mx (own_r s0 s1 s2 q0 q1 q2) i)), iv (Int32.ofNat i), iv (Int32.ofNat (own_tri s0 s1 s2 i)), .unset, .unset] [(.long (own_key (Int32.ofNat (own_tri q0 q1 q2 (own_tri s0 s1 s2 i))) (Int32.ofNat (own_tri s0 s1 s2 i)))), (.int (Int32.ofNat i)), (.ref aT)])) rfl rfl (hb hby d4_62)
      have H0_70 := H0_67.wr W70
      have H1_70 := H1_67.other W70 (Or.inl ne_fo_aT)
      have H2_70 := H2_67.other W70 (Or.inl ne_fo_aT)
      have H3_70 := H3_67.other W70 (Or.inl ne_fo_aT)
      have H4_70 := H4_67.other W70 (Or.inl ne_fo_aT)
      have H5_70 := H5_67.other W70 (Or.inl ne_fo_aT)
      have H6_70 := H6_67.other W70 (Or.inl ne_fo_aT)
      have H7_70 := H7_67.other W70 (Or.inl ne_fo_aT)
      have H8_70 := H8_67.other W70 (Or.inl ne_fo_aT)
      have H9_70 := H9_67.other W70 (Or.inl ne_fo_aT)
      have H10_70 := H10_67.other W70 (Or.inl ne_fo_aT)
      have H11_70 := H11_67.other W70 (Or.inl ne_fo_aT)
      have H12_70 := H12_67.other W70 ne_aS_aT
      have H13_70 := H13_67.other W70 ne_aB_aT
      have H14_70 := H14_67.other W70 ne_aK_aT
      have H16_70 := H16_67.other W70 (Ne.symm ne_aT_aP)
      have H17_70 := A67.other W70 (Ne.symm ne_aT_aO)
      have H18_70 := H18_67.other W70 (Ne.symm ne_aT_aR)
      have Z70 : n0 ≤ h70.size := Nat.le_trans Z67 (Keep.of_wr W70).1
      have K70 : Keep h0 h70 [fo, aS, aB, aK, aT, aP, aO] := K67.wr W70 (Or.inl (List.mem_of_getElem? (i := 4) rfl))
      have N70 := Fr.snoc X70 N69 g_aT
      refine own_go st70 ?_
      show OwnFin p e below s _ _ _ (T70.setTop (mkF m 63 #[rv fo, rv aR, iv pj, iv (Int32.ofNat (own_mx (own_r s0 s1 s2 q0 q1 q2) i)), iv (Int32.ofNat i), iv (Int32.ofNat (own_tri s0 s1 s2 i)), .unset, .unset] []))
      refine own_go (fun t_ k_ => XS.iloadN X70.here hx rfl (hb hby d4_63) rfl k_) ?_
      show OwnFin p e below s _ _ _ (T70.setTop (mkF m 64 #[rv fo, rv aR, iv pj, iv (Int32.ofNat (own_mx (own_r s0 s1 s2 q0 q1 q2) i)), iv (Int32.ofNat i), iv (Int32.ofNat (own_tri s0 s1 s2 i)), .unset, .unset] [(.int (Int32.ofNat (own_mx (own_r s0 s1 s2 q0 q1 q2) i)))]))
      refine own_go (fun t_ k_ => XS.aloadN X70.here hx rfl (hb hby d4_64) rfl rfl k_) ?_
      show OwnFin p e below s _ _ _ (T70.setTop (mkF m 65 #[rv fo, rv aR, iv pj, iv (Int32.ofNat (own_mx (own_r s0 s1 s2 q0 q1 q2) i)), iv (Int32.ofNat i), iv (Int32.ofNat (own_tri s0 s1 s2 i)), .unset, .unset] [(.ref aR), (.int (Int32.ofNat (own_mx (own_r s0 s1 s2 q0 q1 q2) i)))]))
      refine own_go (fun t_ k_ => XS.iload X70.here hx rfl (hb hby d4_65) rfl k_) ?_
      show OwnFin p e below s _ _ _ (T70.setTop (mkF m 67 #[rv fo, rv aR, iv pj, iv (Int32.ofNat (own_mx (own_r s0 s1 s2 q0 q1 q2) i)), iv (Int32.ofNat i), iv (Int32.ofNat (own_tri s0 s1 s2 i)), .unset, .unset] [(.int (Int32.ofNat (own_tri s0 s1 s2 i))), (.ref aR), (.int (Int32.ofNat (own_mx (own_r s0 s1 s2 q0 q1 q2) i)))]))
      refine own_go (own_iaload X70 hx hZ e70 H18_70 (i := (own_tri s0 s1 s2 i)) rfl (hS i) (g := (mkF m 67 #[rv fo, rv aR, iv pj, iv (Int32.ofNat (own_mx (own_r s0 s1 s2 q0 q1 q2) i)), iv (Int32.ofNat i), iv (Int32.ofNat (own_tri s0 s1 s2 i)), .unset, .unset] [(.int (Int32.ofNat (own_tri s0 s1 s2 i))), (.ref aR), (.int (Int32.ofNat (own_mx (own_r s0 s1 s2 q0 q1 q2) i)))])) rfl rfl (hb hby d4_67)) ?_
      show OwnFin p e below s _ _ _ (T70.setTop (mkF m 68 #[rv fo, rv aR, iv pj, iv (Int32.ofNat (own_mx (own_r s0 s1 s2 q0 q1 q2) i)), iv (Int32.ofNat i), iv (Int32.ofNat (own_tri s0 s1 s2 i)), .unset, .unset] [(.int (Int32.ofNat (own_tri q0 q1 q2 (own_tri s0 s1 s2 i)))), (.int (Int32.ofNat (own_mx (own_r s0 s1 s2 q0 q1 q2) i)))]))
      obtain ⟨v71, T71, L71, X71, hQ71, st71⟩ := own_callS X70 hx hZ (y := (⟨"java/lang/Math", "max", "(II)I"⟩ : MethodName)) hown (hw _ (List.mem_of_getElem? (i := 66) rfl)) (hw _ (List.mem_of_getElem? (i := 67) rfl)) (hw _ (List.mem_of_getElem? (i := 68) rfl)) (hw _ (List.mem_of_getElem? (i := 69) rfl)) (by decide) (W := 0) (rm11 l Z a0 hw [] (Int32.ofNat (own_mx (own_r s0 s1 s2 q0 q1 q2) i)) (Int32.ofNat (own_tri q0 q1 q2 (own_tri s0 s1 s2 i))) h70 n0 Z70) (by decide) (by decide) (g := (mkF m 68 #[rv fo, rv aR, iv pj, iv (Int32.ofNat (own_mx (own_r s0 s1 s2 q0 q1 q2) i)), iv (Int32.ofNat i), iv (Int32.ofNat (own_tri s0 s1 s2 i)), .unset, .unset] [(.int (Int32.ofNat (own_tri q0 q1 q2 (own_tri s0 s1 s2 i)))), (.int (Int32.ofNat (own_mx (own_r s0 s1 s2 q0 q1 q2) i)))])) rfl (by rw [hml]; rfl) (argsL := [(.int (Int32.ofNat (own_mx (own_r s0 s1 s2 q0 q1 q2) i))), (.int (Int32.ofNat (own_tri q0 q1 q2 (own_tri s0 s1 s2 i))))]) (rest := []) (lenOf pd_4_9 rfl) rfl (by show 2 * 0 + _ ≤ _; exact Nat.le_of_eq rfl) (hb hby d4_68) e70 rfl (by decide) (by decide)
      obtain ⟨rfl, Nq71, e71⟩ := hQ71
      have N71 := Fr.app N70 Nq71
      refine own_go st71 ?_
      show OwnFin p e below s _ _ _ (T71.setTop (mkF m 71 #[rv fo, rv aR, iv pj, iv (Int32.ofNat (own_mx (own_r s0 s1 s2 q0 q1 q2) i)), iv (Int32.ofNat i), iv (Int32.ofNat (own_tri s0 s1 s2 i)), .unset, .unset] [(.int (own_max (Int32.ofNat (own_mx (own_r s0 s1 s2 q0 q1 q2) i)) (Int32.ofNat (own_tri q0 q1 q2 (own_tri s0 s1 s2 i)))))]))
      refine own_go (fun t_ k_ => XS.istoreN X71.here hx rfl (hb hby d4_71) rfl (l' := #[rv fo, rv aR, iv pj, iv (own_max (Int32.ofNat (own_mx (own_r s0 s1 s2 q0 q1 q2) i)) (Int32.ofNat (own_tri q0 q1 q2 (own_tri s0 s1 s2 i)))), iv (Int32.ofNat i), iv (Int32.ofNat (own_tri s0 s1 s2 i)), .unset, .unset]) rfl k_) ?_
      show OwnFin p e below s _ _ _ (T71.setTop (mkF m 72 #[rv fo, rv aR, iv pj, iv (own_max (Int32.ofNat (own_mx (own_r s0 s1 s2 q0 q1 q2) i)) (Int32.ofNat (own_tri q0 q1 q2 (own_tri s0 s1 s2 i)))), iv (Int32.ofNat i), iv (Int32.ofNat (own_tri s0 s1 s2 i)), .unset, .unset] []))
      refine own_go (fun t_ k_ => XS.iinc X71.here hx rfl (hb hby d4_72) rfl (l' := #[rv fo, rv aR, iv pj, iv (own_max (Int32.ofNat (own_mx (own_r s0 s1 s2 q0 q1 q2) i)) (Int32.ofNat (own_tri q0 q1 q2 (own_tri s0 s1 s2 i)))), iv ((Int32.ofNat i) + (1 : Int32)), iv (Int32.ofNat (own_tri s0 s1 s2 i)), .unset, .unset]) rfl k_) ?_
      show OwnFin p e below s _ _ _ (T71.setTop (mkF m 75 #[rv fo, rv aR, iv pj, iv (own_max (Int32.ofNat (own_mx (own_r s0 s1 s2 q0 q1 q2) i)) (Int32.ofNat (own_tri q0 q1 q2 (own_tri s0 s1 s2 i)))), iv ((Int32.ofNat i) + (1 : Int32)), iv (Int32.ofNat (own_tri s0 s1 s2 i)), .unset, .unset] []))
      refine own_go (fun t_ k_ => XS.goto X71.here hx rfl (pc0 := 75) (pc' := 5) rfl (hb hby d4_75) (by decide) (by decide) k_) ?_
      show OwnFin p e below s _ _ _ (T71.setTop (mkF m 5 #[rv fo, rv aR, iv pj, iv (own_max (Int32.ofNat (own_mx (own_r s0 s1 s2 q0 q1 q2) i)) (Int32.ofNat (own_tri q0 q1 q2 (own_tri s0 s1 s2 i)))), iv ((Int32.ofNat i) + (1 : Int32)), iv (Int32.ofNat (own_tri s0 s1 s2 i)), .unset, .unset] []))
      have einc : Int32.ofNat i + (1 : Int32) = Int32.ofNat (i + 1) := (inc_ofNat i).symm
      have emx : own_max (Int32.ofNat (own_mx (own_r s0 s1 s2 q0 q1 q2) i)) (Int32.ofNat (own_tri q0 q1 q2 (own_tri s0 s1 s2 i))) = Int32.ofNat (own_mx (own_r s0 s1 s2 q0 q1 q2) (i + 1)) := own_maxN (by have := own_mx_lt hR i; omega) (by have : own_tri q0 q1 q2 (own_tri s0 s1 s2 i) < 4 := hR i; omega)
      rw [einc, emx]
      exact ih (i + 1) _ _ _ T71 _ _ X71 e71 N71 K70 H0_70 H1_70 H2_70 H3_70 H4_70 H5_70 H6_70 H7_70 H8_70 H9_70 H10_70 H11_70 H12_70 H13_70 H14_70 A70 H16_70 H17_70 H18_70 (by omega) (fun k hk => by by_cases q : k = i; subst q; exact if_pos rfl; exact (if_neg q).trans (hT k (by omega))) (One.val rfl)
  exact loop1 n 0 _ _ _ s₁ _ _ X0 e0 N0 K0 E_fo F_starts F_back F_keys F_retaken F_positions F_offeredFrom F_size F_sorted F_nextKey F_retakenAt F_retakenEnd V_aS V_aB V_aK V_aT V_aP V_aO V_aR (by omega) (fun k hk => absurd hk (Nat.not_lt_zero k)) One.u
theorem d8_0 : decode method_2_code 0 = .ok (.aload_n 0, 1) := by decide +kernel
theorem d8_1 : decode method_2_code 1 = .ok (.iload_n 1, 1) := by decide +kernel
theorem d8_2 : decode method_2_code 2 = .ok (.iaload, 1) := by decide +kernel
theorem d8_3 : decode method_2_code 3 = .ok (.iconst 4, 1) := by decide +kernel
theorem d8_4 : decode method_2_code 4 = .ok (.imul, 1) := by decide +kernel
theorem d8_5 : decode method_2_code 5 = .ok (.iload_n 1, 1) := by decide +kernel
theorem d8_6 : decode method_2_code 6 = .ok (.iadd, 1) := by decide +kernel
theorem d8_7 : decode method_2_code 7 = .ok (.ireturn, 1) := by decide +kernel
theorem pn_8 : plainFor (⟨"com/example/nearside/nearside/slotted/delay/FairBackNextPinLaw", "key", "([II)I"⟩ : MethodName) = true := plainFor_of_name (by first | (simp [plainName, overriddenIn]; done) | decide +kernel)
theorem ef_8 (m : MethodId) (ar : Addr) (pk : Int32) : entryFrame m #[(.ref ar), (.int pk)] 2 = mkF m 0 #[rv ar, iv pk] [] := by first | (simp [entryFrame, mkF, argsToLocals, Value.category]; done) | rfl
set_option maxRecDepth 65536 in
set_option maxHeartbeats 40000000 in
theorem rm8 (l : Launch) (Z : State) (a0 : Array Value) (hw : ∀ d ∈ tables_1, d.before a0 Z = true) (ws : List Jvm.Cond) (ar : Addr) (pk : Int32) (k : Nat) (rn : Nat → Int32) (h0 : Heap) (n0 : Nat) (Z0 : n0 ≤ h0.size) (hk : pk = Int32.ofNat k) (hk3 : k < 3) (V_ar : OwnArr Z h0 ar .int 3 (fun k => .int (rn k))) :
    OwnCtr l Z (⟨"com/example/nearside/nearside/slotted/delay/FairBackNextPinLaw", "key", "([II)I"⟩ : MethodName) ws method_2_code 2 (some .int) ({ frames := 0, cells := 0, slots := 0, locals := 0 } : Room) #[(.ref ar), (.int pk)] h0 (fun v h L => v = some (.int (rn k * 4 + pk)) ∧ Fr n0 L ∧ h = h0) := by
  refine own_body (g0 := fun m => mkF m 0 #[rv ar, iv pk] []) pn_8 (fun m => ef_8 m ar pk) ?_
  intro p e s m below meth c s₁ X0 hx hby hml hown hnm hZ e0 hret hlk
  have hml : c.maxLocals = 2 := hml
  have hown : s.vm.findClass "com/example/nearside/nearside/slotted/delay/FairBackNextPinLaw" = some m.cls := hown
  have hnm : meth.name = "key" := hnm
  have hret : meth.sig.returnType = (some .int) := hret
  have N0 := Fr.nil n0
  show OwnFin p e below s _ _ _ (s₁.setTop (mkF m 0 #[rv ar, iv pk] []))
  refine own_go (fun t_ k_ => XS.aloadN X0.here hx rfl (hb hby d8_0) rfl rfl k_) ?_
  show OwnFin p e below s _ _ _ (s₁.setTop (mkF m 1 #[rv ar, iv pk] [(.ref ar)]))
  refine own_go (fun t_ k_ => XS.iloadN X0.here hx rfl (hb hby d8_1) rfl k_) ?_
  show OwnFin p e below s _ _ _ (s₁.setTop (mkF m 2 #[rv ar, iv pk] [(.int pk), (.ref ar)]))
  refine own_go (own_iaload X0 hx hZ e0 V_ar (i := k) hk hk3 (g := (mkF m 2 #[rv ar, iv pk] [(.int pk), (.ref ar)])) rfl rfl (hb hby d8_2)) ?_
  show OwnFin p e below s _ _ _ (s₁.setTop (mkF m 3 #[rv ar, iv pk] [(.int (rn k))]))
  refine own_go (fun t_ k_ => XS.iconst X0.here hx rfl (hb hby d8_3) k_) ?_
  show OwnFin p e below s _ _ _ (s₁.setTop (mkF m 4 #[rv ar, iv pk] [(.int (4 : Int32)), (.int (rn k))]))
  refine own_go (fun t_ k_ => XS.imul X0.here hx rfl (hb hby d8_4) rfl k_) ?_
  show OwnFin p e below s _ _ _ (s₁.setTop (mkF m 5 #[rv ar, iv pk] [(.int ((rn k) * (4 : Int32)))]))
  refine own_go (fun t_ k_ => XS.iloadN X0.here hx rfl (hb hby d8_5) rfl k_) ?_
  show OwnFin p e below s _ _ _ (s₁.setTop (mkF m 6 #[rv ar, iv pk] [(.int pk), (.int ((rn k) * (4 : Int32)))]))
  refine own_go (fun t_ k_ => XS.iadd X0.here hx rfl (hb hby d8_6) rfl k_) ?_
  show OwnFin p e below s _ _ _ (s₁.setTop (mkF m 7 #[rv ar, iv pk] [(.int (((rn k) * (4 : Int32)) + pk))]))
  refine own_ret X0 (v := some (.int (((rn k) * (4 : Int32)) + pk))) hlk (fun hh => by rw [hret] at hh; cases hh) (fun fs hr => own_retI X0 hx hret (hb hby d8_7) hr) (by decide) (by decide) ?_
  rw [e0]
  exact ⟨rfl, N0, rfl⟩
theorem d1_0 : decode method_3_code 0 = .ok (.aload_n 1, 1) := by decide +kernel
theorem d1_1 : decode method_3_code 1 = .ok (.iload_n 3, 1) := by decide +kernel
theorem d1_2 : decode method_3_code 2 = .ok (.baload, 1) := by decide +kernel
theorem d1_3 : decode method_3_code 3 = .ok (.ifCond .ne 4, 3) := by decide +kernel
theorem d1_6 : decode method_3_code 6 = .ok (.return_, 1) := by decide +kernel
theorem d1_7 : decode method_3_code 7 = .ok (.iload_n 3, 1) := by decide +kernel
theorem d1_8 : decode method_3_code 8 = .ok (.iconst 1, 1) := by decide +kernel
theorem d1_9 : decode method_3_code 9 = .ok (.iadd, 1) := by decide +kernel
theorem d1_10 : decode method_3_code 10 = .ok (.iconst 3, 1) := by decide +kernel
theorem d1_11 : decode method_3_code 11 = .ok (.irem, 1) := by decide +kernel
theorem d1_12 : decode method_3_code 12 = .ok (.istore 4, 2) := by decide +kernel
theorem d1_14 : decode method_3_code 14 = .ok (.iload_n 3, 1) := by decide +kernel
theorem d1_15 : decode method_3_code 15 = .ok (.iconst 2, 1) := by decide +kernel
theorem d1_16 : decode method_3_code 16 = .ok (.iadd, 1) := by decide +kernel
theorem d1_17 : decode method_3_code 17 = .ok (.iconst 3, 1) := by decide +kernel
theorem d1_18 : decode method_3_code 18 = .ok (.irem, 1) := by decide +kernel
theorem d1_19 : decode method_3_code 19 = .ok (.istore 5, 2) := by decide +kernel
theorem d1_21 : decode method_3_code 21 = .ok (.iconst 0, 1) := by decide +kernel
theorem d1_22 : decode method_3_code 22 = .ok (.istore 6, 2) := by decide +kernel
theorem d1_24 : decode method_3_code 24 = .ok (.aload_n 1, 1) := by decide +kernel
theorem d1_25 : decode method_3_code 25 = .ok (.iload 4, 2) := by decide +kernel
theorem d1_27 : decode method_3_code 27 = .ok (.baload, 1) := by decide +kernel
theorem d1_28 : decode method_3_code 28 = .ok (.ifCond .eq 20, 3) := by decide +kernel
theorem d1_31 : decode method_3_code 31 = .ok (.aload_n 2, 1) := by decide +kernel
theorem d1_32 : decode method_3_code 32 = .ok (.iload 4, 2) := by decide +kernel
theorem d1_34 : decode method_3_code 34 = .ok (.invokestatic 7, 3) := by decide +kernel
theorem d1_37 : decode method_3_code 37 = .ok (.aload_n 2, 1) := by decide +kernel
theorem d1_38 : decode method_3_code 38 = .ok (.iload_n 3, 1) := by decide +kernel
theorem d1_39 : decode method_3_code 39 = .ok (.invokestatic 7, 3) := by decide +kernel
theorem d1_42 : decode method_3_code 42 = .ok (.if_icmp .ge 6, 3) := by decide +kernel
theorem d1_45 : decode method_3_code 45 = .ok (.iinc 6 1, 3) := by decide +kernel
theorem d1_48 : decode method_3_code 48 = .ok (.aload_n 1, 1) := by decide +kernel
theorem d1_49 : decode method_3_code 49 = .ok (.iload 5, 2) := by decide +kernel
theorem d1_51 : decode method_3_code 51 = .ok (.baload, 1) := by decide +kernel
theorem d1_52 : decode method_3_code 52 = .ok (.ifCond .eq 20, 3) := by decide +kernel
theorem d1_55 : decode method_3_code 55 = .ok (.aload_n 2, 1) := by decide +kernel
theorem d1_56 : decode method_3_code 56 = .ok (.iload 5, 2) := by decide +kernel
theorem d1_58 : decode method_3_code 58 = .ok (.invokestatic 7, 3) := by decide +kernel
theorem d1_61 : decode method_3_code 61 = .ok (.aload_n 2, 1) := by decide +kernel
theorem d1_62 : decode method_3_code 62 = .ok (.iload_n 3, 1) := by decide +kernel
theorem d1_63 : decode method_3_code 63 = .ok (.invokestatic 7, 3) := by decide +kernel
theorem d1_66 : decode method_3_code 66 = .ok (.if_icmp .ge 6, 3) := by decide +kernel
theorem d1_69 : decode method_3_code 69 = .ok (.iinc 6 1, 3) := by decide +kernel
theorem d1_72 : decode method_3_code 72 = .ok (.aload_n 0, 1) := by decide +kernel
theorem d1_73 : decode method_3_code 73 = .ok (.iload 6, 2) := by decide +kernel
theorem d1_75 : decode method_3_code 75 = .ok (.iload_n 3, 1) := by decide +kernel
theorem d1_76 : decode method_3_code 76 = .ok (.iastore, 1) := by decide +kernel
theorem d1_77 : decode method_3_code 77 = .ok (.return_, 1) := by decide +kernel
theorem pn_1 : plainFor (⟨"com/example/nearside/nearside/slotted/delay/FairBackNextPinLaw", "place", "([I[Z[II)V"⟩ : MethodName) = true := plainFor_of_name (by first | (simp [plainName, overriddenIn]; done) | decide +kernel)
theorem pd_1_7 : parseMethodDescriptor "([II)I" = some ⟨[(.array .int), .int], some .int⟩ := by decide +kernel
theorem ef_1 (m : MethodId) (ae : Addr) (ap : Addr) (ar : Addr) (pi : Int32) : entryFrame m #[(.ref ae), (.ref ap), (.ref ar), (.int pi)] 7 = mkF m 0 #[rv ae, rv ap, rv ar, iv pi, .unset, .unset, .unset] [] := by first | (simp [entryFrame, mkF, argsToLocals, Value.category]; done) | rfl
set_option maxRecDepth 65536 in
set_option maxHeartbeats 40000000 in
theorem rm1 (l : Launch) (Z : State) (a0 : Array Value) (hw : ∀ d ∈ tables_1, d.before a0 Z = true) (ws : List Jvm.Cond) (ae : Addr) (ap : Addr) (ar : Addr) (pi : Int32) (si : Nat) (f : Nat → Int32) (pr : Nat → Int32) (rn : Nat → Int32) (h0 : Heap) (n0 : Nat) (Z0 : n0 ≤ h0.size) (hpi : pi = Int32.ofNat si) (hsi : si < 3) (V_ae : OwnArr Z h0 ae .int 3 (fun k => .int (f k))) (V_ap : OwnArr Z h0 ap .boolean 3 (fun k => .int (pr k))) (V_ar : OwnArr Z h0 ar .int 3 (fun k => .int (rn k))) (ne_ae_ap : ae ≠ ap) (ne_ae_ar : ae ≠ ar) (g_ae : n0 ≤ ae) :
    OwnCtr l Z (⟨"com/example/nearside/nearside/slotted/delay/FairBackNextPinLaw", "place", "([I[Z[II)V"⟩ : MethodName) ws method_3_code 7 none ({ frames := 1, cells := 0, slots := 0, locals := 14 } : Room) #[(.ref ae), (.ref ap), (.ref ar), (.int pi)] h0 (fun v h L => v = none ∧ Fr n0 L ∧ Keep h0 h [ae] ∧ OwnArr Z h ae .int 3 (fun j => .int (own_place pr rn si f j))) := by
  refine own_body (g0 := fun m => mkF m 0 #[rv ae, rv ap, rv ar, iv pi, .unset, .unset, .unset] []) pn_1 (fun m => ef_1 m ae ap ar pi) ?_
  intro p e s m below meth c s₁ X0 hx hby hml hown hnm hZ e0 hret hlk
  have hml : c.maxLocals = 7 := hml
  have hown : s.vm.findClass "com/example/nearside/nearside/slotted/delay/FairBackNextPinLaw" = some m.cls := hown
  have hnm : meth.name = "place" := hnm
  have hret : meth.sig.returnType = none := hret
  have N0 := Fr.nil n0
  have K0 := Keep.refl h0 [ae]
  show OwnFin p e below s _ _ _ (s₁.setTop (mkF m 0 #[rv ae, rv ap, rv ar, iv pi, .unset, .unset, .unset] []))
  refine own_go (fun t_ k_ => XS.aloadN X0.here hx rfl (hb hby d1_0) rfl rfl k_) ?_
  show OwnFin p e below s _ _ _ (s₁.setTop (mkF m 1 #[rv ae, rv ap, rv ar, iv pi, .unset, .unset, .unset] [(.ref ap)]))
  refine own_go (fun t_ k_ => XS.iloadN X0.here hx rfl (hb hby d1_1) rfl k_) ?_
  show OwnFin p e below s _ _ _ (s₁.setTop (mkF m 2 #[rv ae, rv ap, rv ar, iv pi, .unset, .unset, .unset] [(.int pi), (.ref ap)]))
  refine own_go (own_zaload X0 hx hZ e0 V_ap (i := si) hpi hsi (g := (mkF m 2 #[rv ae, rv ap, rv ar, iv pi, .unset, .unset, .unset] [(.int pi), (.ref ap)])) rfl rfl (hb hby d1_2)) ?_
  show OwnFin p e below s _ _ _ (s₁.setTop (mkF m 3 #[rv ae, rv ap, rv ar, iv pi, .unset, .unset, .unset] [(.int (pr si))]))
  by_cases hc3 : (pr si) = (0 : Int32)
  · refine own_go (fun t_ k_ => XS.ifNo X0.here hx rfl (hb hby d1_3) rfl ((if0 _ _).trans (teq hc3).2) k_) ?_
    show OwnFin p e below s _ _ _ (s₁.setTop (mkF m 6 #[rv ae, rv ap, rv ar, iv pi, .unset, .unset, .unset] []))
    refine own_ret X0 (v := none) hlk (fun _ => rfl) (fun fs hr => X0.returnOut hx hret (hb hby d1_6) hr) (by decide) (by decide) ?_
    rw [e0]
    exact ⟨rfl, N0, K0, V_ae.congr (fun z hz => by unfold own_place; rw [if_pos hc3])⟩
  · refine own_go (fun t_ k_ => XS.ifYes X0.here hx rfl (pc0 := 3) (pc' := 7) rfl (hb hby d1_3) rfl ((if0 _ _).trans (feq hc3).2) (by decide) (by decide) k_) ?_
    show OwnFin p e below s _ _ _ (s₁.setTop (mkF m 7 #[rv ae, rv ap, rv ar, iv pi, .unset, .unset, .unset] []))
    refine own_go (fun t_ k_ => XS.iloadN X0.here hx rfl (hb hby d1_7) rfl k_) ?_
    show OwnFin p e below s _ _ _ (s₁.setTop (mkF m 8 #[rv ae, rv ap, rv ar, iv pi, .unset, .unset, .unset] [(.int pi)]))
    refine own_go (fun t_ k_ => XS.iconst X0.here hx rfl (hb hby d1_8) k_) ?_
    show OwnFin p e below s _ _ _ (s₁.setTop (mkF m 9 #[rv ae, rv ap, rv ar, iv pi, .unset, .unset, .unset] [(.int (1 : Int32)), (.int pi)]))
    refine own_go (fun t_ k_ => XS.iadd X0.here hx rfl (hb hby d1_9) rfl k_) ?_
    show OwnFin p e below s _ _ _ (s₁.setTop (mkF m 10 #[rv ae, rv ap, rv ar, iv pi, .unset, .unset, .unset] [(.int (pi + (1 : Int32)))]))
    refine own_go (fun t_ k_ => XS.iconst X0.here hx rfl (hb hby d1_10) k_) ?_
    show OwnFin p e below s _ _ _ (s₁.setTop (mkF m 11 #[rv ae, rv ap, rv ar, iv pi, .unset, .unset, .unset] [(.int (3 : Int32)), (.int (pi + (1 : Int32)))]))
    refine own_go (fun t_ k_ => Jvm.RoadKit.iremM X0 hx rfl (hb hby d1_11) rfl (by decide) k_) ?_
    show OwnFin p e below s _ _ _ (s₁.setTop (mkF m 12 #[rv ae, rv ap, rv ar, iv pi, .unset, .unset, .unset] [(.int ((pi + (1 : Int32)) % (3 : Int32)))]))
    rw [show (pi + (1 : Int32)) % (3 : Int32) = Int32.ofNat ((si + 1) % 3) by rw [hpi]; exact (own_mod3 hsi).1]
    show OwnFin p e below s _ _ _ (s₁.setTop (mkF m 12 #[rv ae, rv ap, rv ar, iv pi, .unset, .unset, .unset] [(.int (Int32.ofNat ((si + 1) % 3)))]))
    refine own_go (fun t_ k_ => XS.istore X0.here hx rfl (hb hby d1_12) rfl (l' := #[rv ae, rv ap, rv ar, iv pi, iv (Int32.ofNat ((si + 1) % 3)), .unset, .unset]) rfl k_) ?_
    show OwnFin p e below s _ _ _ (s₁.setTop (mkF m 14 #[rv ae, rv ap, rv ar, iv pi, iv (Int32.ofNat ((si + 1) % 3)), .unset, .unset] []))
    refine own_go (fun t_ k_ => XS.iloadN X0.here hx rfl (hb hby d1_14) rfl k_) ?_
    show OwnFin p e below s _ _ _ (s₁.setTop (mkF m 15 #[rv ae, rv ap, rv ar, iv pi, iv (Int32.ofNat ((si + 1) % 3)), .unset, .unset] [(.int pi)]))
    refine own_go (fun t_ k_ => XS.iconst X0.here hx rfl (hb hby d1_15) k_) ?_
    show OwnFin p e below s _ _ _ (s₁.setTop (mkF m 16 #[rv ae, rv ap, rv ar, iv pi, iv (Int32.ofNat ((si + 1) % 3)), .unset, .unset] [(.int (2 : Int32)), (.int pi)]))
    refine own_go (fun t_ k_ => XS.iadd X0.here hx rfl (hb hby d1_16) rfl k_) ?_
    show OwnFin p e below s _ _ _ (s₁.setTop (mkF m 17 #[rv ae, rv ap, rv ar, iv pi, iv (Int32.ofNat ((si + 1) % 3)), .unset, .unset] [(.int (pi + (2 : Int32)))]))
    refine own_go (fun t_ k_ => XS.iconst X0.here hx rfl (hb hby d1_17) k_) ?_
    show OwnFin p e below s _ _ _ (s₁.setTop (mkF m 18 #[rv ae, rv ap, rv ar, iv pi, iv (Int32.ofNat ((si + 1) % 3)), .unset, .unset] [(.int (3 : Int32)), (.int (pi + (2 : Int32)))]))
    refine own_go (fun t_ k_ => Jvm.RoadKit.iremM X0 hx rfl (hb hby d1_18) rfl (by decide) k_) ?_
    show OwnFin p e below s _ _ _ (s₁.setTop (mkF m 19 #[rv ae, rv ap, rv ar, iv pi, iv (Int32.ofNat ((si + 1) % 3)), .unset, .unset] [(.int ((pi + (2 : Int32)) % (3 : Int32)))]))
    rw [show (pi + (2 : Int32)) % (3 : Int32) = Int32.ofNat ((si + 2) % 3) by rw [hpi]; exact (own_mod3 hsi).2]
    show OwnFin p e below s _ _ _ (s₁.setTop (mkF m 19 #[rv ae, rv ap, rv ar, iv pi, iv (Int32.ofNat ((si + 1) % 3)), .unset, .unset] [(.int (Int32.ofNat ((si + 2) % 3)))]))
    refine own_go (fun t_ k_ => XS.istore X0.here hx rfl (hb hby d1_19) rfl (l' := #[rv ae, rv ap, rv ar, iv pi, iv (Int32.ofNat ((si + 1) % 3)), iv (Int32.ofNat ((si + 2) % 3)), .unset]) rfl k_) ?_
    show OwnFin p e below s _ _ _ (s₁.setTop (mkF m 21 #[rv ae, rv ap, rv ar, iv pi, iv (Int32.ofNat ((si + 1) % 3)), iv (Int32.ofNat ((si + 2) % 3)), .unset] []))
    refine own_go (fun t_ k_ => XS.iconst X0.here hx rfl (hb hby d1_21) k_) ?_
    show OwnFin p e below s _ _ _ (s₁.setTop (mkF m 22 #[rv ae, rv ap, rv ar, iv pi, iv (Int32.ofNat ((si + 1) % 3)), iv (Int32.ofNat ((si + 2) % 3)), .unset] [(.int (0 : Int32))]))
    refine own_go (fun t_ k_ => XS.istore X0.here hx rfl (hb hby d1_22) rfl (l' := #[rv ae, rv ap, rv ar, iv pi, iv (Int32.ofNat ((si + 1) % 3)), iv (Int32.ofNat ((si + 2) % 3)), iv (0 : Int32)]) rfl k_) ?_
    show OwnFin p e below s _ _ _ (s₁.setTop (mkF m 24 #[rv ae, rv ap, rv ar, iv pi, iv (Int32.ofNat ((si + 1) % 3)), iv (Int32.ofNat ((si + 2) % 3)), iv (0 : Int32)] []))
    have jn : ∀ (rk : Nat) (T1 : State) (locs1 : List Loc) (h1 : Heap), Stand p l e ({ frames := 1, cells := 0, slots := 0, locals := 14 } : Room) s m #[(.ref ae), (.ref ap), (.ref ar), (.int pi)] below meth c T1 locs1 0 0 → T1.heap = h1 → Fr n0 locs1 → Keep h0 h1 [ae] → OwnArr Z h1 ae .int 3 (fun k => .int (f k)) → OwnArr Z h1 ap .boolean 3 (fun k => .int (pr k)) → OwnArr Z h1 ar .int 3 (fun k => .int (rn k)) → (rk = own_rk pr rn (rn si * 4 + pi) ((si + 1) % 3)) → OwnFin p e below s (fun v h L => v = none ∧ Fr n0 L ∧ Keep h0 h [ae] ∧ OwnArr Z h ae .int 3 (fun j => .int (own_place pr rn si f j))) 0 0 (T1.setTop (mkF m 48 #[rv ae, rv ap, rv ar, iv pi, iv (Int32.ofNat ((si + 1) % 3)), iv (Int32.ofNat ((si + 2) % 3)), iv (Int32.ofNat rk)] [])) := by
      intro rk T1 locs1 h1 X1 e1 N1 K1 H0 H1 H2 hrk
      have Z1 : n0 ≤ h1.size := Nat.le_trans Z0 K1.1
      have hrk1 : rk ≤ 1 := by rw [hrk]; exact own_rk_le _ _ _ _
      refine own_go (fun t_ k_ => XS.aloadN X1.here hx rfl (hb hby d1_48) rfl rfl k_) ?_
      show OwnFin p e below s _ _ _ (T1.setTop (mkF m 49 #[rv ae, rv ap, rv ar, iv pi, iv (Int32.ofNat ((si + 1) % 3)), iv (Int32.ofNat ((si + 2) % 3)), iv (Int32.ofNat rk)] [(.ref ap)]))
      refine own_go (fun t_ k_ => XS.iload X1.here hx rfl (hb hby d1_49) rfl k_) ?_
      show OwnFin p e below s _ _ _ (T1.setTop (mkF m 51 #[rv ae, rv ap, rv ar, iv pi, iv (Int32.ofNat ((si + 1) % 3)), iv (Int32.ofNat ((si + 2) % 3)), iv (Int32.ofNat rk)] [(.int (Int32.ofNat ((si + 2) % 3))), (.ref ap)]))
      refine own_go (own_zaload X1 hx hZ e1 H1 (i := ((si + 2) % 3)) rfl (by omega) (g := (mkF m 51 #[rv ae, rv ap, rv ar, iv pi, iv (Int32.ofNat ((si + 1) % 3)), iv (Int32.ofNat ((si + 2) % 3)), iv (Int32.ofNat rk)] [(.int (Int32.ofNat ((si + 2) % 3))), (.ref ap)])) rfl rfl (hb hby d1_51)) ?_
      show OwnFin p e below s _ _ _ (T1.setTop (mkF m 52 #[rv ae, rv ap, rv ar, iv pi, iv (Int32.ofNat ((si + 1) % 3)), iv (Int32.ofNat ((si + 2) % 3)), iv (Int32.ofNat rk)] [(.int (pr ((si + 2) % 3)))]))
      by_cases hc52 : (pr ((si + 2) % 3)) = (0 : Int32)
      · refine own_go (fun t_ k_ => XS.ifYes X1.here hx rfl (pc0 := 52) (pc' := 72) rfl (hb hby d1_52) rfl ((if0 _ _).trans (teq hc52).1) (by decide) (by decide) k_) ?_
        show OwnFin p e below s _ _ _ (T1.setTop (mkF m 72 #[rv ae, rv ap, rv ar, iv pi, iv (Int32.ofNat ((si + 1) % 3)), iv (Int32.ofNat ((si + 2) % 3)), iv (Int32.ofNat rk)] []))
        refine own_go (fun t_ k_ => XS.aloadN X1.here hx rfl (hb hby d1_72) rfl rfl k_) ?_
        show OwnFin p e below s _ _ _ (T1.setTop (mkF m 73 #[rv ae, rv ap, rv ar, iv pi, iv (Int32.ofNat ((si + 1) % 3)), iv (Int32.ofNat ((si + 2) % 3)), iv (Int32.ofNat rk)] [(.ref ae)]))
        refine own_go (fun t_ k_ => XS.iload X1.here hx rfl (hb hby d1_73) rfl k_) ?_
        show OwnFin p e below s _ _ _ (T1.setTop (mkF m 75 #[rv ae, rv ap, rv ar, iv pi, iv (Int32.ofNat ((si + 1) % 3)), iv (Int32.ofNat ((si + 2) % 3)), iv (Int32.ofNat rk)] [(.int (Int32.ofNat rk)), (.ref ae)]))
        refine own_go (fun t_ k_ => XS.iloadN X1.here hx rfl (hb hby d1_75) rfl k_) ?_
        show OwnFin p e below s _ _ _ (T1.setTop (mkF m 76 #[rv ae, rv ap, rv ar, iv pi, iv (Int32.ofNat ((si + 1) % 3)), iv (Int32.ofNat ((si + 2) % 3)), iv (Int32.ofNat rk)] [(.int pi), (.int (Int32.ofNat rk)), (.ref ae)]))
        obtain ⟨T1, h1, X1, e1, W1, A1, st1⟩ := own_iastore X1 hx hZ e1 H0 (i := rk) rfl (by omega) (g := (mkF m 76 #[rv ae, rv ap, rv ar, iv pi, iv (Int32.ofNat ((si + 1) % 3)), iv (Int32.ofNat ((si + 2) % 3)), iv (Int32.ofNat rk)] [(.int pi), (.int (Int32.ofNat rk)), (.ref ae)])) rfl rfl (hb hby d1_76)
        have H1_1 := H1.other W1 (Ne.symm ne_ae_ap)
        have H2_1 := H2.other W1 (Ne.symm ne_ae_ar)
        have Z1 : n0 ≤ h1.size := Nat.le_trans Z1 (Keep.of_wr W1).1
        have K1 : Keep h0 h1 [ae] := K1.wr W1 (Or.inl (List.mem_of_getElem? (i := 0) rfl))
        have N1 := Fr.snoc X1 N1 g_ae
        refine own_go st1 ?_
        show OwnFin p e below s _ _ _ (T1.setTop (mkF m 77 #[rv ae, rv ap, rv ar, iv pi, iv (Int32.ofNat ((si + 1) % 3)), iv (Int32.ofNat ((si + 2) % 3)), iv (Int32.ofNat rk)] []))
        refine own_ret X1 (v := none) hlk (fun _ => rfl) (fun fs hr => X1.returnOut hx hret (hb hby d1_77) hr) (by decide) (by decide) ?_
        rw [e1]
        exact ⟨rfl, N1, K1, A1.congr (fun z hz => own_place_pos (r2 := 0) hc3 hpi hrk ((if_neg (fun q => q.1 hc52)).symm) z)⟩
      · refine own_go (fun t_ k_ => XS.ifNo X1.here hx rfl (hb hby d1_52) rfl ((if0 _ _).trans (feq hc52).1) k_) ?_
        show OwnFin p e below s _ _ _ (T1.setTop (mkF m 55 #[rv ae, rv ap, rv ar, iv pi, iv (Int32.ofNat ((si + 1) % 3)), iv (Int32.ofNat ((si + 2) % 3)), iv (Int32.ofNat rk)] []))
        refine own_go (fun t_ k_ => XS.aloadN X1.here hx rfl (hb hby d1_55) rfl rfl k_) ?_
        show OwnFin p e below s _ _ _ (T1.setTop (mkF m 56 #[rv ae, rv ap, rv ar, iv pi, iv (Int32.ofNat ((si + 1) % 3)), iv (Int32.ofNat ((si + 2) % 3)), iv (Int32.ofNat rk)] [(.ref ar)]))
        refine own_go (fun t_ k_ => XS.iload X1.here hx rfl (hb hby d1_56) rfl k_) ?_
        show OwnFin p e below s _ _ _ (T1.setTop (mkF m 58 #[rv ae, rv ap, rv ar, iv pi, iv (Int32.ofNat ((si + 1) % 3)), iv (Int32.ofNat ((si + 2) % 3)), iv (Int32.ofNat rk)] [(.int (Int32.ofNat ((si + 2) % 3))), (.ref ar)]))
        obtain ⟨v2, T2, L2, X2, hQ2, st2⟩ := own_callS X1 hx hZ (y := (⟨"com/example/nearside/nearside/slotted/delay/FairBackNextPinLaw", "key", "([II)I"⟩ : MethodName)) hown (hw _ (List.mem_of_getElem? (i := 55) rfl)) (hw _ (List.mem_of_getElem? (i := 56) rfl)) (hw _ (List.mem_of_getElem? (i := 4) rfl)) (hw _ (List.mem_of_getElem? (i := 57) rfl)) (by decide) (W := 0) (rm8 l Z a0 hw [] ar (Int32.ofNat ((si + 2) % 3)) ((si + 2) % 3) _ h1 n0 Z1 rfl (by omega) H2) (by decide) (by decide) (g := (mkF m 58 #[rv ae, rv ap, rv ar, iv pi, iv (Int32.ofNat ((si + 1) % 3)), iv (Int32.ofNat ((si + 2) % 3)), iv (Int32.ofNat rk)] [(.int (Int32.ofNat ((si + 2) % 3))), (.ref ar)])) rfl (by rw [hml]; rfl) (argsL := [(.ref ar), (.int (Int32.ofNat ((si + 2) % 3)))]) (rest := []) (lenOf pd_1_7 rfl) rfl (by show 2 * 0 + _ ≤ _; exact Nat.le_of_eq rfl) (hb hby d1_58) e1 rfl (by decide) (by decide)
        obtain ⟨rfl, Nq2, e2⟩ := hQ2
        have N2 := Fr.app N1 Nq2
        refine own_go st2 ?_
        show OwnFin p e below s _ _ _ (T2.setTop (mkF m 61 #[rv ae, rv ap, rv ar, iv pi, iv (Int32.ofNat ((si + 1) % 3)), iv (Int32.ofNat ((si + 2) % 3)), iv (Int32.ofNat rk)] [(.int ((rn ((si + 2) % 3)) * (4 : Int32) + (Int32.ofNat ((si + 2) % 3))))]))
        refine own_go (fun t_ k_ => XS.aloadN X2.here hx rfl (hb hby d1_61) rfl rfl k_) ?_
        show OwnFin p e below s _ _ _ (T2.setTop (mkF m 62 #[rv ae, rv ap, rv ar, iv pi, iv (Int32.ofNat ((si + 1) % 3)), iv (Int32.ofNat ((si + 2) % 3)), iv (Int32.ofNat rk)] [(.ref ar), (.int ((rn ((si + 2) % 3)) * (4 : Int32) + (Int32.ofNat ((si + 2) % 3))))]))
        refine own_go (fun t_ k_ => XS.iloadN X2.here hx rfl (hb hby d1_62) rfl k_) ?_
        show OwnFin p e below s _ _ _ (T2.setTop (mkF m 63 #[rv ae, rv ap, rv ar, iv pi, iv (Int32.ofNat ((si + 1) % 3)), iv (Int32.ofNat ((si + 2) % 3)), iv (Int32.ofNat rk)] [(.int pi), (.ref ar), (.int ((rn ((si + 2) % 3)) * (4 : Int32) + (Int32.ofNat ((si + 2) % 3))))]))
        obtain ⟨v3, T3, L3, X3, hQ3, st3⟩ := own_callS X2 hx hZ (y := (⟨"com/example/nearside/nearside/slotted/delay/FairBackNextPinLaw", "key", "([II)I"⟩ : MethodName)) hown (hw _ (List.mem_of_getElem? (i := 55) rfl)) (hw _ (List.mem_of_getElem? (i := 56) rfl)) (hw _ (List.mem_of_getElem? (i := 4) rfl)) (hw _ (List.mem_of_getElem? (i := 57) rfl)) (by decide) (W := 1) (rm8 l Z a0 hw [] ar pi si _ h1 n0 Z1 hpi hsi H2) (by decide) (by decide) (g := (mkF m 63 #[rv ae, rv ap, rv ar, iv pi, iv (Int32.ofNat ((si + 1) % 3)), iv (Int32.ofNat ((si + 2) % 3)), iv (Int32.ofNat rk)] [(.int pi), (.ref ar), (.int ((rn ((si + 2) % 3)) * (4 : Int32) + (Int32.ofNat ((si + 2) % 3))))])) rfl (by rw [hml]; rfl) (argsL := [(.ref ar), (.int pi)]) (rest := [(.int ((rn ((si + 2) % 3)) * (4 : Int32) + (Int32.ofNat ((si + 2) % 3))))]) (lenOf pd_1_7 rfl) rfl (by show 2 * 0 + _ ≤ _; exact Nat.le_of_eq rfl) (hb hby d1_63) e2 rfl (by decide) (by decide)
        obtain ⟨rfl, Nq3, e3⟩ := hQ3
        have N3 := Fr.app N2 Nq3
        refine own_go st3 ?_
        show OwnFin p e below s _ _ _ (T3.setTop (mkF m 66 #[rv ae, rv ap, rv ar, iv pi, iv (Int32.ofNat ((si + 1) % 3)), iv (Int32.ofNat ((si + 2) % 3)), iv (Int32.ofNat rk)] [(.int ((rn si) * (4 : Int32) + pi)), (.int ((rn ((si + 2) % 3)) * (4 : Int32) + (Int32.ofNat ((si + 2) % 3))))]))
        by_cases hc66 : ((rn ((si + 2) % 3)) * (4 : Int32) + (Int32.ofNat ((si + 2) % 3))) < ((rn si) * (4 : Int32) + pi)
        · refine own_go (fun t_ k_ => XS.icmpNo X3.here hx rfl (hb hby d1_66) rfl (tlt hc66).2.1 k_) ?_
          show OwnFin p e below s _ _ _ (T3.setTop (mkF m 69 #[rv ae, rv ap, rv ar, iv pi, iv (Int32.ofNat ((si + 1) % 3)), iv (Int32.ofNat ((si + 2) % 3)), iv (Int32.ofNat rk)] []))
          refine own_go (fun t_ k_ => XS.iinc X3.here hx rfl (hb hby d1_69) rfl (l' := #[rv ae, rv ap, rv ar, iv pi, iv (Int32.ofNat ((si + 1) % 3)), iv (Int32.ofNat ((si + 2) % 3)), iv ((Int32.ofNat rk) + (1 : Int32))]) rfl k_) ?_
          show OwnFin p e below s _ _ _ (T3.setTop (mkF m 72 #[rv ae, rv ap, rv ar, iv pi, iv (Int32.ofNat ((si + 1) % 3)), iv (Int32.ofNat ((si + 2) % 3)), iv ((Int32.ofNat rk) + (1 : Int32))] []))
          refine own_go (fun t_ k_ => XS.aloadN X3.here hx rfl (hb hby d1_72) rfl rfl k_) ?_
          show OwnFin p e below s _ _ _ (T3.setTop (mkF m 73 #[rv ae, rv ap, rv ar, iv pi, iv (Int32.ofNat ((si + 1) % 3)), iv (Int32.ofNat ((si + 2) % 3)), iv ((Int32.ofNat rk) + (1 : Int32))] [(.ref ae)]))
          refine own_go (fun t_ k_ => XS.iload X3.here hx rfl (hb hby d1_73) rfl k_) ?_
          show OwnFin p e below s _ _ _ (T3.setTop (mkF m 75 #[rv ae, rv ap, rv ar, iv pi, iv (Int32.ofNat ((si + 1) % 3)), iv (Int32.ofNat ((si + 2) % 3)), iv ((Int32.ofNat rk) + (1 : Int32))] [(.int ((Int32.ofNat rk) + (1 : Int32))), (.ref ae)]))
          refine own_go (fun t_ k_ => XS.iloadN X3.here hx rfl (hb hby d1_75) rfl k_) ?_
          show OwnFin p e below s _ _ _ (T3.setTop (mkF m 76 #[rv ae, rv ap, rv ar, iv pi, iv (Int32.ofNat ((si + 1) % 3)), iv (Int32.ofNat ((si + 2) % 3)), iv ((Int32.ofNat rk) + (1 : Int32))] [(.int pi), (.int ((Int32.ofNat rk) + (1 : Int32))), (.ref ae)]))
          obtain ⟨T4, h4, X4, e4, W4, A4, st4⟩ := own_iastore X3 hx hZ e3 H0 (i := (rk + 1)) (inc_ofNat rk).symm (by omega) (g := (mkF m 76 #[rv ae, rv ap, rv ar, iv pi, iv (Int32.ofNat ((si + 1) % 3)), iv (Int32.ofNat ((si + 2) % 3)), iv ((Int32.ofNat rk) + (1 : Int32))] [(.int pi), (.int ((Int32.ofNat rk) + (1 : Int32))), (.ref ae)])) rfl rfl (hb hby d1_76)
          have H1_4 := H1.other W4 (Ne.symm ne_ae_ap)
          have H2_4 := H2.other W4 (Ne.symm ne_ae_ar)
          have Z4 : n0 ≤ h4.size := Nat.le_trans Z1 (Keep.of_wr W4).1
          have K4 : Keep h0 h4 [ae] := K1.wr W4 (Or.inl (List.mem_of_getElem? (i := 0) rfl))
          have N4 := Fr.snoc X4 N3 g_ae
          refine own_go st4 ?_
          show OwnFin p e below s _ _ _ (T4.setTop (mkF m 77 #[rv ae, rv ap, rv ar, iv pi, iv (Int32.ofNat ((si + 1) % 3)), iv (Int32.ofNat ((si + 2) % 3)), iv ((Int32.ofNat rk) + (1 : Int32))] []))
          refine own_ret X4 (v := none) hlk (fun _ => rfl) (fun fs hr => X4.returnOut hx hret (hb hby d1_77) hr) (by decide) (by decide) ?_
          rw [e4]
          exact ⟨rfl, N4, K4, A4.congr (fun z hz => own_place_pos (r2 := 1) hc3 hpi hrk ((if_pos ⟨hc52, hc66⟩).symm) z)⟩
        · refine own_go (fun t_ k_ => XS.icmpYes X3.here hx rfl (pc0 := 66) (pc' := 72) rfl (hb hby d1_66) rfl (flt hc66).2.1 (by decide) (by decide) k_) ?_
          show OwnFin p e below s _ _ _ (T3.setTop (mkF m 72 #[rv ae, rv ap, rv ar, iv pi, iv (Int32.ofNat ((si + 1) % 3)), iv (Int32.ofNat ((si + 2) % 3)), iv (Int32.ofNat rk)] []))
          refine own_go (fun t_ k_ => XS.aloadN X3.here hx rfl (hb hby d1_72) rfl rfl k_) ?_
          show OwnFin p e below s _ _ _ (T3.setTop (mkF m 73 #[rv ae, rv ap, rv ar, iv pi, iv (Int32.ofNat ((si + 1) % 3)), iv (Int32.ofNat ((si + 2) % 3)), iv (Int32.ofNat rk)] [(.ref ae)]))
          refine own_go (fun t_ k_ => XS.iload X3.here hx rfl (hb hby d1_73) rfl k_) ?_
          show OwnFin p e below s _ _ _ (T3.setTop (mkF m 75 #[rv ae, rv ap, rv ar, iv pi, iv (Int32.ofNat ((si + 1) % 3)), iv (Int32.ofNat ((si + 2) % 3)), iv (Int32.ofNat rk)] [(.int (Int32.ofNat rk)), (.ref ae)]))
          refine own_go (fun t_ k_ => XS.iloadN X3.here hx rfl (hb hby d1_75) rfl k_) ?_
          show OwnFin p e below s _ _ _ (T3.setTop (mkF m 76 #[rv ae, rv ap, rv ar, iv pi, iv (Int32.ofNat ((si + 1) % 3)), iv (Int32.ofNat ((si + 2) % 3)), iv (Int32.ofNat rk)] [(.int pi), (.int (Int32.ofNat rk)), (.ref ae)]))
          obtain ⟨T5, h5, X5, e5, W5, A5, st5⟩ := own_iastore X3 hx hZ e3 H0 (i := rk) rfl (by omega) (g := (mkF m 76 #[rv ae, rv ap, rv ar, iv pi, iv (Int32.ofNat ((si + 1) % 3)), iv (Int32.ofNat ((si + 2) % 3)), iv (Int32.ofNat rk)] [(.int pi), (.int (Int32.ofNat rk)), (.ref ae)])) rfl rfl (hb hby d1_76)
          have H1_5 := H1.other W5 (Ne.symm ne_ae_ap)
          have H2_5 := H2.other W5 (Ne.symm ne_ae_ar)
          have Z5 : n0 ≤ h5.size := Nat.le_trans Z1 (Keep.of_wr W5).1
          have K5 : Keep h0 h5 [ae] := K1.wr W5 (Or.inl (List.mem_of_getElem? (i := 0) rfl))
          have N5 := Fr.snoc X5 N3 g_ae
          refine own_go st5 ?_
          show OwnFin p e below s _ _ _ (T5.setTop (mkF m 77 #[rv ae, rv ap, rv ar, iv pi, iv (Int32.ofNat ((si + 1) % 3)), iv (Int32.ofNat ((si + 2) % 3)), iv (Int32.ofNat rk)] []))
          refine own_ret X5 (v := none) hlk (fun _ => rfl) (fun fs hr => X5.returnOut hx hret (hb hby d1_77) hr) (by decide) (by decide) ?_
          rw [e5]
          exact ⟨rfl, N5, K5, A5.congr (fun z hz => own_place_pos (r2 := 0) hc3 hpi hrk ((if_neg (fun q => hc66 q.2)).symm) z)⟩
    refine own_go (fun t_ k_ => XS.aloadN X0.here hx rfl (hb hby d1_24) rfl rfl k_) ?_
    show OwnFin p e below s _ _ _ (s₁.setTop (mkF m 25 #[rv ae, rv ap, rv ar, iv pi, iv (Int32.ofNat ((si + 1) % 3)), iv (Int32.ofNat ((si + 2) % 3)), iv (0 : Int32)] [(.ref ap)]))
    refine own_go (fun t_ k_ => XS.iload X0.here hx rfl (hb hby d1_25) rfl k_) ?_
    show OwnFin p e below s _ _ _ (s₁.setTop (mkF m 27 #[rv ae, rv ap, rv ar, iv pi, iv (Int32.ofNat ((si + 1) % 3)), iv (Int32.ofNat ((si + 2) % 3)), iv (0 : Int32)] [(.int (Int32.ofNat ((si + 1) % 3))), (.ref ap)]))
    refine own_go (own_zaload X0 hx hZ e0 V_ap (i := ((si + 1) % 3)) rfl (by omega) (g := (mkF m 27 #[rv ae, rv ap, rv ar, iv pi, iv (Int32.ofNat ((si + 1) % 3)), iv (Int32.ofNat ((si + 2) % 3)), iv (0 : Int32)] [(.int (Int32.ofNat ((si + 1) % 3))), (.ref ap)])) rfl rfl (hb hby d1_27)) ?_
    show OwnFin p e below s _ _ _ (s₁.setTop (mkF m 28 #[rv ae, rv ap, rv ar, iv pi, iv (Int32.ofNat ((si + 1) % 3)), iv (Int32.ofNat ((si + 2) % 3)), iv (0 : Int32)] [(.int (pr ((si + 1) % 3)))]))
    by_cases hc28 : (pr ((si + 1) % 3)) = (0 : Int32)
    · refine own_go (fun t_ k_ => XS.ifYes X0.here hx rfl (pc0 := 28) (pc' := 48) rfl (hb hby d1_28) rfl ((if0 _ _).trans (teq hc28).1) (by decide) (by decide) k_) ?_
      show OwnFin p e below s _ _ _ (s₁.setTop (mkF m 48 #[rv ae, rv ap, rv ar, iv pi, iv (Int32.ofNat ((si + 1) % 3)), iv (Int32.ofNat ((si + 2) % 3)), iv (0 : Int32)] []))
      exact jn 0 s₁ _ _ X0 e0 N0 K0 V_ae V_ap V_ar ((if_neg (fun q => q.1 hc28)).symm)
    · refine own_go (fun t_ k_ => XS.ifNo X0.here hx rfl (hb hby d1_28) rfl ((if0 _ _).trans (feq hc28).1) k_) ?_
      show OwnFin p e below s _ _ _ (s₁.setTop (mkF m 31 #[rv ae, rv ap, rv ar, iv pi, iv (Int32.ofNat ((si + 1) % 3)), iv (Int32.ofNat ((si + 2) % 3)), iv (0 : Int32)] []))
      refine own_go (fun t_ k_ => XS.aloadN X0.here hx rfl (hb hby d1_31) rfl rfl k_) ?_
      show OwnFin p e below s _ _ _ (s₁.setTop (mkF m 32 #[rv ae, rv ap, rv ar, iv pi, iv (Int32.ofNat ((si + 1) % 3)), iv (Int32.ofNat ((si + 2) % 3)), iv (0 : Int32)] [(.ref ar)]))
      refine own_go (fun t_ k_ => XS.iload X0.here hx rfl (hb hby d1_32) rfl k_) ?_
      show OwnFin p e below s _ _ _ (s₁.setTop (mkF m 34 #[rv ae, rv ap, rv ar, iv pi, iv (Int32.ofNat ((si + 1) % 3)), iv (Int32.ofNat ((si + 2) % 3)), iv (0 : Int32)] [(.int (Int32.ofNat ((si + 1) % 3))), (.ref ar)]))
      obtain ⟨v6, T6, L6, X6, hQ6, st6⟩ := own_callS X0 hx hZ (y := (⟨"com/example/nearside/nearside/slotted/delay/FairBackNextPinLaw", "key", "([II)I"⟩ : MethodName)) hown (hw _ (List.mem_of_getElem? (i := 55) rfl)) (hw _ (List.mem_of_getElem? (i := 56) rfl)) (hw _ (List.mem_of_getElem? (i := 4) rfl)) (hw _ (List.mem_of_getElem? (i := 57) rfl)) (by decide) (W := 0) (rm8 l Z a0 hw [] ar (Int32.ofNat ((si + 1) % 3)) ((si + 1) % 3) _ h0 n0 Z0 rfl (by omega) V_ar) (by decide) (by decide) (g := (mkF m 34 #[rv ae, rv ap, rv ar, iv pi, iv (Int32.ofNat ((si + 1) % 3)), iv (Int32.ofNat ((si + 2) % 3)), iv (0 : Int32)] [(.int (Int32.ofNat ((si + 1) % 3))), (.ref ar)])) rfl (by rw [hml]; rfl) (argsL := [(.ref ar), (.int (Int32.ofNat ((si + 1) % 3)))]) (rest := []) (lenOf pd_1_7 rfl) rfl (by show 2 * 0 + _ ≤ _; exact Nat.le_of_eq rfl) (hb hby d1_34) e0 rfl (by decide) (by decide)
      obtain ⟨rfl, Nq6, e6⟩ := hQ6
      have N6 := Fr.app N0 Nq6
      refine own_go st6 ?_
      show OwnFin p e below s _ _ _ (T6.setTop (mkF m 37 #[rv ae, rv ap, rv ar, iv pi, iv (Int32.ofNat ((si + 1) % 3)), iv (Int32.ofNat ((si + 2) % 3)), iv (0 : Int32)] [(.int ((rn ((si + 1) % 3)) * (4 : Int32) + (Int32.ofNat ((si + 1) % 3))))]))
      refine own_go (fun t_ k_ => XS.aloadN X6.here hx rfl (hb hby d1_37) rfl rfl k_) ?_
      show OwnFin p e below s _ _ _ (T6.setTop (mkF m 38 #[rv ae, rv ap, rv ar, iv pi, iv (Int32.ofNat ((si + 1) % 3)), iv (Int32.ofNat ((si + 2) % 3)), iv (0 : Int32)] [(.ref ar), (.int ((rn ((si + 1) % 3)) * (4 : Int32) + (Int32.ofNat ((si + 1) % 3))))]))
      refine own_go (fun t_ k_ => XS.iloadN X6.here hx rfl (hb hby d1_38) rfl k_) ?_
      show OwnFin p e below s _ _ _ (T6.setTop (mkF m 39 #[rv ae, rv ap, rv ar, iv pi, iv (Int32.ofNat ((si + 1) % 3)), iv (Int32.ofNat ((si + 2) % 3)), iv (0 : Int32)] [(.int pi), (.ref ar), (.int ((rn ((si + 1) % 3)) * (4 : Int32) + (Int32.ofNat ((si + 1) % 3))))]))
      obtain ⟨v7, T7, L7, X7, hQ7, st7⟩ := own_callS X6 hx hZ (y := (⟨"com/example/nearside/nearside/slotted/delay/FairBackNextPinLaw", "key", "([II)I"⟩ : MethodName)) hown (hw _ (List.mem_of_getElem? (i := 55) rfl)) (hw _ (List.mem_of_getElem? (i := 56) rfl)) (hw _ (List.mem_of_getElem? (i := 4) rfl)) (hw _ (List.mem_of_getElem? (i := 57) rfl)) (by decide) (W := 1) (rm8 l Z a0 hw [] ar pi si _ h0 n0 Z0 hpi hsi V_ar) (by decide) (by decide) (g := (mkF m 39 #[rv ae, rv ap, rv ar, iv pi, iv (Int32.ofNat ((si + 1) % 3)), iv (Int32.ofNat ((si + 2) % 3)), iv (0 : Int32)] [(.int pi), (.ref ar), (.int ((rn ((si + 1) % 3)) * (4 : Int32) + (Int32.ofNat ((si + 1) % 3))))])) rfl (by rw [hml]; rfl) (argsL := [(.ref ar), (.int pi)]) (rest := [(.int ((rn ((si + 1) % 3)) * (4 : Int32) + (Int32.ofNat ((si + 1) % 3))))]) (lenOf pd_1_7 rfl) rfl (by show 2 * 0 + _ ≤ _; exact Nat.le_of_eq rfl) (hb hby d1_39) e6 rfl (by decide) (by decide)
      obtain ⟨rfl, Nq7, e7⟩ := hQ7
      have N7 := Fr.app N6 Nq7
      refine own_go st7 ?_
      show OwnFin p e below s _ _ _ (T7.setTop (mkF m 42 #[rv ae, rv ap, rv ar, iv pi, iv (Int32.ofNat ((si + 1) % 3)), iv (Int32.ofNat ((si + 2) % 3)), iv (0 : Int32)] [(.int ((rn si) * (4 : Int32) + pi)), (.int ((rn ((si + 1) % 3)) * (4 : Int32) + (Int32.ofNat ((si + 1) % 3))))]))
      by_cases hc42 : ((rn ((si + 1) % 3)) * (4 : Int32) + (Int32.ofNat ((si + 1) % 3))) < ((rn si) * (4 : Int32) + pi)
      · refine own_go (fun t_ k_ => XS.icmpNo X7.here hx rfl (hb hby d1_42) rfl (tlt hc42).2.1 k_) ?_
        show OwnFin p e below s _ _ _ (T7.setTop (mkF m 45 #[rv ae, rv ap, rv ar, iv pi, iv (Int32.ofNat ((si + 1) % 3)), iv (Int32.ofNat ((si + 2) % 3)), iv (0 : Int32)] []))
        refine own_go (fun t_ k_ => XS.iinc X7.here hx rfl (hb hby d1_45) rfl (l' := #[rv ae, rv ap, rv ar, iv pi, iv (Int32.ofNat ((si + 1) % 3)), iv (Int32.ofNat ((si + 2) % 3)), iv (1 : Int32)]) rfl k_) ?_
        show OwnFin p e below s _ _ _ (T7.setTop (mkF m 48 #[rv ae, rv ap, rv ar, iv pi, iv (Int32.ofNat ((si + 1) % 3)), iv (Int32.ofNat ((si + 2) % 3)), iv (1 : Int32)] []))
        exact jn 1 T7 _ _ X7 e7 N7 K0 V_ae V_ap V_ar ((if_pos ⟨hc28, hc42⟩).symm)
      · refine own_go (fun t_ k_ => XS.icmpYes X7.here hx rfl (pc0 := 42) (pc' := 48) rfl (hb hby d1_42) rfl (flt hc42).2.1 (by decide) (by decide) k_) ?_
        show OwnFin p e below s _ _ _ (T7.setTop (mkF m 48 #[rv ae, rv ap, rv ar, iv pi, iv (Int32.ofNat ((si + 1) % 3)), iv (Int32.ofNat ((si + 2) % 3)), iv (0 : Int32)] []))
        exact jn 0 T7 _ _ X7 e7 N7 K0 V_ae V_ap V_ar ((if_neg (fun q => hc42 q.2)).symm)
theorem d7_0 : decode prog_156_method_6_code 0 = .ok (.aload_n 0, 1) := by decide +kernel
theorem d7_1 : decode prog_156_method_6_code 1 = .ok (.getfield 55, 3) := by decide +kernel
theorem d7_4 : decode prog_156_method_6_code 4 = .ok (.aload_n 0, 1) := by decide +kernel
theorem d7_5 : decode prog_156_method_6_code 5 = .ok (.getfield 58, 3) := by decide +kernel
theorem d7_8 : decode prog_156_method_6_code 8 = .ok (.if_icmp .ge 59, 3) := by decide +kernel
theorem d7_11 : decode prog_156_method_6_code 11 = .ok (.aload_n 0, 1) := by decide +kernel
theorem d7_12 : decode prog_156_method_6_code 12 = .ok (.getfield 52, 3) := by decide +kernel
theorem d7_15 : decode prog_156_method_6_code 15 = .ok (.aload_n 0, 1) := by decide +kernel
theorem d7_16 : decode prog_156_method_6_code 16 = .ok (.getfield 49, 3) := by decide +kernel
theorem d7_19 : decode prog_156_method_6_code 19 = .ok (.if_icmp .eq 25, 3) := by decide +kernel
theorem d7_22 : decode prog_156_method_6_code 22 = .ok (.aload_n 0, 1) := by decide +kernel
theorem d7_23 : decode prog_156_method_6_code 23 = .ok (.getfield 20, 3) := by decide +kernel
theorem d7_26 : decode prog_156_method_6_code 26 = .ok (.aload_n 0, 1) := by decide +kernel
theorem d7_27 : decode prog_156_method_6_code 27 = .ok (.getfield 55, 3) := by decide +kernel
theorem d7_30 : decode prog_156_method_6_code 30 = .ok (.laload, 1) := by decide +kernel
theorem d7_31 : decode prog_156_method_6_code 31 = .ok (.aload_n 0, 1) := by decide +kernel
theorem d7_32 : decode prog_156_method_6_code 32 = .ok (.getfield 16, 3) := by decide +kernel
theorem d7_35 : decode prog_156_method_6_code 35 = .ok (.aload_n 0, 1) := by decide +kernel
theorem d7_36 : decode prog_156_method_6_code 36 = .ok (.getfield 52, 3) := by decide +kernel
theorem d7_39 : decode prog_156_method_6_code 39 = .ok (.laload, 1) := by decide +kernel
theorem d7_40 : decode prog_156_method_6_code 40 = .ok (.lcmp, 1) := by decide +kernel
theorem d7_41 : decode prog_156_method_6_code 41 = .ok (.ifCond .ge 26, 3) := by decide +kernel
theorem d7_44 : decode prog_156_method_6_code 44 = .ok (.aload_n 0, 1) := by decide +kernel
theorem d7_45 : decode prog_156_method_6_code 45 = .ok (.getfield 20, 3) := by decide +kernel
theorem d7_48 : decode prog_156_method_6_code 48 = .ok (.aload_n 0, 1) := by decide +kernel
theorem d7_49 : decode prog_156_method_6_code 49 = .ok (.getfield 55, 3) := by decide +kernel
theorem d7_52 : decode prog_156_method_6_code 52 = .ok (.laload, 1) := by decide +kernel
theorem d7_53 : decode prog_156_method_6_code 53 = .ok (.lstore_n 1, 1) := by decide +kernel
theorem d7_54 : decode prog_156_method_6_code 54 = .ok (.aload_n 0, 1) := by decide +kernel
theorem d7_55 : decode prog_156_method_6_code 55 = .ok (.dup, 1) := by decide +kernel
theorem d7_56 : decode prog_156_method_6_code 56 = .ok (.getfield 55, 3) := by decide +kernel
theorem d7_59 : decode prog_156_method_6_code 59 = .ok (.iconst 1, 1) := by decide +kernel
theorem d7_60 : decode prog_156_method_6_code 60 = .ok (.iadd, 1) := by decide +kernel
theorem d7_61 : decode prog_156_method_6_code 61 = .ok (.putfield 55, 3) := by decide +kernel
theorem d7_64 : decode prog_156_method_6_code 64 = .ok (.lload_n 1, 1) := by decide +kernel
theorem d7_65 : decode prog_156_method_6_code 65 = .ok (.l2i, 1) := by decide +kernel
theorem d7_66 : decode prog_156_method_6_code 66 = .ok (.ireturn, 1) := by decide +kernel
theorem d7_67 : decode prog_156_method_6_code 67 = .ok (.aload_n 0, 1) := by decide +kernel
theorem d7_68 : decode prog_156_method_6_code 68 = .ok (.getfield 52, 3) := by decide +kernel
theorem d7_71 : decode prog_156_method_6_code 71 = .ok (.aload_n 0, 1) := by decide +kernel
theorem d7_72 : decode prog_156_method_6_code 72 = .ok (.getfield 49, 3) := by decide +kernel
theorem d7_75 : decode prog_156_method_6_code 75 = .ok (.if_icmp .ge 26, 3) := by decide +kernel
theorem d7_78 : decode prog_156_method_6_code 78 = .ok (.aload_n 0, 1) := by decide +kernel
theorem d7_79 : decode prog_156_method_6_code 79 = .ok (.getfield 16, 3) := by decide +kernel
theorem d7_82 : decode prog_156_method_6_code 82 = .ok (.aload_n 0, 1) := by decide +kernel
theorem d7_83 : decode prog_156_method_6_code 83 = .ok (.getfield 52, 3) := by decide +kernel
theorem d7_86 : decode prog_156_method_6_code 86 = .ok (.laload, 1) := by decide +kernel
theorem d7_87 : decode prog_156_method_6_code 87 = .ok (.lstore_n 1, 1) := by decide +kernel
theorem d7_88 : decode prog_156_method_6_code 88 = .ok (.aload_n 0, 1) := by decide +kernel
theorem d7_89 : decode prog_156_method_6_code 89 = .ok (.dup, 1) := by decide +kernel
theorem d7_90 : decode prog_156_method_6_code 90 = .ok (.getfield 52, 3) := by decide +kernel
theorem d7_93 : decode prog_156_method_6_code 93 = .ok (.iconst 1, 1) := by decide +kernel
theorem d7_94 : decode prog_156_method_6_code 94 = .ok (.iadd, 1) := by decide +kernel
theorem d7_95 : decode prog_156_method_6_code 95 = .ok (.putfield 52, 3) := by decide +kernel
theorem d7_98 : decode prog_156_method_6_code 98 = .ok (.lload_n 1, 1) := by decide +kernel
theorem d7_99 : decode prog_156_method_6_code 99 = .ok (.l2i, 1) := by decide +kernel
theorem d7_100 : decode prog_156_method_6_code 100 = .ok (.ireturn, 1) := by decide +kernel
theorem d7_101 : decode prog_156_method_6_code 101 = .ok (.iconst (-1), 1) := by decide +kernel
theorem d7_102 : decode prog_156_method_6_code 102 = .ok (.ireturn, 1) := by decide +kernel
theorem pn_7 : plainFor (⟨"com/example/nearside/nearside/slotted/delay/FairBack", "next", "()I"⟩ : MethodName) = true := plainFor_of_name (by first | (simp [plainName, overriddenIn]; done) | decide +kernel)
theorem ef_7 (m : MethodId) (fo : Addr) : entryFrame m #[(.ref fo)] 3 = mkF m 0 #[rv fo, .unset, .unset] [] := by first | (simp [entryFrame, mkF, argsToLocals, Value.category]; done) | rfl
set_option maxRecDepth 65536 in
set_option maxHeartbeats 40000000 in
theorem rm7 (l : Launch) (Z : State) (a0 : Array Value) (hw : ∀ d ∈ tables_1, d.before a0 Z = true) (ws : List Jvm.Cond) (fo : Addr) (aK : Addr) (aT : Addr) (aO : Addr) (n : Nat) (nk : Nat) (ra : Nat) (re : Nat) (F : Nat → Int64) (x : Int64) (fT : Nat → Value) (h0 : Heap) (n0 : Nat) (Z0 : n0 ≤ h0.size) (hn : n ≤ 3) (hnk : nk ≤ n) (hre : re ≤ 1) (hra : ra ≤ re) (hT : re = 1 → fT 0 = .long x) (E_fo : Exa Z h0 fo "com/example/nearside/nearside/slotted/delay/FairBack") (F_keys : Fld Z h0 fo "com/example/nearside/nearside/slotted/delay/FairBack" "keys" "[J" (.ref aK)) (F_retaken : Fld Z h0 fo "com/example/nearside/nearside/slotted/delay/FairBack" "retaken" "[J" (.ref aT)) (F_offeredFrom : Fld Z h0 fo "com/example/nearside/nearside/slotted/delay/FairBack" "offeredFrom" "[I" (.ref aO)) (F_sorted : Fld Z h0 fo "com/example/nearside/nearside/slotted/delay/FairBack" "sorted" "I" (.int (Int32.ofNat n))) (F_nextKey : Fld Z h0 fo "com/example/nearside/nearside/slotted/delay/FairBack" "nextKey" "I" (.int (Int32.ofNat nk))) (F_retakenAt : Fld Z h0 fo "com/example/nearside/nearside/slotted/delay/FairBack" "retakenAt" "I" (.int (Int32.ofNat ra))) (F_retakenEnd : Fld Z h0 fo "com/example/nearside/nearside/slotted/delay/FairBack" "retakenEnd" "I" (.int (Int32.ofNat re))) (V_aK : OwnArr Z h0 aK .long 3 (fun k => .long (F k))) (V_aT : OwnArr Z h0 aT .long 3 fT) (ne_fo_aK : fo ≠ aK) (ne_fo_aT : fo ≠ aT) (ne_aK_aT : aK ≠ aT) (g_fo : n0 ≤ fo) :
    OwnCtr l Z (⟨"com/example/nearside/nearside/slotted/delay/FairBack", "next", "()I"⟩ : MethodName) ws prog_156_method_6_code 3 (some .int) ({ frames := 0, cells := 0, slots := 0, locals := 0 } : Room) #[(.ref fo)] h0 (fun v h L => ∃ (o : Int32) (nk' ra' : Nat), own_nxt n F x re nk ra = (o, nk', ra') ∧ nk' ≤ n ∧ ra' ≤ re ∧ v = some (.int o) ∧ Fr n0 L ∧ Keep h0 h [fo] ∧ Exa Z h fo "com/example/nearside/nearside/slotted/delay/FairBack" ∧ Fld Z h fo "com/example/nearside/nearside/slotted/delay/FairBack" "keys" "[J" (.ref aK) ∧ Fld Z h fo "com/example/nearside/nearside/slotted/delay/FairBack" "retaken" "[J" (.ref aT) ∧ Fld Z h fo "com/example/nearside/nearside/slotted/delay/FairBack" "offeredFrom" "[I" (.ref aO) ∧ Fld Z h fo "com/example/nearside/nearside/slotted/delay/FairBack" "sorted" "I" (.int (Int32.ofNat n)) ∧ Fld Z h fo "com/example/nearside/nearside/slotted/delay/FairBack" "nextKey" "I" (.int (Int32.ofNat nk')) ∧ Fld Z h fo "com/example/nearside/nearside/slotted/delay/FairBack" "retakenAt" "I" (.int (Int32.ofNat ra')) ∧ Fld Z h fo "com/example/nearside/nearside/slotted/delay/FairBack" "retakenEnd" "I" (.int (Int32.ofNat re))) := by
  refine own_body (g0 := fun m => mkF m 0 #[rv fo, .unset, .unset] []) pn_7 (fun m => ef_7 m fo) ?_
  intro p e s m below meth c s₁ X0 hx hby hml hown hnm hZ e0 hret hlk
  have hml : c.maxLocals = 3 := hml
  have hown : s.vm.findClass "com/example/nearside/nearside/slotted/delay/FairBack" = some m.cls := hown
  have hnm : meth.name = "next" := hnm
  have hret : meth.sig.returnType = (some .int) := hret
  have N0 := Fr.nil n0
  have K0 := Keep.refl h0 [fo]
  show OwnFin p e below s _ _ _ (s₁.setTop (mkF m 0 #[rv fo, .unset, .unset] []))
  refine own_go (fun t_ k_ => XS.aloadN X0.here hx rfl (hb hby d7_0) rfl rfl k_) ?_
  show OwnFin p e below s _ _ _ (s₁.setTop (mkF m 1 #[rv fo, .unset, .unset] [(.ref fo)]))
  obtain ⟨T1, X1, e1, st1⟩ := getF X0 hx hZ hown (host := "") (Or.inl (hw _ (List.mem_of_getElem? (i := 46) rfl))) Via.refl e0 F_retakenAt (g := (mkF m 1 #[rv fo, .unset, .unset] [(.ref fo)])) rfl rfl (hb hby d7_1)
  refine own_go st1 ?_
  show OwnFin p e below s _ _ _ (T1.setTop (mkF m 4 #[rv fo, .unset, .unset] [(.int (Int32.ofNat ra))]))
  refine own_go (fun t_ k_ => XS.aloadN X1.here hx rfl (hb hby d7_4) rfl rfl k_) ?_
  show OwnFin p e below s _ _ _ (T1.setTop (mkF m 5 #[rv fo, .unset, .unset] [(.ref fo), (.int (Int32.ofNat ra))]))
  obtain ⟨T2, X2, e2, st2⟩ := getF X1 hx hZ hown (host := "") (Or.inl (hw _ (List.mem_of_getElem? (i := 48) rfl))) Via.refl e1 F_retakenEnd (g := (mkF m 5 #[rv fo, .unset, .unset] [(.ref fo), (.int (Int32.ofNat ra))])) rfl rfl (hb hby d7_5)
  refine own_go st2 ?_
  show OwnFin p e below s _ _ _ (T2.setTop (mkF m 8 #[rv fo, .unset, .unset] [(.int (Int32.ofNat re)), (.int (Int32.ofNat ra))]))
  by_cases hc8 : (Int32.ofNat ra) < (Int32.ofNat re)
  · refine own_go (fun t_ k_ => XS.icmpNo X2.here hx rfl (hb hby d7_8) rfl (tlt hc8).2.1 k_) ?_
    show OwnFin p e below s _ _ _ (T2.setTop (mkF m 11 #[rv fo, .unset, .unset] []))
    have h8 : ra < re := (own_ltN (by omega) (by omega)).mp hc8
    have era : ra = 0 := by omega
    have hTx : fT ra = .long x := by rw [era]; exact hT (by omega)
    refine own_go (fun t_ k_ => XS.aloadN X2.here hx rfl (hb hby d7_11) rfl rfl k_) ?_
    show OwnFin p e below s _ _ _ (T2.setTop (mkF m 12 #[rv fo, .unset, .unset] [(.ref fo)]))
    obtain ⟨T3, X3, e3, st3⟩ := getF X2 hx hZ hown (host := "") (Or.inl (hw _ (List.mem_of_getElem? (i := 44) rfl))) Via.refl e2 F_nextKey (g := (mkF m 12 #[rv fo, .unset, .unset] [(.ref fo)])) rfl rfl (hb hby d7_12)
    refine own_go st3 ?_
    show OwnFin p e below s _ _ _ (T3.setTop (mkF m 15 #[rv fo, .unset, .unset] [(.int (Int32.ofNat nk))]))
    refine own_go (fun t_ k_ => XS.aloadN X3.here hx rfl (hb hby d7_15) rfl rfl k_) ?_
    show OwnFin p e below s _ _ _ (T3.setTop (mkF m 16 #[rv fo, .unset, .unset] [(.ref fo), (.int (Int32.ofNat nk))]))
    obtain ⟨T4, X4, e4, st4⟩ := getF X3 hx hZ hown (host := "") (Or.inl (hw _ (List.mem_of_getElem? (i := 42) rfl))) Via.refl e3 F_sorted (g := (mkF m 16 #[rv fo, .unset, .unset] [(.ref fo), (.int (Int32.ofNat nk))])) rfl rfl (hb hby d7_16)
    refine own_go st4 ?_
    show OwnFin p e below s _ _ _ (T4.setTop (mkF m 19 #[rv fo, .unset, .unset] [(.int (Int32.ofNat n)), (.int (Int32.ofNat nk))]))
    by_cases hc19 : (Int32.ofNat nk) = (Int32.ofNat n)
    · refine own_go (fun t_ k_ => XS.icmpYes X4.here hx rfl (pc0 := 19) (pc' := 44) rfl (hb hby d7_19) rfl (teq hc19).1 (by decide) (by decide) k_) ?_
      show OwnFin p e below s _ _ _ (T4.setTop (mkF m 44 #[rv fo, .unset, .unset] []))
      have h8p : ra < re ∧ (nk = n ∨ x < F nk) := by first | exact ⟨h8, Or.inl (own_ofNat_inj (by omega) (by omega) hc19)⟩ | exact ⟨h8, Or.inr hc41⟩
      refine own_go (fun t_ k_ => XS.aloadN X4.here hx rfl (hb hby d7_44) rfl rfl k_) ?_
      show OwnFin p e below s _ _ _ (T4.setTop (mkF m 45 #[rv fo, .unset, .unset] [(.ref fo)]))
      obtain ⟨T5, X5, e5, st5⟩ := getF X4 hx hZ hown (host := "") (Or.inl (hw _ (List.mem_of_getElem? (i := 22) rfl))) Via.refl e4 F_retaken (g := (mkF m 45 #[rv fo, .unset, .unset] [(.ref fo)])) rfl rfl (hb hby d7_45)
      refine own_go st5 ?_
      show OwnFin p e below s _ _ _ (T5.setTop (mkF m 48 #[rv fo, .unset, .unset] [(.ref aT)]))
      refine own_go (fun t_ k_ => XS.aloadN X5.here hx rfl (hb hby d7_48) rfl rfl k_) ?_
      show OwnFin p e below s _ _ _ (T5.setTop (mkF m 49 #[rv fo, .unset, .unset] [(.ref fo), (.ref aT)]))
      obtain ⟨T6, X6, e6, st6⟩ := getF X5 hx hZ hown (host := "") (Or.inl (hw _ (List.mem_of_getElem? (i := 46) rfl))) Via.refl e5 F_retakenAt (g := (mkF m 49 #[rv fo, .unset, .unset] [(.ref fo), (.ref aT)])) rfl rfl (hb hby d7_49)
      refine own_go st6 ?_
      show OwnFin p e below s _ _ _ (T6.setTop (mkF m 52 #[rv fo, .unset, .unset] [(.int (Int32.ofNat ra)), (.ref aT)]))
      have hl7 := own_laload X6 hx hZ e6 V_aT (i := ra) rfl (by omega) (g := (mkF m 52 #[rv fo, .unset, .unset] [(.int (Int32.ofNat ra)), (.ref aT)])) rfl rfl (hb hby d7_52)
      rw [hTx] at hl7
      refine own_go hl7 ?_
      show OwnFin p e below s _ _ _ (T6.setTop (mkF m 53 #[rv fo, .unset, .unset] [(.long x)]))
      refine own_go (fun t_ k_ => XS.lstoreN X6.here hx rfl (hb hby d7_53) rfl (l' := #[rv fo, .val (.long x), .second]) rfl k_) ?_
      show OwnFin p e below s _ _ _ (T6.setTop (mkF m 54 #[rv fo, .val (.long x), .second] []))
      refine own_go (fun t_ k_ => XS.aloadN X6.here hx rfl (hb hby d7_54) rfl rfl k_) ?_
      show OwnFin p e below s _ _ _ (T6.setTop (mkF m 55 #[rv fo, .val (.long x), .second] [(.ref fo)]))
      refine own_go (fun t_ k_ => XS.dup X6.here hx rfl (hb hby d7_55) rfl rfl k_) ?_
      show OwnFin p e below s _ _ _ (T6.setTop (mkF m 56 #[rv fo, .val (.long x), .second] [(.ref fo), (.ref fo)]))
      obtain ⟨T8, X8, e8, st8⟩ := getF X6 hx hZ hown (host := "") (Or.inl (hw _ (List.mem_of_getElem? (i := 46) rfl))) Via.refl e6 F_retakenAt (g := (mkF m 56 #[rv fo, .val (.long x), .second] [(.ref fo), (.ref fo)])) rfl rfl (hb hby d7_56)
      refine own_go st8 ?_
      show OwnFin p e below s _ _ _ (T8.setTop (mkF m 59 #[rv fo, .val (.long x), .second] [(.int (Int32.ofNat ra)), (.ref fo)]))
      refine own_go (fun t_ k_ => XS.iconst X8.here hx rfl (hb hby d7_59) k_) ?_
      show OwnFin p e below s _ _ _ (T8.setTop (mkF m 60 #[rv fo, .val (.long x), .second] [(.int (1 : Int32)), (.int (Int32.ofNat ra)), (.ref fo)]))
      refine own_go (fun t_ k_ => XS.iadd X8.here hx rfl (hb hby d7_60) rfl k_) ?_
      show OwnFin p e below s _ _ _ (T8.setTop (mkF m 61 #[rv fo, .val (.long x), .second] [(.int ((Int32.ofNat ra) + (1 : Int32))), (.ref fo)]))
      obtain ⟨T9, h9, X9, e9, W9, st9⟩ := putF X8 hx hZ hown (host := "") (Or.inl (hw _ (List.mem_of_getElem? (i := 46) rfl))) Via.refl e8 F_retakenAt E_fo (Or.inl (hw _ (List.mem_of_getElem? (i := 47) rfl))) (hw _ (List.mem_of_getElem? (i := 7) rfl)) (ty := .int) (by decide) rfl rfl (g := (mkF m 61 #[rv fo, .val (.long x), .second] [(.int ((Int32.ofNat ra) + (1 : Int32))), (.ref fo)])) rfl rfl (hb hby d7_61)
      have E_fo_9 := E_fo.wr W9
      have F_keys_9 := F_keys.other W9 (Or.inr (slot_ne (Or.inr (hw _ (List.mem_of_getElem? (i := 21) rfl))) (Or.inl (hw _ (List.mem_of_getElem? (i := 47) rfl))) (by decide) (t := (.array .long)) (t' := .int) (by decide) (by decide)))
      have F_retaken_9 := F_retaken.other W9 (Or.inr (slot_ne (Or.inr (hw _ (List.mem_of_getElem? (i := 23) rfl))) (Or.inl (hw _ (List.mem_of_getElem? (i := 47) rfl))) (by decide) (t := (.array .long)) (t' := .int) (by decide) (by decide)))
      have F_offeredFrom_9 := F_offeredFrom.other W9 (Or.inr (slot_ne (Or.inl (hw _ (List.mem_of_getElem? (i := 27) rfl))) (Or.inl (hw _ (List.mem_of_getElem? (i := 47) rfl))) (by decide) (t := (.array .int)) (t' := .int) (by decide) (by decide)))
      have F_sorted_9 := F_sorted.other W9 (Or.inr (slot_ne (Or.inl (hw _ (List.mem_of_getElem? (i := 43) rfl))) (Or.inl (hw _ (List.mem_of_getElem? (i := 47) rfl))) (by decide) (t := .int) (t' := .int) (by decide) (by decide)))
      have F_nextKey_9 := F_nextKey.other W9 (Or.inr (slot_ne (Or.inl (hw _ (List.mem_of_getElem? (i := 45) rfl))) (Or.inl (hw _ (List.mem_of_getElem? (i := 47) rfl))) (by decide) (t := .int) (t' := .int) (by decide) (by decide)))
      have F_retakenAt_9 := F_retakenAt.same W9
      have F_retakenEnd_9 := F_retakenEnd.other W9 (Or.inr (slot_ne (Or.inl (hw _ (List.mem_of_getElem? (i := 49) rfl))) (Or.inl (hw _ (List.mem_of_getElem? (i := 47) rfl))) (by decide) (t := .int) (t' := .int) (by decide) (by decide)))
      have V_aK_9 := V_aK.other W9 (Ne.symm ne_fo_aK)
      have V_aT_9 := V_aT.other W9 (Ne.symm ne_fo_aT)
      have Z9 : n0 ≤ h9.size := Nat.le_trans Z0 (Keep.of_wr W9).1
      have K9 : Keep h0 h9 [fo] := K0.wr W9 (Or.inl (List.mem_of_getElem? (i := 0) rfl))
      have N9 := Fr.snoc X9 N0 g_fo
      refine own_go st9 ?_
      show OwnFin p e below s _ _ _ (T9.setTop (mkF m 64 #[rv fo, .val (.long x), .second] []))
      refine own_go (fun t_ k_ => XS.lloadN X9.here hx rfl (hb hby d7_64) rfl k_) ?_
      show OwnFin p e below s _ _ _ (T9.setTop (mkF m 65 #[rv fo, .val (.long x), .second] [(.long x)]))
      refine own_go (fun t_ k_ => XS.l2i X9.here hx rfl (hb hby d7_65) rfl k_) ?_
      show OwnFin p e below s _ _ _ (T9.setTop (mkF m 66 #[rv fo, .val (.long x), .second] [(.int (x.toInt32))]))
      refine own_ret X9 (v := some (.int (x.toInt32))) hlk (fun hh => by rw [hret] at hh; cases hh) (fun fs hr => own_retI X9 hx hret (hb hby d7_66) hr) (by decide) (by decide) ?_
      rw [e9]
      exact ⟨x.toInt32, nk, ra + 1, if_pos h8p, by omega, by omega, rfl, N9, K9, E_fo_9, F_keys_9, F_retaken_9, F_offeredFrom_9, F_sorted_9, F_nextKey_9, (by rw [inc_ofNat ra]; exact F_retakenAt_9), F_retakenEnd_9⟩
    · refine own_go (fun t_ k_ => XS.icmpNo X4.here hx rfl (hb hby d7_19) rfl (feq hc19).1 k_) ?_
      show OwnFin p e below s _ _ _ (T4.setTop (mkF m 22 #[rv fo, .unset, .unset] []))
      have h19 : ¬ nk = n := fun q => hc19 (by rw [q])
      refine own_go (fun t_ k_ => XS.aloadN X4.here hx rfl (hb hby d7_22) rfl rfl k_) ?_
      show OwnFin p e below s _ _ _ (T4.setTop (mkF m 23 #[rv fo, .unset, .unset] [(.ref fo)]))
      obtain ⟨T10, X10, e10, st10⟩ := getF X4 hx hZ hown (host := "") (Or.inl (hw _ (List.mem_of_getElem? (i := 22) rfl))) Via.refl e4 F_retaken (g := (mkF m 23 #[rv fo, .unset, .unset] [(.ref fo)])) rfl rfl (hb hby d7_23)
      refine own_go st10 ?_
      show OwnFin p e below s _ _ _ (T10.setTop (mkF m 26 #[rv fo, .unset, .unset] [(.ref aT)]))
      refine own_go (fun t_ k_ => XS.aloadN X10.here hx rfl (hb hby d7_26) rfl rfl k_) ?_
      show OwnFin p e below s _ _ _ (T10.setTop (mkF m 27 #[rv fo, .unset, .unset] [(.ref fo), (.ref aT)]))
      obtain ⟨T11, X11, e11, st11⟩ := getF X10 hx hZ hown (host := "") (Or.inl (hw _ (List.mem_of_getElem? (i := 46) rfl))) Via.refl e10 F_retakenAt (g := (mkF m 27 #[rv fo, .unset, .unset] [(.ref fo), (.ref aT)])) rfl rfl (hb hby d7_27)
      refine own_go st11 ?_
      show OwnFin p e below s _ _ _ (T11.setTop (mkF m 30 #[rv fo, .unset, .unset] [(.int (Int32.ofNat ra)), (.ref aT)]))
      have hl12 := own_laload X11 hx hZ e11 V_aT (i := ra) rfl (by omega) (g := (mkF m 30 #[rv fo, .unset, .unset] [(.int (Int32.ofNat ra)), (.ref aT)])) rfl rfl (hb hby d7_30)
      rw [hTx] at hl12
      refine own_go hl12 ?_
      show OwnFin p e below s _ _ _ (T11.setTop (mkF m 31 #[rv fo, .unset, .unset] [(.long x)]))
      refine own_go (fun t_ k_ => XS.aloadN X11.here hx rfl (hb hby d7_31) rfl rfl k_) ?_
      show OwnFin p e below s _ _ _ (T11.setTop (mkF m 32 #[rv fo, .unset, .unset] [(.ref fo), (.long x)]))
      obtain ⟨T13, X13, e13, st13⟩ := getF X11 hx hZ hown (host := "") (Or.inl (hw _ (List.mem_of_getElem? (i := 20) rfl))) Via.refl e11 F_keys (g := (mkF m 32 #[rv fo, .unset, .unset] [(.ref fo), (.long x)])) rfl rfl (hb hby d7_32)
      refine own_go st13 ?_
      show OwnFin p e below s _ _ _ (T13.setTop (mkF m 35 #[rv fo, .unset, .unset] [(.ref aK), (.long x)]))
      refine own_go (fun t_ k_ => XS.aloadN X13.here hx rfl (hb hby d7_35) rfl rfl k_) ?_
      show OwnFin p e below s _ _ _ (T13.setTop (mkF m 36 #[rv fo, .unset, .unset] [(.ref fo), (.ref aK), (.long x)]))
      obtain ⟨T14, X14, e14, st14⟩ := getF X13 hx hZ hown (host := "") (Or.inl (hw _ (List.mem_of_getElem? (i := 44) rfl))) Via.refl e13 F_nextKey (g := (mkF m 36 #[rv fo, .unset, .unset] [(.ref fo), (.ref aK), (.long x)])) rfl rfl (hb hby d7_36)
      refine own_go st14 ?_
      show OwnFin p e below s _ _ _ (T14.setTop (mkF m 39 #[rv fo, .unset, .unset] [(.int (Int32.ofNat nk)), (.ref aK), (.long x)]))
      refine own_go (own_laload X14 hx hZ e14 V_aK (i := nk) rfl (by omega) (g := (mkF m 39 #[rv fo, .unset, .unset] [(.int (Int32.ofNat nk)), (.ref aK), (.long x)])) rfl rfl (hb hby d7_39)) ?_
      show OwnFin p e below s _ _ _ (T14.setTop (mkF m 40 #[rv fo, .unset, .unset] [(.long (F nk)), (.long x)]))
      refine own_go (fun t_ k_ => XS.lcmp X14.here hx rfl (hb hby d7_40) rfl k_) ?_
      show OwnFin p e below s _ _ _ (T14.setTop (mkF m 41 #[rv fo, .unset, .unset] [(.int (lcmpW x (F nk)))]))
      by_cases hc41 : x < (F nk)
      · refine own_go (fun t_ k_ => XS.ifNo X14.here hx rfl (hb hby d7_41) rfl ((if0 _ _).trans (tlt ((lw_lt x (F nk)).mpr hc41)).2.1) k_) ?_
        show OwnFin p e below s _ _ _ (T14.setTop (mkF m 44 #[rv fo, .unset, .unset] []))
        have h8p : ra < re ∧ (nk = n ∨ x < F nk) := by first | exact ⟨h8, Or.inl (own_ofNat_inj (by omega) (by omega) hc19)⟩ | exact ⟨h8, Or.inr hc41⟩
        refine own_go (fun t_ k_ => XS.aloadN X14.here hx rfl (hb hby d7_44) rfl rfl k_) ?_
        show OwnFin p e below s _ _ _ (T14.setTop (mkF m 45 #[rv fo, .unset, .unset] [(.ref fo)]))
        obtain ⟨T15, X15, e15, st15⟩ := getF X14 hx hZ hown (host := "") (Or.inl (hw _ (List.mem_of_getElem? (i := 22) rfl))) Via.refl e14 F_retaken (g := (mkF m 45 #[rv fo, .unset, .unset] [(.ref fo)])) rfl rfl (hb hby d7_45)
        refine own_go st15 ?_
        show OwnFin p e below s _ _ _ (T15.setTop (mkF m 48 #[rv fo, .unset, .unset] [(.ref aT)]))
        refine own_go (fun t_ k_ => XS.aloadN X15.here hx rfl (hb hby d7_48) rfl rfl k_) ?_
        show OwnFin p e below s _ _ _ (T15.setTop (mkF m 49 #[rv fo, .unset, .unset] [(.ref fo), (.ref aT)]))
        obtain ⟨T16, X16, e16, st16⟩ := getF X15 hx hZ hown (host := "") (Or.inl (hw _ (List.mem_of_getElem? (i := 46) rfl))) Via.refl e15 F_retakenAt (g := (mkF m 49 #[rv fo, .unset, .unset] [(.ref fo), (.ref aT)])) rfl rfl (hb hby d7_49)
        refine own_go st16 ?_
        show OwnFin p e below s _ _ _ (T16.setTop (mkF m 52 #[rv fo, .unset, .unset] [(.int (Int32.ofNat ra)), (.ref aT)]))
        have hl17 := own_laload X16 hx hZ e16 V_aT (i := ra) rfl (by omega) (g := (mkF m 52 #[rv fo, .unset, .unset] [(.int (Int32.ofNat ra)), (.ref aT)])) rfl rfl (hb hby d7_52)
        rw [hTx] at hl17
        refine own_go hl17 ?_
        show OwnFin p e below s _ _ _ (T16.setTop (mkF m 53 #[rv fo, .unset, .unset] [(.long x)]))
        refine own_go (fun t_ k_ => XS.lstoreN X16.here hx rfl (hb hby d7_53) rfl (l' := #[rv fo, .val (.long x), .second]) rfl k_) ?_
        show OwnFin p e below s _ _ _ (T16.setTop (mkF m 54 #[rv fo, .val (.long x), .second] []))
        refine own_go (fun t_ k_ => XS.aloadN X16.here hx rfl (hb hby d7_54) rfl rfl k_) ?_
        show OwnFin p e below s _ _ _ (T16.setTop (mkF m 55 #[rv fo, .val (.long x), .second] [(.ref fo)]))
        refine own_go (fun t_ k_ => XS.dup X16.here hx rfl (hb hby d7_55) rfl rfl k_) ?_
        show OwnFin p e below s _ _ _ (T16.setTop (mkF m 56 #[rv fo, .val (.long x), .second] [(.ref fo), (.ref fo)]))
        obtain ⟨T18, X18, e18, st18⟩ := getF X16 hx hZ hown (host := "") (Or.inl (hw _ (List.mem_of_getElem? (i := 46) rfl))) Via.refl e16 F_retakenAt (g := (mkF m 56 #[rv fo, .val (.long x), .second] [(.ref fo), (.ref fo)])) rfl rfl (hb hby d7_56)
        refine own_go st18 ?_
        show OwnFin p e below s _ _ _ (T18.setTop (mkF m 59 #[rv fo, .val (.long x), .second] [(.int (Int32.ofNat ra)), (.ref fo)]))
        refine own_go (fun t_ k_ => XS.iconst X18.here hx rfl (hb hby d7_59) k_) ?_
        show OwnFin p e below s _ _ _ (T18.setTop (mkF m 60 #[rv fo, .val (.long x), .second] [(.int (1 : Int32)), (.int (Int32.ofNat ra)), (.ref fo)]))
        refine own_go (fun t_ k_ => XS.iadd X18.here hx rfl (hb hby d7_60) rfl k_) ?_
        show OwnFin p e below s _ _ _ (T18.setTop (mkF m 61 #[rv fo, .val (.long x), .second] [(.int ((Int32.ofNat ra) + (1 : Int32))), (.ref fo)]))
        obtain ⟨T19, h19, X19, e19, W19, st19⟩ := putF X18 hx hZ hown (host := "") (Or.inl (hw _ (List.mem_of_getElem? (i := 46) rfl))) Via.refl e18 F_retakenAt E_fo (Or.inl (hw _ (List.mem_of_getElem? (i := 47) rfl))) (hw _ (List.mem_of_getElem? (i := 7) rfl)) (ty := .int) (by decide) rfl rfl (g := (mkF m 61 #[rv fo, .val (.long x), .second] [(.int ((Int32.ofNat ra) + (1 : Int32))), (.ref fo)])) rfl rfl (hb hby d7_61)
        have E_fo_19 := E_fo.wr W19
        have F_keys_19 := F_keys.other W19 (Or.inr (slot_ne (Or.inr (hw _ (List.mem_of_getElem? (i := 21) rfl))) (Or.inl (hw _ (List.mem_of_getElem? (i := 47) rfl))) (by decide) (t := (.array .long)) (t' := .int) (by decide) (by decide)))
        have F_retaken_19 := F_retaken.other W19 (Or.inr (slot_ne (Or.inr (hw _ (List.mem_of_getElem? (i := 23) rfl))) (Or.inl (hw _ (List.mem_of_getElem? (i := 47) rfl))) (by decide) (t := (.array .long)) (t' := .int) (by decide) (by decide)))
        have F_offeredFrom_19 := F_offeredFrom.other W19 (Or.inr (slot_ne (Or.inl (hw _ (List.mem_of_getElem? (i := 27) rfl))) (Or.inl (hw _ (List.mem_of_getElem? (i := 47) rfl))) (by decide) (t := (.array .int)) (t' := .int) (by decide) (by decide)))
        have F_sorted_19 := F_sorted.other W19 (Or.inr (slot_ne (Or.inl (hw _ (List.mem_of_getElem? (i := 43) rfl))) (Or.inl (hw _ (List.mem_of_getElem? (i := 47) rfl))) (by decide) (t := .int) (t' := .int) (by decide) (by decide)))
        have F_nextKey_19 := F_nextKey.other W19 (Or.inr (slot_ne (Or.inl (hw _ (List.mem_of_getElem? (i := 45) rfl))) (Or.inl (hw _ (List.mem_of_getElem? (i := 47) rfl))) (by decide) (t := .int) (t' := .int) (by decide) (by decide)))
        have F_retakenAt_19 := F_retakenAt.same W19
        have F_retakenEnd_19 := F_retakenEnd.other W19 (Or.inr (slot_ne (Or.inl (hw _ (List.mem_of_getElem? (i := 49) rfl))) (Or.inl (hw _ (List.mem_of_getElem? (i := 47) rfl))) (by decide) (t := .int) (t' := .int) (by decide) (by decide)))
        have V_aK_19 := V_aK.other W19 (Ne.symm ne_fo_aK)
        have V_aT_19 := V_aT.other W19 (Ne.symm ne_fo_aT)
        have Z19 : n0 ≤ h19.size := Nat.le_trans Z0 (Keep.of_wr W19).1
        have K19 : Keep h0 h19 [fo] := K0.wr W19 (Or.inl (List.mem_of_getElem? (i := 0) rfl))
        have N19 := Fr.snoc X19 N0 g_fo
        refine own_go st19 ?_
        show OwnFin p e below s _ _ _ (T19.setTop (mkF m 64 #[rv fo, .val (.long x), .second] []))
        refine own_go (fun t_ k_ => XS.lloadN X19.here hx rfl (hb hby d7_64) rfl k_) ?_
        show OwnFin p e below s _ _ _ (T19.setTop (mkF m 65 #[rv fo, .val (.long x), .second] [(.long x)]))
        refine own_go (fun t_ k_ => XS.l2i X19.here hx rfl (hb hby d7_65) rfl k_) ?_
        show OwnFin p e below s _ _ _ (T19.setTop (mkF m 66 #[rv fo, .val (.long x), .second] [(.int (x.toInt32))]))
        refine own_ret X19 (v := some (.int (x.toInt32))) hlk (fun hh => by rw [hret] at hh; cases hh) (fun fs hr => own_retI X19 hx hret (hb hby d7_66) hr) (by decide) (by decide) ?_
        rw [e19]
        exact ⟨x.toInt32, nk, ra + 1, if_pos h8p, by omega, by omega, rfl, N19, K19, E_fo_19, F_keys_19, F_retaken_19, F_offeredFrom_19, F_sorted_19, F_nextKey_19, (by rw [inc_ofNat ra]; exact F_retakenAt_19), F_retakenEnd_19⟩
      · refine own_go (fun t_ k_ => XS.ifYes X14.here hx rfl (pc0 := 41) (pc' := 67) rfl (hb hby d7_41) rfl ((if0 _ _).trans (flt (mt (lw_lt x (F nk)).mp hc41)).2.1) (by decide) (by decide) k_) ?_
        show OwnFin p e below s _ _ _ (T14.setTop (mkF m 67 #[rv fo, .unset, .unset] []))
        have h8n : ¬ (ra < re ∧ (nk = n ∨ x < F nk)) := by first | exact fun q => hc8 ((own_ltN (by omega) (by omega)).mpr q.1) | exact fun q => q.2.elim h19 hc41
        refine own_go (fun t_ k_ => XS.aloadN X14.here hx rfl (hb hby d7_67) rfl rfl k_) ?_
        show OwnFin p e below s _ _ _ (T14.setTop (mkF m 68 #[rv fo, .unset, .unset] [(.ref fo)]))
        obtain ⟨T20, X20, e20, st20⟩ := getF X14 hx hZ hown (host := "") (Or.inl (hw _ (List.mem_of_getElem? (i := 44) rfl))) Via.refl e14 F_nextKey (g := (mkF m 68 #[rv fo, .unset, .unset] [(.ref fo)])) rfl rfl (hb hby d7_68)
        refine own_go st20 ?_
        show OwnFin p e below s _ _ _ (T20.setTop (mkF m 71 #[rv fo, .unset, .unset] [(.int (Int32.ofNat nk))]))
        refine own_go (fun t_ k_ => XS.aloadN X20.here hx rfl (hb hby d7_71) rfl rfl k_) ?_
        show OwnFin p e below s _ _ _ (T20.setTop (mkF m 72 #[rv fo, .unset, .unset] [(.ref fo), (.int (Int32.ofNat nk))]))
        obtain ⟨T21, X21, e21, st21⟩ := getF X20 hx hZ hown (host := "") (Or.inl (hw _ (List.mem_of_getElem? (i := 42) rfl))) Via.refl e20 F_sorted (g := (mkF m 72 #[rv fo, .unset, .unset] [(.ref fo), (.int (Int32.ofNat nk))])) rfl rfl (hb hby d7_72)
        refine own_go st21 ?_
        show OwnFin p e below s _ _ _ (T21.setTop (mkF m 75 #[rv fo, .unset, .unset] [(.int (Int32.ofNat n)), (.int (Int32.ofNat nk))]))
        by_cases hc75 : (Int32.ofNat nk) < (Int32.ofNat n)
        · refine own_go (fun t_ k_ => XS.icmpNo X21.here hx rfl (hb hby d7_75) rfl (tlt hc75).2.1 k_) ?_
          show OwnFin p e below s _ _ _ (T21.setTop (mkF m 78 #[rv fo, .unset, .unset] []))
          have h75 : nk < n := (own_ltN (by omega) (by omega)).mp hc75
          refine own_go (fun t_ k_ => XS.aloadN X21.here hx rfl (hb hby d7_78) rfl rfl k_) ?_
          show OwnFin p e below s _ _ _ (T21.setTop (mkF m 79 #[rv fo, .unset, .unset] [(.ref fo)]))
          obtain ⟨T22, X22, e22, st22⟩ := getF X21 hx hZ hown (host := "") (Or.inl (hw _ (List.mem_of_getElem? (i := 20) rfl))) Via.refl e21 F_keys (g := (mkF m 79 #[rv fo, .unset, .unset] [(.ref fo)])) rfl rfl (hb hby d7_79)
          refine own_go st22 ?_
          show OwnFin p e below s _ _ _ (T22.setTop (mkF m 82 #[rv fo, .unset, .unset] [(.ref aK)]))
          refine own_go (fun t_ k_ => XS.aloadN X22.here hx rfl (hb hby d7_82) rfl rfl k_) ?_
          show OwnFin p e below s _ _ _ (T22.setTop (mkF m 83 #[rv fo, .unset, .unset] [(.ref fo), (.ref aK)]))
          obtain ⟨T23, X23, e23, st23⟩ := getF X22 hx hZ hown (host := "") (Or.inl (hw _ (List.mem_of_getElem? (i := 44) rfl))) Via.refl e22 F_nextKey (g := (mkF m 83 #[rv fo, .unset, .unset] [(.ref fo), (.ref aK)])) rfl rfl (hb hby d7_83)
          refine own_go st23 ?_
          show OwnFin p e below s _ _ _ (T23.setTop (mkF m 86 #[rv fo, .unset, .unset] [(.int (Int32.ofNat nk)), (.ref aK)]))
          refine own_go (own_laload X23 hx hZ e23 V_aK (i := nk) rfl (by omega) (g := (mkF m 86 #[rv fo, .unset, .unset] [(.int (Int32.ofNat nk)), (.ref aK)])) rfl rfl (hb hby d7_86)) ?_
          show OwnFin p e below s _ _ _ (T23.setTop (mkF m 87 #[rv fo, .unset, .unset] [(.long (F nk))]))
          refine own_go (fun t_ k_ => XS.lstoreN X23.here hx rfl (hb hby d7_87) rfl (l' := #[rv fo, .val (.long (F nk)), .second]) rfl k_) ?_
          show OwnFin p e below s _ _ _ (T23.setTop (mkF m 88 #[rv fo, .val (.long (F nk)), .second] []))
          refine own_go (fun t_ k_ => XS.aloadN X23.here hx rfl (hb hby d7_88) rfl rfl k_) ?_
          show OwnFin p e below s _ _ _ (T23.setTop (mkF m 89 #[rv fo, .val (.long (F nk)), .second] [(.ref fo)]))
          refine own_go (fun t_ k_ => XS.dup X23.here hx rfl (hb hby d7_89) rfl rfl k_) ?_
          show OwnFin p e below s _ _ _ (T23.setTop (mkF m 90 #[rv fo, .val (.long (F nk)), .second] [(.ref fo), (.ref fo)]))
          obtain ⟨T24, X24, e24, st24⟩ := getF X23 hx hZ hown (host := "") (Or.inl (hw _ (List.mem_of_getElem? (i := 44) rfl))) Via.refl e23 F_nextKey (g := (mkF m 90 #[rv fo, .val (.long (F nk)), .second] [(.ref fo), (.ref fo)])) rfl rfl (hb hby d7_90)
          refine own_go st24 ?_
          show OwnFin p e below s _ _ _ (T24.setTop (mkF m 93 #[rv fo, .val (.long (F nk)), .second] [(.int (Int32.ofNat nk)), (.ref fo)]))
          refine own_go (fun t_ k_ => XS.iconst X24.here hx rfl (hb hby d7_93) k_) ?_
          show OwnFin p e below s _ _ _ (T24.setTop (mkF m 94 #[rv fo, .val (.long (F nk)), .second] [(.int (1 : Int32)), (.int (Int32.ofNat nk)), (.ref fo)]))
          refine own_go (fun t_ k_ => XS.iadd X24.here hx rfl (hb hby d7_94) rfl k_) ?_
          show OwnFin p e below s _ _ _ (T24.setTop (mkF m 95 #[rv fo, .val (.long (F nk)), .second] [(.int ((Int32.ofNat nk) + (1 : Int32))), (.ref fo)]))
          obtain ⟨T25, h25, X25, e25, W25, st25⟩ := putF X24 hx hZ hown (host := "") (Or.inl (hw _ (List.mem_of_getElem? (i := 44) rfl))) Via.refl e24 F_nextKey E_fo (Or.inl (hw _ (List.mem_of_getElem? (i := 45) rfl))) (hw _ (List.mem_of_getElem? (i := 7) rfl)) (ty := .int) (by decide) rfl rfl (g := (mkF m 95 #[rv fo, .val (.long (F nk)), .second] [(.int ((Int32.ofNat nk) + (1 : Int32))), (.ref fo)])) rfl rfl (hb hby d7_95)
          have E_fo_25 := E_fo.wr W25
          have F_keys_25 := F_keys.other W25 (Or.inr (slot_ne (Or.inr (hw _ (List.mem_of_getElem? (i := 21) rfl))) (Or.inl (hw _ (List.mem_of_getElem? (i := 45) rfl))) (by decide) (t := (.array .long)) (t' := .int) (by decide) (by decide)))
          have F_retaken_25 := F_retaken.other W25 (Or.inr (slot_ne (Or.inr (hw _ (List.mem_of_getElem? (i := 23) rfl))) (Or.inl (hw _ (List.mem_of_getElem? (i := 45) rfl))) (by decide) (t := (.array .long)) (t' := .int) (by decide) (by decide)))
          have F_offeredFrom_25 := F_offeredFrom.other W25 (Or.inr (slot_ne (Or.inl (hw _ (List.mem_of_getElem? (i := 27) rfl))) (Or.inl (hw _ (List.mem_of_getElem? (i := 45) rfl))) (by decide) (t := (.array .int)) (t' := .int) (by decide) (by decide)))
          have F_sorted_25 := F_sorted.other W25 (Or.inr (slot_ne (Or.inl (hw _ (List.mem_of_getElem? (i := 43) rfl))) (Or.inl (hw _ (List.mem_of_getElem? (i := 45) rfl))) (by decide) (t := .int) (t' := .int) (by decide) (by decide)))
          have F_nextKey_25 := F_nextKey.same W25
          have F_retakenAt_25 := F_retakenAt.other W25 (Or.inr (slot_ne (Or.inl (hw _ (List.mem_of_getElem? (i := 47) rfl))) (Or.inl (hw _ (List.mem_of_getElem? (i := 45) rfl))) (by decide) (t := .int) (t' := .int) (by decide) (by decide)))
          have F_retakenEnd_25 := F_retakenEnd.other W25 (Or.inr (slot_ne (Or.inl (hw _ (List.mem_of_getElem? (i := 49) rfl))) (Or.inl (hw _ (List.mem_of_getElem? (i := 45) rfl))) (by decide) (t := .int) (t' := .int) (by decide) (by decide)))
          have V_aK_25 := V_aK.other W25 (Ne.symm ne_fo_aK)
          have V_aT_25 := V_aT.other W25 (Ne.symm ne_fo_aT)
          have Z25 : n0 ≤ h25.size := Nat.le_trans Z0 (Keep.of_wr W25).1
          have K25 : Keep h0 h25 [fo] := K0.wr W25 (Or.inl (List.mem_of_getElem? (i := 0) rfl))
          have N25 := Fr.snoc X25 N0 g_fo
          refine own_go st25 ?_
          show OwnFin p e below s _ _ _ (T25.setTop (mkF m 98 #[rv fo, .val (.long (F nk)), .second] []))
          refine own_go (fun t_ k_ => XS.lloadN X25.here hx rfl (hb hby d7_98) rfl k_) ?_
          show OwnFin p e below s _ _ _ (T25.setTop (mkF m 99 #[rv fo, .val (.long (F nk)), .second] [(.long (F nk))]))
          refine own_go (fun t_ k_ => XS.l2i X25.here hx rfl (hb hby d7_99) rfl k_) ?_
          show OwnFin p e below s _ _ _ (T25.setTop (mkF m 100 #[rv fo, .val (.long (F nk)), .second] [(.int ((F nk).toInt32))]))
          refine own_ret X25 (v := some (.int ((F nk).toInt32))) hlk (fun hh => by rw [hret] at hh; cases hh) (fun fs hr => own_retI X25 hx hret (hb hby d7_100) hr) (by decide) (by decide) ?_
          rw [e25]
          exact ⟨(F nk).toInt32, nk + 1, ra, (if_neg h8n).trans (if_pos h75), by omega, by omega, rfl, N25, K25, E_fo_25, F_keys_25, F_retaken_25, F_offeredFrom_25, F_sorted_25, (by rw [inc_ofNat nk]; exact F_nextKey_25), F_retakenAt_25, F_retakenEnd_25⟩
        · refine own_go (fun t_ k_ => XS.icmpYes X21.here hx rfl (pc0 := 75) (pc' := 101) rfl (hb hby d7_75) rfl (flt hc75).2.1 (by decide) (by decide) k_) ?_
          show OwnFin p e below s _ _ _ (T21.setTop (mkF m 101 #[rv fo, .unset, .unset] []))
          refine own_go (fun t_ k_ => XS.iconst X21.here hx rfl (hb hby d7_101) k_) ?_
          show OwnFin p e below s _ _ _ (T21.setTop (mkF m 102 #[rv fo, .unset, .unset] [(.int (-1 : Int32))]))
          refine own_ret X21 (v := some (.int (-1 : Int32))) hlk (fun hh => by rw [hret] at hh; cases hh) (fun fs hr => own_retI X21 hx hret (hb hby d7_102) hr) (by decide) (by decide) ?_
          rw [e21]
          exact ⟨-1, nk, ra, (if_neg h8n).trans (if_neg (fun q => hc75 ((own_ltN (by omega) (by omega)).mpr q))), by omega, by omega, rfl, N0, K0, E_fo, F_keys, F_retaken, F_offeredFrom, F_sorted, F_nextKey, F_retakenAt, F_retakenEnd⟩
  · refine own_go (fun t_ k_ => XS.icmpYes X2.here hx rfl (pc0 := 8) (pc' := 67) rfl (hb hby d7_8) rfl (flt hc8).2.1 (by decide) (by decide) k_) ?_
    show OwnFin p e below s _ _ _ (T2.setTop (mkF m 67 #[rv fo, .unset, .unset] []))
    have h8n : ¬ (ra < re ∧ (nk = n ∨ x < F nk)) := by first | exact fun q => hc8 ((own_ltN (by omega) (by omega)).mpr q.1) | exact fun q => q.2.elim h19 hc41
    refine own_go (fun t_ k_ => XS.aloadN X2.here hx rfl (hb hby d7_67) rfl rfl k_) ?_
    show OwnFin p e below s _ _ _ (T2.setTop (mkF m 68 #[rv fo, .unset, .unset] [(.ref fo)]))
    obtain ⟨T26, X26, e26, st26⟩ := getF X2 hx hZ hown (host := "") (Or.inl (hw _ (List.mem_of_getElem? (i := 44) rfl))) Via.refl e2 F_nextKey (g := (mkF m 68 #[rv fo, .unset, .unset] [(.ref fo)])) rfl rfl (hb hby d7_68)
    refine own_go st26 ?_
    show OwnFin p e below s _ _ _ (T26.setTop (mkF m 71 #[rv fo, .unset, .unset] [(.int (Int32.ofNat nk))]))
    refine own_go (fun t_ k_ => XS.aloadN X26.here hx rfl (hb hby d7_71) rfl rfl k_) ?_
    show OwnFin p e below s _ _ _ (T26.setTop (mkF m 72 #[rv fo, .unset, .unset] [(.ref fo), (.int (Int32.ofNat nk))]))
    obtain ⟨T27, X27, e27, st27⟩ := getF X26 hx hZ hown (host := "") (Or.inl (hw _ (List.mem_of_getElem? (i := 42) rfl))) Via.refl e26 F_sorted (g := (mkF m 72 #[rv fo, .unset, .unset] [(.ref fo), (.int (Int32.ofNat nk))])) rfl rfl (hb hby d7_72)
    refine own_go st27 ?_
    show OwnFin p e below s _ _ _ (T27.setTop (mkF m 75 #[rv fo, .unset, .unset] [(.int (Int32.ofNat n)), (.int (Int32.ofNat nk))]))
    by_cases hc75 : (Int32.ofNat nk) < (Int32.ofNat n)
    · refine own_go (fun t_ k_ => XS.icmpNo X27.here hx rfl (hb hby d7_75) rfl (tlt hc75).2.1 k_) ?_
      show OwnFin p e below s _ _ _ (T27.setTop (mkF m 78 #[rv fo, .unset, .unset] []))
      have h75 : nk < n := (own_ltN (by omega) (by omega)).mp hc75
      refine own_go (fun t_ k_ => XS.aloadN X27.here hx rfl (hb hby d7_78) rfl rfl k_) ?_
      show OwnFin p e below s _ _ _ (T27.setTop (mkF m 79 #[rv fo, .unset, .unset] [(.ref fo)]))
      obtain ⟨T28, X28, e28, st28⟩ := getF X27 hx hZ hown (host := "") (Or.inl (hw _ (List.mem_of_getElem? (i := 20) rfl))) Via.refl e27 F_keys (g := (mkF m 79 #[rv fo, .unset, .unset] [(.ref fo)])) rfl rfl (hb hby d7_79)
      refine own_go st28 ?_
      show OwnFin p e below s _ _ _ (T28.setTop (mkF m 82 #[rv fo, .unset, .unset] [(.ref aK)]))
      refine own_go (fun t_ k_ => XS.aloadN X28.here hx rfl (hb hby d7_82) rfl rfl k_) ?_
      show OwnFin p e below s _ _ _ (T28.setTop (mkF m 83 #[rv fo, .unset, .unset] [(.ref fo), (.ref aK)]))
      obtain ⟨T29, X29, e29, st29⟩ := getF X28 hx hZ hown (host := "") (Or.inl (hw _ (List.mem_of_getElem? (i := 44) rfl))) Via.refl e28 F_nextKey (g := (mkF m 83 #[rv fo, .unset, .unset] [(.ref fo), (.ref aK)])) rfl rfl (hb hby d7_83)
      refine own_go st29 ?_
      show OwnFin p e below s _ _ _ (T29.setTop (mkF m 86 #[rv fo, .unset, .unset] [(.int (Int32.ofNat nk)), (.ref aK)]))
      refine own_go (own_laload X29 hx hZ e29 V_aK (i := nk) rfl (by omega) (g := (mkF m 86 #[rv fo, .unset, .unset] [(.int (Int32.ofNat nk)), (.ref aK)])) rfl rfl (hb hby d7_86)) ?_
      show OwnFin p e below s _ _ _ (T29.setTop (mkF m 87 #[rv fo, .unset, .unset] [(.long (F nk))]))
      refine own_go (fun t_ k_ => XS.lstoreN X29.here hx rfl (hb hby d7_87) rfl (l' := #[rv fo, .val (.long (F nk)), .second]) rfl k_) ?_
      show OwnFin p e below s _ _ _ (T29.setTop (mkF m 88 #[rv fo, .val (.long (F nk)), .second] []))
      refine own_go (fun t_ k_ => XS.aloadN X29.here hx rfl (hb hby d7_88) rfl rfl k_) ?_
      show OwnFin p e below s _ _ _ (T29.setTop (mkF m 89 #[rv fo, .val (.long (F nk)), .second] [(.ref fo)]))
      refine own_go (fun t_ k_ => XS.dup X29.here hx rfl (hb hby d7_89) rfl rfl k_) ?_
      show OwnFin p e below s _ _ _ (T29.setTop (mkF m 90 #[rv fo, .val (.long (F nk)), .second] [(.ref fo), (.ref fo)]))
      obtain ⟨T30, X30, e30, st30⟩ := getF X29 hx hZ hown (host := "") (Or.inl (hw _ (List.mem_of_getElem? (i := 44) rfl))) Via.refl e29 F_nextKey (g := (mkF m 90 #[rv fo, .val (.long (F nk)), .second] [(.ref fo), (.ref fo)])) rfl rfl (hb hby d7_90)
      refine own_go st30 ?_
      show OwnFin p e below s _ _ _ (T30.setTop (mkF m 93 #[rv fo, .val (.long (F nk)), .second] [(.int (Int32.ofNat nk)), (.ref fo)]))
      refine own_go (fun t_ k_ => XS.iconst X30.here hx rfl (hb hby d7_93) k_) ?_
      show OwnFin p e below s _ _ _ (T30.setTop (mkF m 94 #[rv fo, .val (.long (F nk)), .second] [(.int (1 : Int32)), (.int (Int32.ofNat nk)), (.ref fo)]))
      refine own_go (fun t_ k_ => XS.iadd X30.here hx rfl (hb hby d7_94) rfl k_) ?_
      show OwnFin p e below s _ _ _ (T30.setTop (mkF m 95 #[rv fo, .val (.long (F nk)), .second] [(.int ((Int32.ofNat nk) + (1 : Int32))), (.ref fo)]))
      obtain ⟨T31, h31, X31, e31, W31, st31⟩ := putF X30 hx hZ hown (host := "") (Or.inl (hw _ (List.mem_of_getElem? (i := 44) rfl))) Via.refl e30 F_nextKey E_fo (Or.inl (hw _ (List.mem_of_getElem? (i := 45) rfl))) (hw _ (List.mem_of_getElem? (i := 7) rfl)) (ty := .int) (by decide) rfl rfl (g := (mkF m 95 #[rv fo, .val (.long (F nk)), .second] [(.int ((Int32.ofNat nk) + (1 : Int32))), (.ref fo)])) rfl rfl (hb hby d7_95)
      have E_fo_31 := E_fo.wr W31
      have F_keys_31 := F_keys.other W31 (Or.inr (slot_ne (Or.inr (hw _ (List.mem_of_getElem? (i := 21) rfl))) (Or.inl (hw _ (List.mem_of_getElem? (i := 45) rfl))) (by decide) (t := (.array .long)) (t' := .int) (by decide) (by decide)))
      have F_retaken_31 := F_retaken.other W31 (Or.inr (slot_ne (Or.inr (hw _ (List.mem_of_getElem? (i := 23) rfl))) (Or.inl (hw _ (List.mem_of_getElem? (i := 45) rfl))) (by decide) (t := (.array .long)) (t' := .int) (by decide) (by decide)))
      have F_offeredFrom_31 := F_offeredFrom.other W31 (Or.inr (slot_ne (Or.inl (hw _ (List.mem_of_getElem? (i := 27) rfl))) (Or.inl (hw _ (List.mem_of_getElem? (i := 45) rfl))) (by decide) (t := (.array .int)) (t' := .int) (by decide) (by decide)))
      have F_sorted_31 := F_sorted.other W31 (Or.inr (slot_ne (Or.inl (hw _ (List.mem_of_getElem? (i := 43) rfl))) (Or.inl (hw _ (List.mem_of_getElem? (i := 45) rfl))) (by decide) (t := .int) (t' := .int) (by decide) (by decide)))
      have F_nextKey_31 := F_nextKey.same W31
      have F_retakenAt_31 := F_retakenAt.other W31 (Or.inr (slot_ne (Or.inl (hw _ (List.mem_of_getElem? (i := 47) rfl))) (Or.inl (hw _ (List.mem_of_getElem? (i := 45) rfl))) (by decide) (t := .int) (t' := .int) (by decide) (by decide)))
      have F_retakenEnd_31 := F_retakenEnd.other W31 (Or.inr (slot_ne (Or.inl (hw _ (List.mem_of_getElem? (i := 49) rfl))) (Or.inl (hw _ (List.mem_of_getElem? (i := 45) rfl))) (by decide) (t := .int) (t' := .int) (by decide) (by decide)))
      have V_aK_31 := V_aK.other W31 (Ne.symm ne_fo_aK)
      have V_aT_31 := V_aT.other W31 (Ne.symm ne_fo_aT)
      have Z31 : n0 ≤ h31.size := Nat.le_trans Z0 (Keep.of_wr W31).1
      have K31 : Keep h0 h31 [fo] := K0.wr W31 (Or.inl (List.mem_of_getElem? (i := 0) rfl))
      have N31 := Fr.snoc X31 N0 g_fo
      refine own_go st31 ?_
      show OwnFin p e below s _ _ _ (T31.setTop (mkF m 98 #[rv fo, .val (.long (F nk)), .second] []))
      refine own_go (fun t_ k_ => XS.lloadN X31.here hx rfl (hb hby d7_98) rfl k_) ?_
      show OwnFin p e below s _ _ _ (T31.setTop (mkF m 99 #[rv fo, .val (.long (F nk)), .second] [(.long (F nk))]))
      refine own_go (fun t_ k_ => XS.l2i X31.here hx rfl (hb hby d7_99) rfl k_) ?_
      show OwnFin p e below s _ _ _ (T31.setTop (mkF m 100 #[rv fo, .val (.long (F nk)), .second] [(.int ((F nk).toInt32))]))
      refine own_ret X31 (v := some (.int ((F nk).toInt32))) hlk (fun hh => by rw [hret] at hh; cases hh) (fun fs hr => own_retI X31 hx hret (hb hby d7_100) hr) (by decide) (by decide) ?_
      rw [e31]
      exact ⟨(F nk).toInt32, nk + 1, ra, (if_neg h8n).trans (if_pos h75), by omega, by omega, rfl, N31, K31, E_fo_31, F_keys_31, F_retaken_31, F_offeredFrom_31, F_sorted_31, (by rw [inc_ofNat nk]; exact F_nextKey_31), F_retakenAt_31, F_retakenEnd_31⟩
    · refine own_go (fun t_ k_ => XS.icmpYes X27.here hx rfl (pc0 := 75) (pc' := 101) rfl (hb hby d7_75) rfl (flt hc75).2.1 (by decide) (by decide) k_) ?_
      show OwnFin p e below s _ _ _ (T27.setTop (mkF m 101 #[rv fo, .unset, .unset] []))
      refine own_go (fun t_ k_ => XS.iconst X27.here hx rfl (hb hby d7_101) k_) ?_
      show OwnFin p e below s _ _ _ (T27.setTop (mkF m 102 #[rv fo, .unset, .unset] [(.int (-1 : Int32))]))
      refine own_ret X27 (v := some (.int (-1 : Int32))) hlk (fun hh => by rw [hret] at hh; cases hh) (fun fs hr => own_retI X27 hx hret (hb hby d7_102) hr) (by decide) (by decide) ?_
      rw [e27]
      exact ⟨-1, nk, ra, (if_neg h8n).trans (if_neg (fun q => hc75 ((own_ltN (by omega) (by omega)).mpr q))), by omega, by omega, rfl, N0, K0, E_fo, F_keys, F_retaken, F_offeredFrom, F_sorted, F_nextKey, F_retakenAt, F_retakenEnd⟩
theorem d9_0 : decode prog_156_method_3_code 0 = .ok (.aload_n 0, 1) := by decide +kernel
theorem d9_1 : decode prog_156_method_3_code 1 = .ok (.getfield 13, 3) := by decide +kernel
theorem d9_4 : decode prog_156_method_3_code 4 = .ok (.aload_n 0, 1) := by decide +kernel
theorem d9_5 : decode prog_156_method_3_code 5 = .ok (.getfield 29, 3) := by decide +kernel
theorem d9_8 : decode prog_156_method_3_code 8 = .ok (.iload_n 1, 1) := by decide +kernel
theorem d9_9 : decode prog_156_method_3_code 9 = .ok (.iastore, 1) := by decide +kernel
theorem d9_10 : decode prog_156_method_3_code 10 = .ok (.aload_n 0, 1) := by decide +kernel
theorem d9_11 : decode prog_156_method_3_code 11 = .ok (.getfield 23, 3) := by decide +kernel
theorem d9_14 : decode prog_156_method_3_code 14 = .ok (.iload_n 1, 1) := by decide +kernel
theorem d9_15 : decode prog_156_method_3_code 15 = .ok (.aload_n 0, 1) := by decide +kernel
theorem d9_16 : decode prog_156_method_3_code 16 = .ok (.getfield 29, 3) := by decide +kernel
theorem d9_19 : decode prog_156_method_3_code 19 = .ok (.iastore, 1) := by decide +kernel
theorem d9_20 : decode prog_156_method_3_code 20 = .ok (.aload_n 0, 1) := by decide +kernel
theorem d9_21 : decode prog_156_method_3_code 21 = .ok (.getfield 26, 3) := by decide +kernel
theorem d9_24 : decode prog_156_method_3_code 24 = .ok (.iload_n 1, 1) := by decide +kernel
theorem d9_25 : decode prog_156_method_3_code 25 = .ok (.iload_n 2, 1) := by decide +kernel
theorem d9_26 : decode prog_156_method_3_code 26 = .ok (.iastore, 1) := by decide +kernel
theorem d9_27 : decode prog_156_method_3_code 27 = .ok (.aload_n 0, 1) := by decide +kernel
theorem d9_28 : decode prog_156_method_3_code 28 = .ok (.dup, 1) := by decide +kernel
theorem d9_29 : decode prog_156_method_3_code 29 = .ok (.getfield 29, 3) := by decide +kernel
theorem d9_32 : decode prog_156_method_3_code 32 = .ok (.iconst 1, 1) := by decide +kernel
theorem d9_33 : decode prog_156_method_3_code 33 = .ok (.iadd, 1) := by decide +kernel
theorem d9_34 : decode prog_156_method_3_code 34 = .ok (.putfield 29, 3) := by decide +kernel
theorem d9_37 : decode prog_156_method_3_code 37 = .ok (.return_, 1) := by decide +kernel
theorem pn_9 : plainFor (⟨"com/example/nearside/nearside/slotted/delay/FairBack", "add", "(II)V"⟩ : MethodName) = true := plainFor_of_name (by first | (simp [plainName, overriddenIn]; done) | decide +kernel)
theorem ef_9 (m : MethodId) (fo : Addr) (ps : Int32) (pf : Int32) : entryFrame m #[(.ref fo), (.int ps), (.int pf)] 3 = mkF m 0 #[rv fo, iv ps, iv pf] [] := by first | (simp [entryFrame, mkF, argsToLocals, Value.category]; done) | rfl
set_option maxRecDepth 65536 in
set_option maxHeartbeats 40000000 in
theorem rm9 (l : Launch) (Z : State) (a0 : Array Value) (hw : ∀ d ∈ tables_1, d.before a0 Z = true) (ws : List Jvm.Cond) (fo : Addr) (ps : Int32) (pf : Int32) (aB : Addr) (aK : Addr) (aT : Addr) (aP : Addr) (aO : Addr) (aS : Addr) (sl : Nat) (sz : Nat) (fB : Nat → Int32) (fP : Nat → Value) (fO : Nat → Value) {u0 : Value} {u1 : Value} {u2 : Value} {u3 : Value} (h0 : Heap) (n0 : Nat) (Z0 : n0 ≤ h0.size) (hps : ps = Int32.ofNat sl) (hsl : sl < 3) (hsz : sz < 3) (E_fo : Exa Z h0 fo "com/example/nearside/nearside/slotted/delay/FairBack") (F_back : Fld Z h0 fo "com/example/nearside/nearside/slotted/delay/FairBack" "back" "[I" (.ref aB)) (F_keys : Fld Z h0 fo "com/example/nearside/nearside/slotted/delay/FairBack" "keys" "[J" (.ref aK)) (F_retaken : Fld Z h0 fo "com/example/nearside/nearside/slotted/delay/FairBack" "retaken" "[J" (.ref aT)) (F_positions : Fld Z h0 fo "com/example/nearside/nearside/slotted/delay/FairBack" "positions" "[I" (.ref aP)) (F_offeredFrom : Fld Z h0 fo "com/example/nearside/nearside/slotted/delay/FairBack" "offeredFrom" "[I" (.ref aO)) (F_starts : Fld Z h0 fo "com/example/nearside/nearside/slotted/delay/FairBack" "starts" "[I" (.ref aS)) (F_size : Fld Z h0 fo "com/example/nearside/nearside/slotted/delay/FairBack" "size" "I" (.int (Int32.ofNat sz))) (F_sorted : Fld Z h0 fo "com/example/nearside/nearside/slotted/delay/FairBack" "sorted" "I" u0) (F_nextKey : Fld Z h0 fo "com/example/nearside/nearside/slotted/delay/FairBack" "nextKey" "I" u1) (F_retakenAt : Fld Z h0 fo "com/example/nearside/nearside/slotted/delay/FairBack" "retakenAt" "I" u2) (F_retakenEnd : Fld Z h0 fo "com/example/nearside/nearside/slotted/delay/FairBack" "retakenEnd" "I" u3) (V_aB : OwnArr Z h0 aB .int 3 (fun k => .int (fB k))) (V_aP : OwnArr Z h0 aP .int 3 fP) (V_aO : OwnArr Z h0 aO .int 3 fO) (ne_fo_aB : fo ≠ aB) (ne_fo_aP : fo ≠ aP) (ne_fo_aO : fo ≠ aO) (ne_aB_aP : aB ≠ aP) (ne_aB_aO : aB ≠ aO) (ne_aP_aO : aP ≠ aO) (g_fo : n0 ≤ fo) (g_aB : n0 ≤ aB) (g_aP : n0 ≤ aP) (g_aO : n0 ≤ aO) :
    OwnCtr l Z (⟨"com/example/nearside/nearside/slotted/delay/FairBack", "add", "(II)V"⟩ : MethodName) ws prog_156_method_3_code 3 none ({ frames := 0, cells := 0, slots := 0, locals := 0 } : Room) #[(.ref fo), (.int ps), (.int pf)] h0 (fun v h L => v = none ∧ Fr n0 L ∧ Keep h0 h [fo, aB, aP, aO] ∧ Exa Z h fo "com/example/nearside/nearside/slotted/delay/FairBack" ∧ Fld Z h fo "com/example/nearside/nearside/slotted/delay/FairBack" "back" "[I" (.ref aB) ∧ Fld Z h fo "com/example/nearside/nearside/slotted/delay/FairBack" "keys" "[J" (.ref aK) ∧ Fld Z h fo "com/example/nearside/nearside/slotted/delay/FairBack" "retaken" "[J" (.ref aT) ∧ Fld Z h fo "com/example/nearside/nearside/slotted/delay/FairBack" "positions" "[I" (.ref aP) ∧ Fld Z h fo "com/example/nearside/nearside/slotted/delay/FairBack" "offeredFrom" "[I" (.ref aO) ∧ Fld Z h fo "com/example/nearside/nearside/slotted/delay/FairBack" "starts" "[I" (.ref aS) ∧ Fld Z h fo "com/example/nearside/nearside/slotted/delay/FairBack" "size" "I" (.int (Int32.ofNat (sz + 1))) ∧ Fld Z h fo "com/example/nearside/nearside/slotted/delay/FairBack" "sorted" "I" u0 ∧ Fld Z h fo "com/example/nearside/nearside/slotted/delay/FairBack" "nextKey" "I" u1 ∧ Fld Z h fo "com/example/nearside/nearside/slotted/delay/FairBack" "retakenAt" "I" u2 ∧ Fld Z h fo "com/example/nearside/nearside/slotted/delay/FairBack" "retakenEnd" "I" u3 ∧ OwnArr Z h aB .int 3 (fun k => .int (if k = sz then ps else fB k)) ∧ ∃ gP gO : Nat → Value, OwnArr Z h aP .int 3 gP ∧ OwnArr Z h aO .int 3 gO) := by
  refine own_body (g0 := fun m => mkF m 0 #[rv fo, iv ps, iv pf] []) pn_9 (fun m => ef_9 m fo ps pf) ?_
  intro p e s m below meth c s₁ X0 hx hby hml hown hnm hZ e0 hret hlk
  have hml : c.maxLocals = 3 := hml
  have hown : s.vm.findClass "com/example/nearside/nearside/slotted/delay/FairBack" = some m.cls := hown
  have hnm : meth.name = "add" := hnm
  have hret : meth.sig.returnType = none := hret
  have N0 := Fr.nil n0
  have K0 := Keep.refl h0 [fo, aB, aP, aO]
  show OwnFin p e below s _ _ _ (s₁.setTop (mkF m 0 #[rv fo, iv ps, iv pf] []))
  refine own_go (fun t_ k_ => XS.aloadN X0.here hx rfl (hb hby d9_0) rfl rfl k_) ?_
  show OwnFin p e below s _ _ _ (s₁.setTop (mkF m 1 #[rv fo, iv ps, iv pf] [(.ref fo)]))
  obtain ⟨T1, X1, e1, st1⟩ := getF X0 hx hZ hown (host := "") (Or.inl (hw _ (List.mem_of_getElem? (i := 17) rfl))) Via.refl e0 F_back (g := (mkF m 1 #[rv fo, iv ps, iv pf] [(.ref fo)])) rfl rfl (hb hby d9_1)
  refine own_go st1 ?_
  show OwnFin p e below s _ _ _ (T1.setTop (mkF m 4 #[rv fo, iv ps, iv pf] [(.ref aB)]))
  refine own_go (fun t_ k_ => XS.aloadN X1.here hx rfl (hb hby d9_4) rfl rfl k_) ?_
  show OwnFin p e below s _ _ _ (T1.setTop (mkF m 5 #[rv fo, iv ps, iv pf] [(.ref fo), (.ref aB)]))
  obtain ⟨T2, X2, e2, st2⟩ := getF X1 hx hZ hown (host := "") (Or.inl (hw _ (List.mem_of_getElem? (i := 33) rfl))) Via.refl e1 F_size (g := (mkF m 5 #[rv fo, iv ps, iv pf] [(.ref fo), (.ref aB)])) rfl rfl (hb hby d9_5)
  refine own_go st2 ?_
  show OwnFin p e below s _ _ _ (T2.setTop (mkF m 8 #[rv fo, iv ps, iv pf] [(.int (Int32.ofNat sz)), (.ref aB)]))
  refine own_go (fun t_ k_ => XS.iloadN X2.here hx rfl (hb hby d9_8) rfl k_) ?_
  show OwnFin p e below s _ _ _ (T2.setTop (mkF m 9 #[rv fo, iv ps, iv pf] [(.int ps), (.int (Int32.ofNat sz)), (.ref aB)]))
  obtain ⟨T3, h3, X3, e3, W3, A3, st3⟩ := own_iastore X2 hx hZ e2 V_aB (i := sz) rfl hsz (g := (mkF m 9 #[rv fo, iv ps, iv pf] [(.int ps), (.int (Int32.ofNat sz)), (.ref aB)])) rfl rfl (hb hby d9_9)
  have E_fo_3 := E_fo.wr W3
  have F_back_3 := F_back.other W3 (Or.inl ne_fo_aB)
  have F_keys_3 := F_keys.other W3 (Or.inl ne_fo_aB)
  have F_retaken_3 := F_retaken.other W3 (Or.inl ne_fo_aB)
  have F_positions_3 := F_positions.other W3 (Or.inl ne_fo_aB)
  have F_offeredFrom_3 := F_offeredFrom.other W3 (Or.inl ne_fo_aB)
  have F_starts_3 := F_starts.other W3 (Or.inl ne_fo_aB)
  have F_size_3 := F_size.other W3 (Or.inl ne_fo_aB)
  have F_sorted_3 := F_sorted.other W3 (Or.inl ne_fo_aB)
  have F_nextKey_3 := F_nextKey.other W3 (Or.inl ne_fo_aB)
  have F_retakenAt_3 := F_retakenAt.other W3 (Or.inl ne_fo_aB)
  have F_retakenEnd_3 := F_retakenEnd.other W3 (Or.inl ne_fo_aB)
  have V_aP_3 := V_aP.other W3 (Ne.symm ne_aB_aP)
  have V_aO_3 := V_aO.other W3 (Ne.symm ne_aB_aO)
  have Z3 : n0 ≤ h3.size := Nat.le_trans Z0 (Keep.of_wr W3).1
  have K3 : Keep h0 h3 [fo, aB, aP, aO] := K0.wr W3 (Or.inl (List.mem_of_getElem? (i := 1) rfl))
  have N3 := Fr.snoc X3 N0 g_aB
  refine own_go st3 ?_
  show OwnFin p e below s _ _ _ (T3.setTop (mkF m 10 #[rv fo, iv ps, iv pf] []))
  refine own_go (fun t_ k_ => XS.aloadN X3.here hx rfl (hb hby d9_10) rfl rfl k_) ?_
  show OwnFin p e below s _ _ _ (T3.setTop (mkF m 11 #[rv fo, iv ps, iv pf] [(.ref fo)]))
  obtain ⟨T4, X4, e4, st4⟩ := getF X3 hx hZ hown (host := "") (Or.inl (hw _ (List.mem_of_getElem? (i := 24) rfl))) Via.refl e3 F_positions_3 (g := (mkF m 11 #[rv fo, iv ps, iv pf] [(.ref fo)])) rfl rfl (hb hby d9_11)
  refine own_go st4 ?_
  show OwnFin p e below s _ _ _ (T4.setTop (mkF m 14 #[rv fo, iv ps, iv pf] [(.ref aP)]))
  refine own_go (fun t_ k_ => XS.iloadN X4.here hx rfl (hb hby d9_14) rfl k_) ?_
  show OwnFin p e below s _ _ _ (T4.setTop (mkF m 15 #[rv fo, iv ps, iv pf] [(.int ps), (.ref aP)]))
  refine own_go (fun t_ k_ => XS.aloadN X4.here hx rfl (hb hby d9_15) rfl rfl k_) ?_
  show OwnFin p e below s _ _ _ (T4.setTop (mkF m 16 #[rv fo, iv ps, iv pf] [(.ref fo), (.int ps), (.ref aP)]))
  obtain ⟨T5, X5, e5, st5⟩ := getF X4 hx hZ hown (host := "") (Or.inl (hw _ (List.mem_of_getElem? (i := 33) rfl))) Via.refl e4 F_size_3 (g := (mkF m 16 #[rv fo, iv ps, iv pf] [(.ref fo), (.int ps), (.ref aP)])) rfl rfl (hb hby d9_16)
  refine own_go st5 ?_
  show OwnFin p e below s _ _ _ (T5.setTop (mkF m 19 #[rv fo, iv ps, iv pf] [(.int (Int32.ofNat sz)), (.int ps), (.ref aP)]))
  obtain ⟨T6, h6, X6, e6, W6, A6, st6⟩ := own_iastore X5 hx hZ e5 V_aP_3 (i := sl) hps hsl (g := (mkF m 19 #[rv fo, iv ps, iv pf] [(.int (Int32.ofNat sz)), (.int ps), (.ref aP)])) rfl rfl (hb hby d9_19)
  have E_fo_6 := E_fo_3.wr W6
  have F_back_6 := F_back_3.other W6 (Or.inl ne_fo_aP)
  have F_keys_6 := F_keys_3.other W6 (Or.inl ne_fo_aP)
  have F_retaken_6 := F_retaken_3.other W6 (Or.inl ne_fo_aP)
  have F_positions_6 := F_positions_3.other W6 (Or.inl ne_fo_aP)
  have F_offeredFrom_6 := F_offeredFrom_3.other W6 (Or.inl ne_fo_aP)
  have F_starts_6 := F_starts_3.other W6 (Or.inl ne_fo_aP)
  have F_size_6 := F_size_3.other W6 (Or.inl ne_fo_aP)
  have F_sorted_6 := F_sorted_3.other W6 (Or.inl ne_fo_aP)
  have F_nextKey_6 := F_nextKey_3.other W6 (Or.inl ne_fo_aP)
  have F_retakenAt_6 := F_retakenAt_3.other W6 (Or.inl ne_fo_aP)
  have F_retakenEnd_6 := F_retakenEnd_3.other W6 (Or.inl ne_fo_aP)
  have V_aB_6 := A3.other W6 ne_aB_aP
  have V_aO_6 := V_aO_3.other W6 (Ne.symm ne_aP_aO)
  have Z6 : n0 ≤ h6.size := Nat.le_trans Z3 (Keep.of_wr W6).1
  have K6 : Keep h0 h6 [fo, aB, aP, aO] := K3.wr W6 (Or.inl (List.mem_of_getElem? (i := 2) rfl))
  have N6 := Fr.snoc X6 N3 g_aP
  refine own_go st6 ?_
  show OwnFin p e below s _ _ _ (T6.setTop (mkF m 20 #[rv fo, iv ps, iv pf] []))
  refine own_go (fun t_ k_ => XS.aloadN X6.here hx rfl (hb hby d9_20) rfl rfl k_) ?_
  show OwnFin p e below s _ _ _ (T6.setTop (mkF m 21 #[rv fo, iv ps, iv pf] [(.ref fo)]))
  obtain ⟨T7, X7, e7, st7⟩ := getF X6 hx hZ hown (host := "") (Or.inl (hw _ (List.mem_of_getElem? (i := 26) rfl))) Via.refl e6 F_offeredFrom_6 (g := (mkF m 21 #[rv fo, iv ps, iv pf] [(.ref fo)])) rfl rfl (hb hby d9_21)
  refine own_go st7 ?_
  show OwnFin p e below s _ _ _ (T7.setTop (mkF m 24 #[rv fo, iv ps, iv pf] [(.ref aO)]))
  refine own_go (fun t_ k_ => XS.iloadN X7.here hx rfl (hb hby d9_24) rfl k_) ?_
  show OwnFin p e below s _ _ _ (T7.setTop (mkF m 25 #[rv fo, iv ps, iv pf] [(.int ps), (.ref aO)]))
  refine own_go (fun t_ k_ => XS.iloadN X7.here hx rfl (hb hby d9_25) rfl k_) ?_
  show OwnFin p e below s _ _ _ (T7.setTop (mkF m 26 #[rv fo, iv ps, iv pf] [(.int pf), (.int ps), (.ref aO)]))
  obtain ⟨T8, h8, X8, e8, W8, A8, st8⟩ := own_iastore X7 hx hZ e7 V_aO_6 (i := sl) hps hsl (g := (mkF m 26 #[rv fo, iv ps, iv pf] [(.int pf), (.int ps), (.ref aO)])) rfl rfl (hb hby d9_26)
  have E_fo_8 := E_fo_6.wr W8
  have F_back_8 := F_back_6.other W8 (Or.inl ne_fo_aO)
  have F_keys_8 := F_keys_6.other W8 (Or.inl ne_fo_aO)
  have F_retaken_8 := F_retaken_6.other W8 (Or.inl ne_fo_aO)
  have F_positions_8 := F_positions_6.other W8 (Or.inl ne_fo_aO)
  have F_offeredFrom_8 := F_offeredFrom_6.other W8 (Or.inl ne_fo_aO)
  have F_starts_8 := F_starts_6.other W8 (Or.inl ne_fo_aO)
  have F_size_8 := F_size_6.other W8 (Or.inl ne_fo_aO)
  have F_sorted_8 := F_sorted_6.other W8 (Or.inl ne_fo_aO)
  have F_nextKey_8 := F_nextKey_6.other W8 (Or.inl ne_fo_aO)
  have F_retakenAt_8 := F_retakenAt_6.other W8 (Or.inl ne_fo_aO)
  have F_retakenEnd_8 := F_retakenEnd_6.other W8 (Or.inl ne_fo_aO)
  have V_aB_8 := V_aB_6.other W8 ne_aB_aO
  have V_aP_8 := A6.other W8 ne_aP_aO
  have Z8 : n0 ≤ h8.size := Nat.le_trans Z6 (Keep.of_wr W8).1
  have K8 : Keep h0 h8 [fo, aB, aP, aO] := K6.wr W8 (Or.inl (List.mem_of_getElem? (i := 3) rfl))
  have N8 := Fr.snoc X8 N6 g_aO
  refine own_go st8 ?_
  show OwnFin p e below s _ _ _ (T8.setTop (mkF m 27 #[rv fo, iv ps, iv pf] []))
  refine own_go (fun t_ k_ => XS.aloadN X8.here hx rfl (hb hby d9_27) rfl rfl k_) ?_
  show OwnFin p e below s _ _ _ (T8.setTop (mkF m 28 #[rv fo, iv ps, iv pf] [(.ref fo)]))
  refine own_go (fun t_ k_ => XS.dup X8.here hx rfl (hb hby d9_28) rfl rfl k_) ?_
  show OwnFin p e below s _ _ _ (T8.setTop (mkF m 29 #[rv fo, iv ps, iv pf] [(.ref fo), (.ref fo)]))
  obtain ⟨T9, X9, e9, st9⟩ := getF X8 hx hZ hown (host := "") (Or.inl (hw _ (List.mem_of_getElem? (i := 33) rfl))) Via.refl e8 F_size_8 (g := (mkF m 29 #[rv fo, iv ps, iv pf] [(.ref fo), (.ref fo)])) rfl rfl (hb hby d9_29)
  refine own_go st9 ?_
  show OwnFin p e below s _ _ _ (T9.setTop (mkF m 32 #[rv fo, iv ps, iv pf] [(.int (Int32.ofNat sz)), (.ref fo)]))
  refine own_go (fun t_ k_ => XS.iconst X9.here hx rfl (hb hby d9_32) k_) ?_
  show OwnFin p e below s _ _ _ (T9.setTop (mkF m 33 #[rv fo, iv ps, iv pf] [(.int (1 : Int32)), (.int (Int32.ofNat sz)), (.ref fo)]))
  refine own_go (fun t_ k_ => XS.iadd X9.here hx rfl (hb hby d9_33) rfl k_) ?_
  show OwnFin p e below s _ _ _ (T9.setTop (mkF m 34 #[rv fo, iv ps, iv pf] [(.int ((Int32.ofNat sz) + (1 : Int32))), (.ref fo)]))
  obtain ⟨T10, h10, X10, e10, W10, st10⟩ := putF X9 hx hZ hown (host := "") (Or.inl (hw _ (List.mem_of_getElem? (i := 33) rfl))) Via.refl e9 F_size_8 E_fo_8 (Or.inl (hw _ (List.mem_of_getElem? (i := 34) rfl))) (hw _ (List.mem_of_getElem? (i := 7) rfl)) (ty := .int) (by decide) rfl rfl (g := (mkF m 34 #[rv fo, iv ps, iv pf] [(.int ((Int32.ofNat sz) + (1 : Int32))), (.ref fo)])) rfl rfl (hb hby d9_34)
  have E_fo_10 := E_fo_8.wr W10
  have F_back_10 := F_back_8.other W10 (Or.inr (slot_ne (Or.inr (hw _ (List.mem_of_getElem? (i := 18) rfl))) (Or.inl (hw _ (List.mem_of_getElem? (i := 34) rfl))) (by decide) (t := (.array .int)) (t' := .int) (by decide) (by decide)))
  have F_keys_10 := F_keys_8.other W10 (Or.inr (slot_ne (Or.inr (hw _ (List.mem_of_getElem? (i := 21) rfl))) (Or.inl (hw _ (List.mem_of_getElem? (i := 34) rfl))) (by decide) (t := (.array .long)) (t' := .int) (by decide) (by decide)))
  have F_retaken_10 := F_retaken_8.other W10 (Or.inr (slot_ne (Or.inr (hw _ (List.mem_of_getElem? (i := 23) rfl))) (Or.inl (hw _ (List.mem_of_getElem? (i := 34) rfl))) (by decide) (t := (.array .long)) (t' := .int) (by decide) (by decide)))
  have F_positions_10 := F_positions_8.other W10 (Or.inr (slot_ne (Or.inl (hw _ (List.mem_of_getElem? (i := 25) rfl))) (Or.inl (hw _ (List.mem_of_getElem? (i := 34) rfl))) (by decide) (t := (.array .int)) (t' := .int) (by decide) (by decide)))
  have F_offeredFrom_10 := F_offeredFrom_8.other W10 (Or.inr (slot_ne (Or.inl (hw _ (List.mem_of_getElem? (i := 27) rfl))) (Or.inl (hw _ (List.mem_of_getElem? (i := 34) rfl))) (by decide) (t := (.array .int)) (t' := .int) (by decide) (by decide)))
  have F_starts_10 := F_starts_8.other W10 (Or.inr (slot_ne (Or.inl (hw _ (List.mem_of_getElem? (i := 16) rfl))) (Or.inl (hw _ (List.mem_of_getElem? (i := 34) rfl))) (by decide) (t := (.array .int)) (t' := .int) (by decide) (by decide)))
  have F_size_10 := F_size_8.same W10
  have F_sorted_10 := F_sorted_8.other W10 (Or.inr (slot_ne (Or.inl (hw _ (List.mem_of_getElem? (i := 43) rfl))) (Or.inl (hw _ (List.mem_of_getElem? (i := 34) rfl))) (by decide) (t := .int) (t' := .int) (by decide) (by decide)))
  have F_nextKey_10 := F_nextKey_8.other W10 (Or.inr (slot_ne (Or.inl (hw _ (List.mem_of_getElem? (i := 45) rfl))) (Or.inl (hw _ (List.mem_of_getElem? (i := 34) rfl))) (by decide) (t := .int) (t' := .int) (by decide) (by decide)))
  have F_retakenAt_10 := F_retakenAt_8.other W10 (Or.inr (slot_ne (Or.inl (hw _ (List.mem_of_getElem? (i := 47) rfl))) (Or.inl (hw _ (List.mem_of_getElem? (i := 34) rfl))) (by decide) (t := .int) (t' := .int) (by decide) (by decide)))
  have F_retakenEnd_10 := F_retakenEnd_8.other W10 (Or.inr (slot_ne (Or.inl (hw _ (List.mem_of_getElem? (i := 49) rfl))) (Or.inl (hw _ (List.mem_of_getElem? (i := 34) rfl))) (by decide) (t := .int) (t' := .int) (by decide) (by decide)))
  have V_aB_10 := V_aB_8.other W10 (Ne.symm ne_fo_aB)
  have V_aP_10 := V_aP_8.other W10 (Ne.symm ne_fo_aP)
  have V_aO_10 := A8.other W10 (Ne.symm ne_fo_aO)
  have Z10 : n0 ≤ h10.size := Nat.le_trans Z8 (Keep.of_wr W10).1
  have K10 : Keep h0 h10 [fo, aB, aP, aO] := K8.wr W10 (Or.inl (List.mem_of_getElem? (i := 0) rfl))
  have N10 := Fr.snoc X10 N8 g_fo
  refine own_go st10 ?_
  show OwnFin p e below s _ _ _ (T10.setTop (mkF m 37 #[rv fo, iv ps, iv pf] []))
  refine own_ret X10 (v := none) hlk (fun _ => rfl) (fun fs hr => X10.returnOut hx hret (hb hby d9_37) hr) (by decide) (by decide) ?_
  rw [e10]
  exact ⟨rfl, N10, K10, E_fo_10, F_back_10, F_keys_10, F_retaken_10, F_positions_10, F_offeredFrom_10, F_starts_10, (by rw [inc_ofNat sz]; exact F_size_10), F_sorted_10, F_nextKey_10, F_retakenAt_10, F_retakenEnd_10, V_aB_10.congr (fun z hz => by (try dsimp only); split <;> rfl), _, _, V_aP_10, V_aO_10⟩
theorem d12_0 : decode prog_156_method_8_code 0 = .ok (.aload_n 0, 1) := by decide +kernel
theorem d12_1 : decode prog_156_method_8_code 1 = .ok (.getfield 26, 3) := by decide +kernel
theorem d12_4 : decode prog_156_method_8_code 4 = .ok (.iload_n 1, 1) := by decide +kernel
theorem d12_5 : decode prog_156_method_8_code 5 = .ok (.iload_n 2, 1) := by decide +kernel
theorem d12_6 : decode prog_156_method_8_code 6 = .ok (.iastore, 1) := by decide +kernel
theorem d12_7 : decode prog_156_method_8_code 7 = .ok (.iload_n 3, 1) := by decide +kernel
theorem d12_8 : decode prog_156_method_8_code 8 = .ok (.iload_n 1, 1) := by decide +kernel
theorem d12_9 : decode prog_156_method_8_code 9 = .ok (.invokestatic 33, 3) := by decide +kernel
theorem d12_12 : decode prog_156_method_8_code 12 = .ok (.lstore 4, 2) := by decide +kernel
theorem d12_14 : decode prog_156_method_8_code 14 = .ok (.aload_n 0, 1) := by decide +kernel
theorem d12_15 : decode prog_156_method_8_code 15 = .ok (.getfield 58, 3) := by decide +kernel
theorem d12_18 : decode prog_156_method_8_code 18 = .ok (.istore 6, 2) := by decide +kernel
theorem d12_20 : decode prog_156_method_8_code 20 = .ok (.iload 6, 2) := by decide +kernel
theorem d12_22 : decode prog_156_method_8_code 22 = .ok (.aload_n 0, 1) := by decide +kernel
theorem d12_23 : decode prog_156_method_8_code 23 = .ok (.getfield 55, 3) := by decide +kernel
theorem d12_26 : decode prog_156_method_8_code 26 = .ok (.if_icmp .le 40, 3) := by decide +kernel
theorem d12_66 : decode prog_156_method_8_code 66 = .ok (.aload_n 0, 1) := by decide +kernel
theorem d12_67 : decode prog_156_method_8_code 67 = .ok (.getfield 20, 3) := by decide +kernel
theorem d12_70 : decode prog_156_method_8_code 70 = .ok (.iload 6, 2) := by decide +kernel
theorem d12_72 : decode prog_156_method_8_code 72 = .ok (.lload 4, 2) := by decide +kernel
theorem d12_74 : decode prog_156_method_8_code 74 = .ok (.lastore, 1) := by decide +kernel
theorem d12_75 : decode prog_156_method_8_code 75 = .ok (.aload_n 0, 1) := by decide +kernel
theorem d12_76 : decode prog_156_method_8_code 76 = .ok (.dup, 1) := by decide +kernel
theorem d12_77 : decode prog_156_method_8_code 77 = .ok (.getfield 58, 3) := by decide +kernel
theorem d12_80 : decode prog_156_method_8_code 80 = .ok (.iconst 1, 1) := by decide +kernel
theorem d12_81 : decode prog_156_method_8_code 81 = .ok (.iadd, 1) := by decide +kernel
theorem d12_82 : decode prog_156_method_8_code 82 = .ok (.putfield 58, 3) := by decide +kernel
theorem d12_85 : decode prog_156_method_8_code 85 = .ok (.return_, 1) := by decide +kernel
theorem pn_12 : plainFor (⟨"com/example/nearside/nearside/slotted/delay/FairBack", "retake", "(III)V"⟩ : MethodName) = true := plainFor_of_name (by first | (simp [plainName, overriddenIn]; done) | decide +kernel)
theorem pd_12_8 : parseMethodDescriptor "(II)J" = some ⟨[.int, .int], some .long⟩ := by decide +kernel
theorem ef_12 (m : MethodId) (fo : Addr) (ps : Int32) (pf : Int32) (pr : Int32) : entryFrame m #[(.ref fo), (.int ps), (.int pf), (.int pr)] 7 = mkF m 0 #[rv fo, iv ps, iv pf, iv pr, .unset, .unset, .unset] [] := by first | (simp [entryFrame, mkF, argsToLocals, Value.category]; done) | rfl
set_option maxRecDepth 65536 in
set_option maxHeartbeats 40000000 in
theorem rm12 (l : Launch) (Z : State) (a0 : Array Value) (hw : ∀ d ∈ tables_1, d.before a0 Z = true) (ws : List Jvm.Cond) (fo : Addr) (ps : Int32) (pf : Int32) (pr : Int32) (aK : Addr) (aT : Addr) (aO : Addr) (sl : Nat) (fT : Nat → Value) (fO : Nat → Value) {u0 : Value} {u1 : Value} (h0 : Heap) (n0 : Nat) (Z0 : n0 ≤ h0.size) (hps : ps = Int32.ofNat sl) (hsl : sl < 3) (E_fo : Exa Z h0 fo "com/example/nearside/nearside/slotted/delay/FairBack") (F_keys : Fld Z h0 fo "com/example/nearside/nearside/slotted/delay/FairBack" "keys" "[J" (.ref aK)) (F_retaken : Fld Z h0 fo "com/example/nearside/nearside/slotted/delay/FairBack" "retaken" "[J" (.ref aT)) (F_offeredFrom : Fld Z h0 fo "com/example/nearside/nearside/slotted/delay/FairBack" "offeredFrom" "[I" (.ref aO)) (F_sorted : Fld Z h0 fo "com/example/nearside/nearside/slotted/delay/FairBack" "sorted" "I" u0) (F_nextKey : Fld Z h0 fo "com/example/nearside/nearside/slotted/delay/FairBack" "nextKey" "I" u1) (F_retakenAt : Fld Z h0 fo "com/example/nearside/nearside/slotted/delay/FairBack" "retakenAt" "I" (.int (0 : Int32))) (F_retakenEnd : Fld Z h0 fo "com/example/nearside/nearside/slotted/delay/FairBack" "retakenEnd" "I" (.int (0 : Int32))) (V_aT : OwnArr Z h0 aT .long 3 fT) (V_aO : OwnArr Z h0 aO .int 3 fO) (ne_fo_aT : fo ≠ aT) (ne_fo_aO : fo ≠ aO) (ne_aT_aO : aT ≠ aO) (g_fo : n0 ≤ fo) (g_aT : n0 ≤ aT) (g_aO : n0 ≤ aO) :
    OwnCtr l Z (⟨"com/example/nearside/nearside/slotted/delay/FairBack", "retake", "(III)V"⟩ : MethodName) ws prog_156_method_8_code 7 none ({ frames := 1, cells := 0, slots := 0, locals := 13 } : Room) #[(.ref fo), (.int ps), (.int pf), (.int pr)] h0 (fun v h L => v = none ∧ Fr n0 L ∧ Keep h0 h [fo, aT, aO] ∧ Exa Z h fo "com/example/nearside/nearside/slotted/delay/FairBack" ∧ Fld Z h fo "com/example/nearside/nearside/slotted/delay/FairBack" "keys" "[J" (.ref aK) ∧ Fld Z h fo "com/example/nearside/nearside/slotted/delay/FairBack" "retaken" "[J" (.ref aT) ∧ Fld Z h fo "com/example/nearside/nearside/slotted/delay/FairBack" "offeredFrom" "[I" (.ref aO) ∧ Fld Z h fo "com/example/nearside/nearside/slotted/delay/FairBack" "sorted" "I" u0 ∧ Fld Z h fo "com/example/nearside/nearside/slotted/delay/FairBack" "nextKey" "I" u1 ∧ Fld Z h fo "com/example/nearside/nearside/slotted/delay/FairBack" "retakenAt" "I" (.int (0 : Int32)) ∧ Fld Z h fo "com/example/nearside/nearside/slotted/delay/FairBack" "retakenEnd" "I" (.int (1 : Int32)) ∧ OwnArr Z h aT .long 3 (fun k => if k = 0 then .long (own_key pr ps) else fT k)) := by
  refine own_body (g0 := fun m => mkF m 0 #[rv fo, iv ps, iv pf, iv pr, .unset, .unset, .unset] []) pn_12 (fun m => ef_12 m fo ps pf pr) ?_
  intro p e s m below meth c s₁ X0 hx hby hml hown hnm hZ e0 hret hlk
  have hml : c.maxLocals = 7 := hml
  have hown : s.vm.findClass "com/example/nearside/nearside/slotted/delay/FairBack" = some m.cls := hown
  have hnm : meth.name = "retake" := hnm
  have hret : meth.sig.returnType = none := hret
  have N0 := Fr.nil n0
  have K0 := Keep.refl h0 [fo, aT, aO]
  show OwnFin p e below s _ _ _ (s₁.setTop (mkF m 0 #[rv fo, iv ps, iv pf, iv pr, .unset, .unset, .unset] []))
  refine own_go (fun t_ k_ => XS.aloadN X0.here hx rfl (hb hby d12_0) rfl rfl k_) ?_
  show OwnFin p e below s _ _ _ (s₁.setTop (mkF m 1 #[rv fo, iv ps, iv pf, iv pr, .unset, .unset, .unset] [(.ref fo)]))
  obtain ⟨T1, X1, e1, st1⟩ := getF X0 hx hZ hown (host := "") (Or.inl (hw _ (List.mem_of_getElem? (i := 26) rfl))) Via.refl e0 F_offeredFrom (g := (mkF m 1 #[rv fo, iv ps, iv pf, iv pr, .unset, .unset, .unset] [(.ref fo)])) rfl rfl (hb hby d12_1)
  refine own_go st1 ?_
  show OwnFin p e below s _ _ _ (T1.setTop (mkF m 4 #[rv fo, iv ps, iv pf, iv pr, .unset, .unset, .unset] [(.ref aO)]))
  refine own_go (fun t_ k_ => XS.iloadN X1.here hx rfl (hb hby d12_4) rfl k_) ?_
  show OwnFin p e below s _ _ _ (T1.setTop (mkF m 5 #[rv fo, iv ps, iv pf, iv pr, .unset, .unset, .unset] [(.int ps), (.ref aO)]))
  refine own_go (fun t_ k_ => XS.iloadN X1.here hx rfl (hb hby d12_5) rfl k_) ?_
  show OwnFin p e below s _ _ _ (T1.setTop (mkF m 6 #[rv fo, iv ps, iv pf, iv pr, .unset, .unset, .unset] [(.int pf), (.int ps), (.ref aO)]))
  obtain ⟨T2, h2, X2, e2, W2, A2, st2⟩ := own_iastore X1 hx hZ e1 V_aO (i := sl) hps hsl (g := (mkF m 6 #[rv fo, iv ps, iv pf, iv pr, .unset, .unset, .unset] [(.int pf), (.int ps), (.ref aO)])) rfl rfl (hb hby d12_6)
  have E_fo_2 := E_fo.wr W2
  have F_keys_2 := F_keys.other W2 (Or.inl ne_fo_aO)
  have F_retaken_2 := F_retaken.other W2 (Or.inl ne_fo_aO)
  have F_offeredFrom_2 := F_offeredFrom.other W2 (Or.inl ne_fo_aO)
  have F_sorted_2 := F_sorted.other W2 (Or.inl ne_fo_aO)
  have F_nextKey_2 := F_nextKey.other W2 (Or.inl ne_fo_aO)
  have F_retakenAt_2 := F_retakenAt.other W2 (Or.inl ne_fo_aO)
  have F_retakenEnd_2 := F_retakenEnd.other W2 (Or.inl ne_fo_aO)
  have V_aT_2 := V_aT.other W2 ne_aT_aO
  have Z2 : n0 ≤ h2.size := Nat.le_trans Z0 (Keep.of_wr W2).1
  have K2 : Keep h0 h2 [fo, aT, aO] := K0.wr W2 (Or.inl (List.mem_of_getElem? (i := 2) rfl))
  have N2 := Fr.snoc X2 N0 g_aO
  refine own_go st2 ?_
  show OwnFin p e below s _ _ _ (T2.setTop (mkF m 7 #[rv fo, iv ps, iv pf, iv pr, .unset, .unset, .unset] []))
  refine own_go (fun t_ k_ => XS.iloadN X2.here hx rfl (hb hby d12_7) rfl k_) ?_
  show OwnFin p e below s _ _ _ (T2.setTop (mkF m 8 #[rv fo, iv ps, iv pf, iv pr, .unset, .unset, .unset] [(.int pr)]))
  refine own_go (fun t_ k_ => XS.iloadN X2.here hx rfl (hb hby d12_8) rfl k_) ?_
  show OwnFin p e below s _ _ _ (T2.setTop (mkF m 9 #[rv fo, iv ps, iv pf, iv pr, .unset, .unset, .unset] [(.int ps), (.int pr)]))
  obtain ⟨v3, T3, L3, X3, hQ3, st3⟩ := own_callS X2 hx hZ (y := (⟨"com/example/nearside/nearside/slotted/delay/FairBack", "key", "(II)J"⟩ : MethodName)) hown (hw _ (List.mem_of_getElem? (i := 63) rfl)) (hw _ (List.mem_of_getElem? (i := 64) rfl)) (hw _ (List.mem_of_getElem? (i := 8) rfl)) (hw _ (List.mem_of_getElem? (i := 65) rfl)) (by decide) (W := 0) (rm10 l Z a0 hw [] pr ps h2 n0 Z2) (by decide) (by decide) (g := (mkF m 9 #[rv fo, iv ps, iv pf, iv pr, .unset, .unset, .unset] [(.int ps), (.int pr)])) rfl (by rw [hml]; rfl) (argsL := [(.int pr), (.int ps)]) (rest := []) (lenOf pd_12_8 rfl) rfl (by show 2 * 0 + _ ≤ _; exact Nat.le_of_eq rfl) (hb hby d12_9) e2 rfl (by decide) (by decide)
  obtain ⟨rfl, Nq3, e3⟩ := hQ3
  have N3 := Fr.app N2 Nq3
  refine own_go st3 ?_
  show OwnFin p e below s _ _ _ (T3.setTop (mkF m 12 #[rv fo, iv ps, iv pf, iv pr, .unset, .unset, .unset] [(.long (own_key pr ps))]))
  refine own_go (fun t_ k_ => XS.lstore X3.here hx rfl (hb hby d12_12) rfl (l' := #[rv fo, iv ps, iv pf, iv pr, .val (.long (own_key pr ps)), .second, .unset]) rfl k_) ?_
  show OwnFin p e below s _ _ _ (T3.setTop (mkF m 14 #[rv fo, iv ps, iv pf, iv pr, .val (.long (own_key pr ps)), .second, .unset] []))
  refine own_go (fun t_ k_ => XS.aloadN X3.here hx rfl (hb hby d12_14) rfl rfl k_) ?_
  show OwnFin p e below s _ _ _ (T3.setTop (mkF m 15 #[rv fo, iv ps, iv pf, iv pr, .val (.long (own_key pr ps)), .second, .unset] [(.ref fo)]))
  obtain ⟨T4, X4, e4, st4⟩ := getF X3 hx hZ hown (host := "") (Or.inl (hw _ (List.mem_of_getElem? (i := 48) rfl))) Via.refl e3 F_retakenEnd_2 (g := (mkF m 15 #[rv fo, iv ps, iv pf, iv pr, .val (.long (own_key pr ps)), .second, .unset] [(.ref fo)])) rfl rfl (hb hby d12_15)
  refine own_go st4 ?_
  show OwnFin p e below s _ _ _ (T4.setTop (mkF m 18 #[rv fo, iv ps, iv pf, iv pr, .val (.long (own_key pr ps)), .second, .unset] [(.int (0 : Int32))]))
  refine own_go (fun t_ k_ => XS.istore X4.here hx rfl (hb hby d12_18) rfl (l' := #[rv fo, iv ps, iv pf, iv pr, .val (.long (own_key pr ps)), .second, iv (0 : Int32)]) rfl k_) ?_
  show OwnFin p e below s _ _ _ (T4.setTop (mkF m 20 #[rv fo, iv ps, iv pf, iv pr, .val (.long (own_key pr ps)), .second, iv (0 : Int32)] []))
  refine own_go (fun t_ k_ => XS.iload X4.here hx rfl (hb hby d12_20) rfl k_) ?_
  show OwnFin p e below s _ _ _ (T4.setTop (mkF m 22 #[rv fo, iv ps, iv pf, iv pr, .val (.long (own_key pr ps)), .second, iv (0 : Int32)] [(.int (0 : Int32))]))
  refine own_go (fun t_ k_ => XS.aloadN X4.here hx rfl (hb hby d12_22) rfl rfl k_) ?_
  show OwnFin p e below s _ _ _ (T4.setTop (mkF m 23 #[rv fo, iv ps, iv pf, iv pr, .val (.long (own_key pr ps)), .second, iv (0 : Int32)] [(.ref fo), (.int (0 : Int32))]))
  obtain ⟨T5, X5, e5, st5⟩ := getF X4 hx hZ hown (host := "") (Or.inl (hw _ (List.mem_of_getElem? (i := 46) rfl))) Via.refl e4 F_retakenAt_2 (g := (mkF m 23 #[rv fo, iv ps, iv pf, iv pr, .val (.long (own_key pr ps)), .second, iv (0 : Int32)] [(.ref fo), (.int (0 : Int32))])) rfl rfl (hb hby d12_23)
  refine own_go st5 ?_
  show OwnFin p e below s _ _ _ (T5.setTop (mkF m 26 #[rv fo, iv ps, iv pf, iv pr, .val (.long (own_key pr ps)), .second, iv (0 : Int32)] [(.int (0 : Int32)), (.int (0 : Int32))]))
  refine own_go (fun t_ k_ => XS.icmpYes X5.here hx rfl (pc0 := 26) (pc' := 66) rfl (hb hby d12_26) rfl (flt (by decide)).2.2.2 (by decide) (by decide) k_) ?_
  show OwnFin p e below s _ _ _ (T5.setTop (mkF m 66 #[rv fo, iv ps, iv pf, iv pr, .val (.long (own_key pr ps)), .second, iv (0 : Int32)] []))
  refine own_go (fun t_ k_ => XS.aloadN X5.here hx rfl (hb hby d12_66) rfl rfl k_) ?_
  show OwnFin p e below s _ _ _ (T5.setTop (mkF m 67 #[rv fo, iv ps, iv pf, iv pr, .val (.long (own_key pr ps)), .second, iv (0 : Int32)] [(.ref fo)]))
  obtain ⟨T6, X6, e6, st6⟩ := getF X5 hx hZ hown (host := "") (Or.inl (hw _ (List.mem_of_getElem? (i := 22) rfl))) Via.refl e5 F_retaken_2 (g := (mkF m 67 #[rv fo, iv ps, iv pf, iv pr, .val (.long (own_key pr ps)), .second, iv (0 : Int32)] [(.ref fo)])) rfl rfl (hb hby d12_67)
  refine own_go st6 ?_
  show OwnFin p e below s _ _ _ (T6.setTop (mkF m 70 #[rv fo, iv ps, iv pf, iv pr, .val (.long (own_key pr ps)), .second, iv (0 : Int32)] [(.ref aT)]))
  refine own_go (fun t_ k_ => XS.iload X6.here hx rfl (hb hby d12_70) rfl k_) ?_
  show OwnFin p e below s _ _ _ (T6.setTop (mkF m 72 #[rv fo, iv ps, iv pf, iv pr, .val (.long (own_key pr ps)), .second, iv (0 : Int32)] [(.int (0 : Int32)), (.ref aT)]))
  refine own_go (fun t_ k_ => XS.lload X6.here hx rfl (hb hby d12_72) rfl k_) ?_
  show OwnFin p e below s _ _ _ (T6.setTop (mkF m 74 #[rv fo, iv ps, iv pf, iv pr, .val (.long (own_key pr ps)), .second, iv (0 : Int32)] [(.long (own_key pr ps)), (.int (0 : Int32)), (.ref aT)]))
  obtain ⟨T7, h7, X7, e7, W7, A7, st7⟩ := own_lastore X6 hx hZ e6 V_aT_2 (i := 0) (by decide) (by decide) (g := (mkF m 74 #[rv fo, iv ps, iv pf, iv pr, .val (.long (own_key pr ps)), .second, iv (0 : Int32)] [(.long (own_key pr ps)), (.int (0 : Int32)), (.ref aT)])) rfl rfl (hb hby d12_74)
  have E_fo_7 := E_fo_2.wr W7
  have F_keys_7 := F_keys_2.other W7 (Or.inl ne_fo_aT)
  have F_retaken_7 := F_retaken_2.other W7 (Or.inl ne_fo_aT)
  have F_offeredFrom_7 := F_offeredFrom_2.other W7 (Or.inl ne_fo_aT)
  have F_sorted_7 := F_sorted_2.other W7 (Or.inl ne_fo_aT)
  have F_nextKey_7 := F_nextKey_2.other W7 (Or.inl ne_fo_aT)
  have F_retakenAt_7 := F_retakenAt_2.other W7 (Or.inl ne_fo_aT)
  have F_retakenEnd_7 := F_retakenEnd_2.other W7 (Or.inl ne_fo_aT)
  have V_aO_7 := A2.other W7 (Ne.symm ne_aT_aO)
  have Z7 : n0 ≤ h7.size := Nat.le_trans Z2 (Keep.of_wr W7).1
  have K7 : Keep h0 h7 [fo, aT, aO] := K2.wr W7 (Or.inl (List.mem_of_getElem? (i := 1) rfl))
  have N7 := Fr.snoc X7 N3 g_aT
  refine own_go st7 ?_
  show OwnFin p e below s _ _ _ (T7.setTop (mkF m 75 #[rv fo, iv ps, iv pf, iv pr, .val (.long (own_key pr ps)), .second, iv (0 : Int32)] []))
  refine own_go (fun t_ k_ => XS.aloadN X7.here hx rfl (hb hby d12_75) rfl rfl k_) ?_
  show OwnFin p e below s _ _ _ (T7.setTop (mkF m 76 #[rv fo, iv ps, iv pf, iv pr, .val (.long (own_key pr ps)), .second, iv (0 : Int32)] [(.ref fo)]))
  refine own_go (fun t_ k_ => XS.dup X7.here hx rfl (hb hby d12_76) rfl rfl k_) ?_
  show OwnFin p e below s _ _ _ (T7.setTop (mkF m 77 #[rv fo, iv ps, iv pf, iv pr, .val (.long (own_key pr ps)), .second, iv (0 : Int32)] [(.ref fo), (.ref fo)]))
  obtain ⟨T8, X8, e8, st8⟩ := getF X7 hx hZ hown (host := "") (Or.inl (hw _ (List.mem_of_getElem? (i := 48) rfl))) Via.refl e7 F_retakenEnd_7 (g := (mkF m 77 #[rv fo, iv ps, iv pf, iv pr, .val (.long (own_key pr ps)), .second, iv (0 : Int32)] [(.ref fo), (.ref fo)])) rfl rfl (hb hby d12_77)
  refine own_go st8 ?_
  show OwnFin p e below s _ _ _ (T8.setTop (mkF m 80 #[rv fo, iv ps, iv pf, iv pr, .val (.long (own_key pr ps)), .second, iv (0 : Int32)] [(.int (0 : Int32)), (.ref fo)]))
  refine own_go (fun t_ k_ => XS.iconst X8.here hx rfl (hb hby d12_80) k_) ?_
  show OwnFin p e below s _ _ _ (T8.setTop (mkF m 81 #[rv fo, iv ps, iv pf, iv pr, .val (.long (own_key pr ps)), .second, iv (0 : Int32)] [(.int (1 : Int32)), (.int (0 : Int32)), (.ref fo)]))
  refine own_go (fun t_ k_ => XS.iadd X8.here hx rfl (hb hby d12_81) rfl k_) ?_
  show OwnFin p e below s _ _ _ (T8.setTop (mkF m 82 #[rv fo, iv ps, iv pf, iv pr, .val (.long (own_key pr ps)), .second, iv (0 : Int32)] [(.int (1 : Int32)), (.ref fo)]))
  obtain ⟨T9, h9, X9, e9, W9, st9⟩ := putF X8 hx hZ hown (host := "") (Or.inl (hw _ (List.mem_of_getElem? (i := 48) rfl))) Via.refl e8 F_retakenEnd_7 E_fo_7 (Or.inl (hw _ (List.mem_of_getElem? (i := 49) rfl))) (hw _ (List.mem_of_getElem? (i := 7) rfl)) (ty := .int) (by decide) rfl rfl (g := (mkF m 82 #[rv fo, iv ps, iv pf, iv pr, .val (.long (own_key pr ps)), .second, iv (0 : Int32)] [(.int (1 : Int32)), (.ref fo)])) rfl rfl (hb hby d12_82)
  have E_fo_9 := E_fo_7.wr W9
  have F_keys_9 := F_keys_7.other W9 (Or.inr (slot_ne (Or.inr (hw _ (List.mem_of_getElem? (i := 21) rfl))) (Or.inl (hw _ (List.mem_of_getElem? (i := 49) rfl))) (by decide) (t := (.array .long)) (t' := .int) (by decide) (by decide)))
  have F_retaken_9 := F_retaken_7.other W9 (Or.inr (slot_ne (Or.inr (hw _ (List.mem_of_getElem? (i := 23) rfl))) (Or.inl (hw _ (List.mem_of_getElem? (i := 49) rfl))) (by decide) (t := (.array .long)) (t' := .int) (by decide) (by decide)))
  have F_offeredFrom_9 := F_offeredFrom_7.other W9 (Or.inr (slot_ne (Or.inl (hw _ (List.mem_of_getElem? (i := 27) rfl))) (Or.inl (hw _ (List.mem_of_getElem? (i := 49) rfl))) (by decide) (t := (.array .int)) (t' := .int) (by decide) (by decide)))
  have F_sorted_9 := F_sorted_7.other W9 (Or.inr (slot_ne (Or.inl (hw _ (List.mem_of_getElem? (i := 43) rfl))) (Or.inl (hw _ (List.mem_of_getElem? (i := 49) rfl))) (by decide) (t := .int) (t' := .int) (by decide) (by decide)))
  have F_nextKey_9 := F_nextKey_7.other W9 (Or.inr (slot_ne (Or.inl (hw _ (List.mem_of_getElem? (i := 45) rfl))) (Or.inl (hw _ (List.mem_of_getElem? (i := 49) rfl))) (by decide) (t := .int) (t' := .int) (by decide) (by decide)))
  have F_retakenAt_9 := F_retakenAt_7.other W9 (Or.inr (slot_ne (Or.inl (hw _ (List.mem_of_getElem? (i := 47) rfl))) (Or.inl (hw _ (List.mem_of_getElem? (i := 49) rfl))) (by decide) (t := .int) (t' := .int) (by decide) (by decide)))
  have F_retakenEnd_9 := F_retakenEnd_7.same W9
  have V_aT_9 := A7.other W9 (Ne.symm ne_fo_aT)
  have V_aO_9 := V_aO_7.other W9 (Ne.symm ne_fo_aO)
  have Z9 : n0 ≤ h9.size := Nat.le_trans Z7 (Keep.of_wr W9).1
  have K9 : Keep h0 h9 [fo, aT, aO] := K7.wr W9 (Or.inl (List.mem_of_getElem? (i := 0) rfl))
  have N9 := Fr.snoc X9 N7 g_fo
  refine own_go st9 ?_
  show OwnFin p e below s _ _ _ (T9.setTop (mkF m 85 #[rv fo, iv ps, iv pf, iv pr, .val (.long (own_key pr ps)), .second, iv (0 : Int32)] []))
  refine own_ret X9 (v := none) hlk (fun _ => rfl) (fun fs hr => X9.returnOut hx hret (hb hby d12_85) hr) (by decide) (by decide) ?_
  rw [e9]
  exact ⟨rfl, N9, K9, E_fo_9, F_keys_9, F_retaken_9, F_offeredFrom_9, F_sorted_9, F_nextKey_9, F_retakenAt_9, F_retakenEnd_9, V_aT_9⟩
theorem d2_0 : decode prog_156_method_1_code 0 = .ok (.aload_n 0, 1) := by decide +kernel
theorem d2_1 : decode prog_156_method_1_code 1 = .ok (.invokespecial 1, 3) := by decide +kernel
theorem d2_4 : decode prog_156_method_1_code 4 = .ok (.aload_n 0, 1) := by decide +kernel
theorem d2_5 : decode prog_156_method_1_code 5 = .ok (.iconst 2, 1) := by decide +kernel
theorem d2_6 : decode prog_156_method_1_code 6 = .ok (.newarray .int, 2) := by decide +kernel
theorem d2_8 : decode prog_156_method_1_code 8 = .ok (.putfield 7, 3) := by decide +kernel
theorem d2_11 : decode prog_156_method_1_code 11 = .ok (.aload_n 0, 1) := by decide +kernel
theorem d2_12 : decode prog_156_method_1_code 12 = .ok (.iload_n 1, 1) := by decide +kernel
theorem d2_13 : decode prog_156_method_1_code 13 = .ok (.newarray .int, 2) := by decide +kernel
theorem d2_15 : decode prog_156_method_1_code 15 = .ok (.putfield 13, 3) := by decide +kernel
theorem d2_18 : decode prog_156_method_1_code 18 = .ok (.aload_n 0, 1) := by decide +kernel
theorem d2_19 : decode prog_156_method_1_code 19 = .ok (.iload_n 1, 1) := by decide +kernel
theorem d2_20 : decode prog_156_method_1_code 20 = .ok (.newarray .long, 2) := by decide +kernel
theorem d2_22 : decode prog_156_method_1_code 22 = .ok (.putfield 16, 3) := by decide +kernel
theorem d2_25 : decode prog_156_method_1_code 25 = .ok (.aload_n 0, 1) := by decide +kernel
theorem d2_26 : decode prog_156_method_1_code 26 = .ok (.iload_n 1, 1) := by decide +kernel
theorem d2_27 : decode prog_156_method_1_code 27 = .ok (.newarray .long, 2) := by decide +kernel
theorem d2_29 : decode prog_156_method_1_code 29 = .ok (.putfield 20, 3) := by decide +kernel
theorem d2_32 : decode prog_156_method_1_code 32 = .ok (.aload_n 0, 1) := by decide +kernel
theorem d2_33 : decode prog_156_method_1_code 33 = .ok (.iload_n 2, 1) := by decide +kernel
theorem d2_34 : decode prog_156_method_1_code 34 = .ok (.newarray .int, 2) := by decide +kernel
theorem d2_36 : decode prog_156_method_1_code 36 = .ok (.putfield 23, 3) := by decide +kernel
theorem d2_39 : decode prog_156_method_1_code 39 = .ok (.aload_n 0, 1) := by decide +kernel
theorem d2_40 : decode prog_156_method_1_code 40 = .ok (.iload_n 2, 1) := by decide +kernel
theorem d2_41 : decode prog_156_method_1_code 41 = .ok (.newarray .int, 2) := by decide +kernel
theorem d2_43 : decode prog_156_method_1_code 43 = .ok (.putfield 26, 3) := by decide +kernel
theorem d2_46 : decode prog_156_method_1_code 46 = .ok (.return_, 1) := by decide +kernel
theorem pn_2 : plainFor (⟨"com/example/nearside/nearside/slotted/delay/FairBack", "<init>", "(II)V"⟩ : MethodName) = true := plainFor_of_name (by first | (simp [plainName, overriddenIn]; done) | decide +kernel)
theorem ef_2 (m : MethodId) (fo : Addr) : entryFrame m #[(.ref fo), (.int (3 : Int32)), (.int (3 : Int32))] 3 = mkF m 0 #[rv fo, iv (3 : Int32), iv (3 : Int32)] [] := by first | (simp [entryFrame, mkF, argsToLocals, Value.category]; done) | rfl
set_option maxRecDepth 65536 in
set_option maxHeartbeats 40000000 in
theorem rm2 (l : Launch) (Z : State) (a0 : Array Value) (hw : ∀ d ∈ tables_1, d.before a0 Z = true) (ws : List Jvm.Cond) (fo : Addr) {u0 : Value} {u1 : Value} {u2 : Value} {u3 : Value} {u4 : Value} {u5 : Value} {u6 : Value} {u7 : Value} {u8 : Value} {u9 : Value} {u10 : Value} (h0 : Heap) (n0 : Nat) (Z0 : n0 ≤ h0.size) (E_fo : Exa Z h0 fo "com/example/nearside/nearside/slotted/delay/FairBack") (F_back : Fld Z h0 fo "com/example/nearside/nearside/slotted/delay/FairBack" "back" "[I" u0) (F_keys : Fld Z h0 fo "com/example/nearside/nearside/slotted/delay/FairBack" "keys" "[J" u1) (F_retaken : Fld Z h0 fo "com/example/nearside/nearside/slotted/delay/FairBack" "retaken" "[J" u2) (F_positions : Fld Z h0 fo "com/example/nearside/nearside/slotted/delay/FairBack" "positions" "[I" u3) (F_offeredFrom : Fld Z h0 fo "com/example/nearside/nearside/slotted/delay/FairBack" "offeredFrom" "[I" u4) (F_starts : Fld Z h0 fo "com/example/nearside/nearside/slotted/delay/FairBack" "starts" "[I" u5) (F_size : Fld Z h0 fo "com/example/nearside/nearside/slotted/delay/FairBack" "size" "I" u6) (F_sorted : Fld Z h0 fo "com/example/nearside/nearside/slotted/delay/FairBack" "sorted" "I" u7) (F_nextKey : Fld Z h0 fo "com/example/nearside/nearside/slotted/delay/FairBack" "nextKey" "I" u8) (F_retakenAt : Fld Z h0 fo "com/example/nearside/nearside/slotted/delay/FairBack" "retakenAt" "I" u9) (F_retakenEnd : Fld Z h0 fo "com/example/nearside/nearside/slotted/delay/FairBack" "retakenEnd" "I" u10) (g_fo : n0 ≤ fo) :
    OwnCtr l Z (⟨"com/example/nearside/nearside/slotted/delay/FairBack", "<init>", "(II)V"⟩ : MethodName) ws prog_156_method_1_code 3 none ({ frames := 1, cells := 6, slots := 17, locals := 12 } : Room) #[(.ref fo), (.int (3 : Int32)), (.int (3 : Int32))] h0 (fun v h L => ∃ aB aK aT aP aO aS : Addr, v = none ∧ Fr n0 L ∧ Keep h0 h [fo] ∧ Exa Z h fo "com/example/nearside/nearside/slotted/delay/FairBack" ∧ Fld Z h fo "com/example/nearside/nearside/slotted/delay/FairBack" "back" "[I" (.ref aB) ∧ Fld Z h fo "com/example/nearside/nearside/slotted/delay/FairBack" "keys" "[J" (.ref aK) ∧ Fld Z h fo "com/example/nearside/nearside/slotted/delay/FairBack" "retaken" "[J" (.ref aT) ∧ Fld Z h fo "com/example/nearside/nearside/slotted/delay/FairBack" "positions" "[I" (.ref aP) ∧ Fld Z h fo "com/example/nearside/nearside/slotted/delay/FairBack" "offeredFrom" "[I" (.ref aO) ∧ Fld Z h fo "com/example/nearside/nearside/slotted/delay/FairBack" "starts" "[I" (.ref aS) ∧ Fld Z h fo "com/example/nearside/nearside/slotted/delay/FairBack" "size" "I" u6 ∧ Fld Z h fo "com/example/nearside/nearside/slotted/delay/FairBack" "sorted" "I" u7 ∧ Fld Z h fo "com/example/nearside/nearside/slotted/delay/FairBack" "nextKey" "I" u8 ∧ Fld Z h fo "com/example/nearside/nearside/slotted/delay/FairBack" "retakenAt" "I" u9 ∧ Fld Z h fo "com/example/nearside/nearside/slotted/delay/FairBack" "retakenEnd" "I" u10 ∧ h0.size ≤ aB ∧ h0.size ≤ aK ∧ h0.size ≤ aT ∧ h0.size ≤ aP ∧ h0.size ≤ aO ∧ h0.size ≤ aS ∧ aB ≠ aK ∧ aB ≠ aT ∧ aB ≠ aP ∧ aB ≠ aO ∧ aB ≠ aS ∧ aK ≠ aT ∧ aK ≠ aP ∧ aK ≠ aO ∧ aK ≠ aS ∧ aT ≠ aP ∧ aT ≠ aO ∧ aT ≠ aS ∧ aP ≠ aO ∧ aP ≠ aS ∧ aO ≠ aS ∧ OwnArr Z h aB .int 3 (fun _ => .int 0) ∧ OwnArr Z h aK .long 3 (fun _ => .long 0) ∧ OwnArr Z h aT .long 3 (fun _ => .long 0) ∧ OwnArr Z h aP .int 3 (fun _ => .int 0) ∧ OwnArr Z h aO .int 3 (fun _ => .int 0) ∧ OwnArr Z h aS .int 2 (fun _ => .int 0)) := by
  refine own_body (g0 := fun m => mkF m 0 #[rv fo, iv (3 : Int32), iv (3 : Int32)] []) pn_2 (fun m => ef_2 m fo) ?_
  intro p e s m below meth c s₁ X0 hx hby hml hown hnm hZ e0 hret hlk
  have hml : c.maxLocals = 3 := hml
  have hown : s.vm.findClass "com/example/nearside/nearside/slotted/delay/FairBack" = some m.cls := hown
  have hnm : meth.name = "<init>" := hnm
  have hret : meth.sig.returnType = none := hret
  have N0 := Fr.nil n0
  have K0 := Keep.refl h0 [fo]
  show OwnFin p e below s _ _ _ (s₁.setTop (mkF m 0 #[rv fo, iv (3 : Int32), iv (3 : Int32)] []))
  refine own_go (fun t_ k_ => XS.aloadN X0.here hx rfl (hb hby d2_0) rfl rfl k_) ?_
  show OwnFin p e below s _ _ _ (s₁.setTop (mkF m 1 #[rv fo, iv (3 : Int32), iv (3 : Int32)] [(.ref fo)]))
  obtain ⟨T1, X1, e1, st1⟩ := initO X0 hx hZ hown (hw _ (List.mem_of_getElem? (i := 12) rfl)) (hw _ (List.mem_of_getElem? (i := 13) rfl)) (hw _ (List.mem_of_getElem? (i := 14) rfl)) e0 (g := (mkF m 1 #[rv fo, iv (3 : Int32), iv (3 : Int32)] [(.ref fo)])) rfl (by rw [hml]; rfl) rfl (hb hby d2_1) (by decide) (W := 0) (by show 2 * 0 + _ ≤ _; exact Nat.le_of_eq rfl) (by decide)
  refine own_go st1 ?_
  show OwnFin p e below s _ _ _ (T1.setTop (mkF m 4 #[rv fo, iv (3 : Int32), iv (3 : Int32)] []))
  refine own_go (fun t_ k_ => XS.aloadN X1.here hx rfl (hb hby d2_4) rfl rfl k_) ?_
  show OwnFin p e below s _ _ _ (T1.setTop (mkF m 5 #[rv fo, iv (3 : Int32), iv (3 : Int32)] [(.ref fo)]))
  refine own_go (fun t_ k_ => XS.iconst X1.here hx rfl (hb hby d2_5) k_) ?_
  show OwnFin p e below s _ _ _ (T1.setTop (mkF m 6 #[rv fo, iv (3 : Int32), iv (3 : Int32)] [(.int (2 : Int32)), (.ref fo)]))
  obtain ⟨T2, h2, X2, e2, E2, A2, st2⟩ := own_newarr X1 hx hZ (hw _ (List.mem_of_getElem? (i := 0) rfl)) e1 (g := (mkF m 6 #[rv fo, iv (3 : Int32), iv (3 : Int32)] [(.int (2 : Int32)), (.ref fo)])) rfl (hb hby d2_6) rfl (n := 2) (cap := 2) (by decide) (by decide) (by decide) (by decide) (by decide)
  obtain ⟨b2, g2⟩ : ∃ z, z = h0.size := ⟨_, rfl⟩
  rw [← g2] at A2 st2
  have g_b2 : n0 ≤ b2 := Nat.le_trans Z0 (Nat.le_of_eq g2.symm)
  have sz_b2 : h0.size ≤ b2 := Nat.le_trans K0.1 (Nat.le_of_eq g2.symm)
  have ne_fo_b2 : fo ≠ b2 := Nat.ne_of_lt (Nat.lt_of_lt_of_le E_fo.lt (Nat.le_of_eq g2.symm))
  have E_fo_2 := E_fo.ext E2
  have F_back_2 := F_back.ext E2
  have F_keys_2 := F_keys.ext E2
  have F_retaken_2 := F_retaken.ext E2
  have F_positions_2 := F_positions.ext E2
  have F_offeredFrom_2 := F_offeredFrom.ext E2
  have F_starts_2 := F_starts.ext E2
  have F_size_2 := F_size.ext E2
  have F_sorted_2 := F_sorted.ext E2
  have F_nextKey_2 := F_nextKey.ext E2
  have F_retakenAt_2 := F_retakenAt.ext E2
  have F_retakenEnd_2 := F_retakenEnd.ext E2
  have Z2 : n0 ≤ h2.size := Nat.le_trans Z0 E2.1
  have K2 : Keep h0 h2 [fo] := K0.ext E2
  have V_b2 : OwnArr Z h2 b2 .int 2 (fun _ => (.int (0 : Int32))) := A2
  refine own_go st2 ?_
  show OwnFin p e below s _ _ _ (T2.setTop (mkF m 8 #[rv fo, iv (3 : Int32), iv (3 : Int32)] [(.ref b2), (.ref fo)]))
  obtain ⟨T3, h3, X3, e3, W3, st3⟩ := putF X2 hx hZ hown (host := "") (Or.inl (hw _ (List.mem_of_getElem? (i := 15) rfl))) Via.refl e2 F_starts_2 E_fo_2 (Or.inl (hw _ (List.mem_of_getElem? (i := 16) rfl))) (hw _ (List.mem_of_getElem? (i := 7) rfl)) (ty := (.array .int)) (by decide) rfl rfl (g := (mkF m 8 #[rv fo, iv (3 : Int32), iv (3 : Int32)] [(.ref b2), (.ref fo)])) rfl rfl (hb hby d2_8)
  have E_fo_3 := E_fo_2.wr W3
  have F_back_3 := F_back_2.other W3 (Or.inr (slot_ne (Or.inr (hw _ (List.mem_of_getElem? (i := 18) rfl))) (Or.inl (hw _ (List.mem_of_getElem? (i := 16) rfl))) (by decide) (t := (.array .int)) (t' := (.array .int)) (by decide) (by decide)))
  have F_keys_3 := F_keys_2.other W3 (Or.inr (slot_ne (Or.inr (hw _ (List.mem_of_getElem? (i := 21) rfl))) (Or.inl (hw _ (List.mem_of_getElem? (i := 16) rfl))) (by decide) (t := (.array .long)) (t' := (.array .int)) (by decide) (by decide)))
  have F_retaken_3 := F_retaken_2.other W3 (Or.inr (slot_ne (Or.inr (hw _ (List.mem_of_getElem? (i := 23) rfl))) (Or.inl (hw _ (List.mem_of_getElem? (i := 16) rfl))) (by decide) (t := (.array .long)) (t' := (.array .int)) (by decide) (by decide)))
  have F_positions_3 := F_positions_2.other W3 (Or.inr (slot_ne (Or.inl (hw _ (List.mem_of_getElem? (i := 25) rfl))) (Or.inl (hw _ (List.mem_of_getElem? (i := 16) rfl))) (by decide) (t := (.array .int)) (t' := (.array .int)) (by decide) (by decide)))
  have F_offeredFrom_3 := F_offeredFrom_2.other W3 (Or.inr (slot_ne (Or.inl (hw _ (List.mem_of_getElem? (i := 27) rfl))) (Or.inl (hw _ (List.mem_of_getElem? (i := 16) rfl))) (by decide) (t := (.array .int)) (t' := (.array .int)) (by decide) (by decide)))
  have F_starts_3 := F_starts_2.same W3
  have F_size_3 := F_size_2.other W3 (Or.inr (slot_ne (Or.inl (hw _ (List.mem_of_getElem? (i := 34) rfl))) (Or.inl (hw _ (List.mem_of_getElem? (i := 16) rfl))) (by decide) (t := .int) (t' := (.array .int)) (by decide) (by decide)))
  have F_sorted_3 := F_sorted_2.other W3 (Or.inr (slot_ne (Or.inl (hw _ (List.mem_of_getElem? (i := 43) rfl))) (Or.inl (hw _ (List.mem_of_getElem? (i := 16) rfl))) (by decide) (t := .int) (t' := (.array .int)) (by decide) (by decide)))
  have F_nextKey_3 := F_nextKey_2.other W3 (Or.inr (slot_ne (Or.inl (hw _ (List.mem_of_getElem? (i := 45) rfl))) (Or.inl (hw _ (List.mem_of_getElem? (i := 16) rfl))) (by decide) (t := .int) (t' := (.array .int)) (by decide) (by decide)))
  have F_retakenAt_3 := F_retakenAt_2.other W3 (Or.inr (slot_ne (Or.inl (hw _ (List.mem_of_getElem? (i := 47) rfl))) (Or.inl (hw _ (List.mem_of_getElem? (i := 16) rfl))) (by decide) (t := .int) (t' := (.array .int)) (by decide) (by decide)))
  have F_retakenEnd_3 := F_retakenEnd_2.other W3 (Or.inr (slot_ne (Or.inl (hw _ (List.mem_of_getElem? (i := 49) rfl))) (Or.inl (hw _ (List.mem_of_getElem? (i := 16) rfl))) (by decide) (t := .int) (t' := (.array .int)) (by decide) (by decide)))
  have V_b2_3 := V_b2.other W3 (Ne.symm ne_fo_b2)
  have Z3 : n0 ≤ h3.size := Nat.le_trans Z2 (Keep.of_wr W3).1
  have K3 : Keep h0 h3 [fo] := K2.wr W3 (Or.inl (List.mem_of_getElem? (i := 0) rfl))
  have N3 := Fr.snoc X3 N0 g_fo
  refine own_go st3 ?_
  show OwnFin p e below s _ _ _ (T3.setTop (mkF m 11 #[rv fo, iv (3 : Int32), iv (3 : Int32)] []))
  refine own_go (fun t_ k_ => XS.aloadN X3.here hx rfl (hb hby d2_11) rfl rfl k_) ?_
  show OwnFin p e below s _ _ _ (T3.setTop (mkF m 12 #[rv fo, iv (3 : Int32), iv (3 : Int32)] [(.ref fo)]))
  refine own_go (fun t_ k_ => XS.iloadN X3.here hx rfl (hb hby d2_12) rfl k_) ?_
  show OwnFin p e below s _ _ _ (T3.setTop (mkF m 13 #[rv fo, iv (3 : Int32), iv (3 : Int32)] [(.int (3 : Int32)), (.ref fo)]))
  obtain ⟨T4, h4, X4, e4, E4, A4, st4⟩ := own_newarr X3 hx hZ (hw _ (List.mem_of_getElem? (i := 0) rfl)) e3 (g := (mkF m 13 #[rv fo, iv (3 : Int32), iv (3 : Int32)] [(.int (3 : Int32)), (.ref fo)])) rfl (hb hby d2_13) rfl (n := 3) (cap := 3) (by decide) (by decide) (by decide) (by decide) (by decide)
  obtain ⟨b4, g4⟩ : ∃ z, z = h3.size := ⟨_, rfl⟩
  rw [← g4] at A4 st4
  have g_b4 : n0 ≤ b4 := Nat.le_trans Z3 (Nat.le_of_eq g4.symm)
  have sz_b4 : h0.size ≤ b4 := Nat.le_trans K3.1 (Nat.le_of_eq g4.symm)
  have ne_fo_b4 : fo ≠ b4 := Nat.ne_of_lt (Nat.lt_of_lt_of_le E_fo_3.lt (Nat.le_of_eq g4.symm))
  have ne_b2_b4 : b2 ≠ b4 := Nat.ne_of_lt (Nat.lt_of_lt_of_le V_b2_3.lt (Nat.le_of_eq g4.symm))
  have E_fo_4 := E_fo_3.ext E4
  have F_back_4 := F_back_3.ext E4
  have F_keys_4 := F_keys_3.ext E4
  have F_retaken_4 := F_retaken_3.ext E4
  have F_positions_4 := F_positions_3.ext E4
  have F_offeredFrom_4 := F_offeredFrom_3.ext E4
  have F_starts_4 := F_starts_3.ext E4
  have F_size_4 := F_size_3.ext E4
  have F_sorted_4 := F_sorted_3.ext E4
  have F_nextKey_4 := F_nextKey_3.ext E4
  have F_retakenAt_4 := F_retakenAt_3.ext E4
  have F_retakenEnd_4 := F_retakenEnd_3.ext E4
  have V_b2_4 := V_b2_3.ext E4
  have Z4 : n0 ≤ h4.size := Nat.le_trans Z3 E4.1
  have K4 : Keep h0 h4 [fo] := K3.ext E4
  have V_b4 : OwnArr Z h4 b4 .int 3 (fun _ => (.int (0 : Int32))) := A4
  refine own_go st4 ?_
  show OwnFin p e below s _ _ _ (T4.setTop (mkF m 15 #[rv fo, iv (3 : Int32), iv (3 : Int32)] [(.ref b4), (.ref fo)]))
  obtain ⟨T5, h5, X5, e5, W5, st5⟩ := putF X4 hx hZ hown (host := "") (Or.inl (hw _ (List.mem_of_getElem? (i := 17) rfl))) Via.refl e4 F_back_4 E_fo_4 (Or.inr ⟨(hw _ (List.mem_of_getElem? (i := 18) rfl)), rfl, hnm⟩) (hw _ (List.mem_of_getElem? (i := 7) rfl)) (ty := (.array .int)) (by decide) rfl rfl (g := (mkF m 15 #[rv fo, iv (3 : Int32), iv (3 : Int32)] [(.ref b4), (.ref fo)])) rfl rfl (hb hby d2_15)
  have E_fo_5 := E_fo_4.wr W5
  have F_back_5 := F_back_4.same W5
  have F_keys_5 := F_keys_4.other W5 (Or.inr (slot_ne (Or.inr (hw _ (List.mem_of_getElem? (i := 21) rfl))) (Or.inr (hw _ (List.mem_of_getElem? (i := 18) rfl))) (by decide) (t := (.array .long)) (t' := (.array .int)) (by decide) (by decide)))
  have F_retaken_5 := F_retaken_4.other W5 (Or.inr (slot_ne (Or.inr (hw _ (List.mem_of_getElem? (i := 23) rfl))) (Or.inr (hw _ (List.mem_of_getElem? (i := 18) rfl))) (by decide) (t := (.array .long)) (t' := (.array .int)) (by decide) (by decide)))
  have F_positions_5 := F_positions_4.other W5 (Or.inr (slot_ne (Or.inl (hw _ (List.mem_of_getElem? (i := 25) rfl))) (Or.inr (hw _ (List.mem_of_getElem? (i := 18) rfl))) (by decide) (t := (.array .int)) (t' := (.array .int)) (by decide) (by decide)))
  have F_offeredFrom_5 := F_offeredFrom_4.other W5 (Or.inr (slot_ne (Or.inl (hw _ (List.mem_of_getElem? (i := 27) rfl))) (Or.inr (hw _ (List.mem_of_getElem? (i := 18) rfl))) (by decide) (t := (.array .int)) (t' := (.array .int)) (by decide) (by decide)))
  have F_starts_5 := F_starts_4.other W5 (Or.inr (slot_ne (Or.inl (hw _ (List.mem_of_getElem? (i := 16) rfl))) (Or.inr (hw _ (List.mem_of_getElem? (i := 18) rfl))) (by decide) (t := (.array .int)) (t' := (.array .int)) (by decide) (by decide)))
  have F_size_5 := F_size_4.other W5 (Or.inr (slot_ne (Or.inl (hw _ (List.mem_of_getElem? (i := 34) rfl))) (Or.inr (hw _ (List.mem_of_getElem? (i := 18) rfl))) (by decide) (t := .int) (t' := (.array .int)) (by decide) (by decide)))
  have F_sorted_5 := F_sorted_4.other W5 (Or.inr (slot_ne (Or.inl (hw _ (List.mem_of_getElem? (i := 43) rfl))) (Or.inr (hw _ (List.mem_of_getElem? (i := 18) rfl))) (by decide) (t := .int) (t' := (.array .int)) (by decide) (by decide)))
  have F_nextKey_5 := F_nextKey_4.other W5 (Or.inr (slot_ne (Or.inl (hw _ (List.mem_of_getElem? (i := 45) rfl))) (Or.inr (hw _ (List.mem_of_getElem? (i := 18) rfl))) (by decide) (t := .int) (t' := (.array .int)) (by decide) (by decide)))
  have F_retakenAt_5 := F_retakenAt_4.other W5 (Or.inr (slot_ne (Or.inl (hw _ (List.mem_of_getElem? (i := 47) rfl))) (Or.inr (hw _ (List.mem_of_getElem? (i := 18) rfl))) (by decide) (t := .int) (t' := (.array .int)) (by decide) (by decide)))
  have F_retakenEnd_5 := F_retakenEnd_4.other W5 (Or.inr (slot_ne (Or.inl (hw _ (List.mem_of_getElem? (i := 49) rfl))) (Or.inr (hw _ (List.mem_of_getElem? (i := 18) rfl))) (by decide) (t := .int) (t' := (.array .int)) (by decide) (by decide)))
  have V_b2_5 := V_b2_4.other W5 (Ne.symm ne_fo_b2)
  have V_b4_5 := V_b4.other W5 (Ne.symm ne_fo_b4)
  have Z5 : n0 ≤ h5.size := Nat.le_trans Z4 (Keep.of_wr W5).1
  have K5 : Keep h0 h5 [fo] := K4.wr W5 (Or.inl (List.mem_of_getElem? (i := 0) rfl))
  have N5 := Fr.snoc X5 N3 g_fo
  refine own_go st5 ?_
  show OwnFin p e below s _ _ _ (T5.setTop (mkF m 18 #[rv fo, iv (3 : Int32), iv (3 : Int32)] []))
  refine own_go (fun t_ k_ => XS.aloadN X5.here hx rfl (hb hby d2_18) rfl rfl k_) ?_
  show OwnFin p e below s _ _ _ (T5.setTop (mkF m 19 #[rv fo, iv (3 : Int32), iv (3 : Int32)] [(.ref fo)]))
  refine own_go (fun t_ k_ => XS.iloadN X5.here hx rfl (hb hby d2_19) rfl k_) ?_
  show OwnFin p e below s _ _ _ (T5.setTop (mkF m 20 #[rv fo, iv (3 : Int32), iv (3 : Int32)] [(.int (3 : Int32)), (.ref fo)]))
  obtain ⟨T6, h6, X6, e6, E6, A6, st6⟩ := own_newarr X5 hx hZ (hw _ (List.mem_of_getElem? (i := 19) rfl)) e5 (g := (mkF m 20 #[rv fo, iv (3 : Int32), iv (3 : Int32)] [(.int (3 : Int32)), (.ref fo)])) rfl (hb hby d2_20) rfl (n := 3) (cap := 3) (by decide) (by decide) (by decide) (by decide) (by decide)
  obtain ⟨b6, g6⟩ : ∃ z, z = h5.size := ⟨_, rfl⟩
  rw [← g6] at A6 st6
  have g_b6 : n0 ≤ b6 := Nat.le_trans Z5 (Nat.le_of_eq g6.symm)
  have sz_b6 : h0.size ≤ b6 := Nat.le_trans K5.1 (Nat.le_of_eq g6.symm)
  have ne_fo_b6 : fo ≠ b6 := Nat.ne_of_lt (Nat.lt_of_lt_of_le E_fo_5.lt (Nat.le_of_eq g6.symm))
  have ne_b2_b6 : b2 ≠ b6 := Nat.ne_of_lt (Nat.lt_of_lt_of_le V_b2_5.lt (Nat.le_of_eq g6.symm))
  have ne_b4_b6 : b4 ≠ b6 := Nat.ne_of_lt (Nat.lt_of_lt_of_le V_b4_5.lt (Nat.le_of_eq g6.symm))
  have E_fo_6 := E_fo_5.ext E6
  have F_back_6 := F_back_5.ext E6
  have F_keys_6 := F_keys_5.ext E6
  have F_retaken_6 := F_retaken_5.ext E6
  have F_positions_6 := F_positions_5.ext E6
  have F_offeredFrom_6 := F_offeredFrom_5.ext E6
  have F_starts_6 := F_starts_5.ext E6
  have F_size_6 := F_size_5.ext E6
  have F_sorted_6 := F_sorted_5.ext E6
  have F_nextKey_6 := F_nextKey_5.ext E6
  have F_retakenAt_6 := F_retakenAt_5.ext E6
  have F_retakenEnd_6 := F_retakenEnd_5.ext E6
  have V_b2_6 := V_b2_5.ext E6
  have V_b4_6 := V_b4_5.ext E6
  have Z6 : n0 ≤ h6.size := Nat.le_trans Z5 E6.1
  have K6 : Keep h0 h6 [fo] := K5.ext E6
  have V_b6 : OwnArr Z h6 b6 .long 3 (fun _ => (.long (0 : Int64))) := A6
  refine own_go st6 ?_
  show OwnFin p e below s _ _ _ (T6.setTop (mkF m 22 #[rv fo, iv (3 : Int32), iv (3 : Int32)] [(.ref b6), (.ref fo)]))
  obtain ⟨T7, h7, X7, e7, W7, st7⟩ := putF X6 hx hZ hown (host := "") (Or.inl (hw _ (List.mem_of_getElem? (i := 20) rfl))) Via.refl e6 F_keys_6 E_fo_6 (Or.inr ⟨(hw _ (List.mem_of_getElem? (i := 21) rfl)), rfl, hnm⟩) (hw _ (List.mem_of_getElem? (i := 7) rfl)) (ty := (.array .long)) (by decide) rfl rfl (g := (mkF m 22 #[rv fo, iv (3 : Int32), iv (3 : Int32)] [(.ref b6), (.ref fo)])) rfl rfl (hb hby d2_22)
  have E_fo_7 := E_fo_6.wr W7
  have F_back_7 := F_back_6.other W7 (Or.inr (slot_ne (Or.inr (hw _ (List.mem_of_getElem? (i := 18) rfl))) (Or.inr (hw _ (List.mem_of_getElem? (i := 21) rfl))) (by decide) (t := (.array .int)) (t' := (.array .long)) (by decide) (by decide)))
  have F_keys_7 := F_keys_6.same W7
  have F_retaken_7 := F_retaken_6.other W7 (Or.inr (slot_ne (Or.inr (hw _ (List.mem_of_getElem? (i := 23) rfl))) (Or.inr (hw _ (List.mem_of_getElem? (i := 21) rfl))) (by decide) (t := (.array .long)) (t' := (.array .long)) (by decide) (by decide)))
  have F_positions_7 := F_positions_6.other W7 (Or.inr (slot_ne (Or.inl (hw _ (List.mem_of_getElem? (i := 25) rfl))) (Or.inr (hw _ (List.mem_of_getElem? (i := 21) rfl))) (by decide) (t := (.array .int)) (t' := (.array .long)) (by decide) (by decide)))
  have F_offeredFrom_7 := F_offeredFrom_6.other W7 (Or.inr (slot_ne (Or.inl (hw _ (List.mem_of_getElem? (i := 27) rfl))) (Or.inr (hw _ (List.mem_of_getElem? (i := 21) rfl))) (by decide) (t := (.array .int)) (t' := (.array .long)) (by decide) (by decide)))
  have F_starts_7 := F_starts_6.other W7 (Or.inr (slot_ne (Or.inl (hw _ (List.mem_of_getElem? (i := 16) rfl))) (Or.inr (hw _ (List.mem_of_getElem? (i := 21) rfl))) (by decide) (t := (.array .int)) (t' := (.array .long)) (by decide) (by decide)))
  have F_size_7 := F_size_6.other W7 (Or.inr (slot_ne (Or.inl (hw _ (List.mem_of_getElem? (i := 34) rfl))) (Or.inr (hw _ (List.mem_of_getElem? (i := 21) rfl))) (by decide) (t := .int) (t' := (.array .long)) (by decide) (by decide)))
  have F_sorted_7 := F_sorted_6.other W7 (Or.inr (slot_ne (Or.inl (hw _ (List.mem_of_getElem? (i := 43) rfl))) (Or.inr (hw _ (List.mem_of_getElem? (i := 21) rfl))) (by decide) (t := .int) (t' := (.array .long)) (by decide) (by decide)))
  have F_nextKey_7 := F_nextKey_6.other W7 (Or.inr (slot_ne (Or.inl (hw _ (List.mem_of_getElem? (i := 45) rfl))) (Or.inr (hw _ (List.mem_of_getElem? (i := 21) rfl))) (by decide) (t := .int) (t' := (.array .long)) (by decide) (by decide)))
  have F_retakenAt_7 := F_retakenAt_6.other W7 (Or.inr (slot_ne (Or.inl (hw _ (List.mem_of_getElem? (i := 47) rfl))) (Or.inr (hw _ (List.mem_of_getElem? (i := 21) rfl))) (by decide) (t := .int) (t' := (.array .long)) (by decide) (by decide)))
  have F_retakenEnd_7 := F_retakenEnd_6.other W7 (Or.inr (slot_ne (Or.inl (hw _ (List.mem_of_getElem? (i := 49) rfl))) (Or.inr (hw _ (List.mem_of_getElem? (i := 21) rfl))) (by decide) (t := .int) (t' := (.array .long)) (by decide) (by decide)))
  have V_b2_7 := V_b2_6.other W7 (Ne.symm ne_fo_b2)
  have V_b4_7 := V_b4_6.other W7 (Ne.symm ne_fo_b4)
  have V_b6_7 := V_b6.other W7 (Ne.symm ne_fo_b6)
  have Z7 : n0 ≤ h7.size := Nat.le_trans Z6 (Keep.of_wr W7).1
  have K7 : Keep h0 h7 [fo] := K6.wr W7 (Or.inl (List.mem_of_getElem? (i := 0) rfl))
  have N7 := Fr.snoc X7 N5 g_fo
  refine own_go st7 ?_
  show OwnFin p e below s _ _ _ (T7.setTop (mkF m 25 #[rv fo, iv (3 : Int32), iv (3 : Int32)] []))
  refine own_go (fun t_ k_ => XS.aloadN X7.here hx rfl (hb hby d2_25) rfl rfl k_) ?_
  show OwnFin p e below s _ _ _ (T7.setTop (mkF m 26 #[rv fo, iv (3 : Int32), iv (3 : Int32)] [(.ref fo)]))
  refine own_go (fun t_ k_ => XS.iloadN X7.here hx rfl (hb hby d2_26) rfl k_) ?_
  show OwnFin p e below s _ _ _ (T7.setTop (mkF m 27 #[rv fo, iv (3 : Int32), iv (3 : Int32)] [(.int (3 : Int32)), (.ref fo)]))
  obtain ⟨T8, h8, X8, e8, E8, A8, st8⟩ := own_newarr X7 hx hZ (hw _ (List.mem_of_getElem? (i := 19) rfl)) e7 (g := (mkF m 27 #[rv fo, iv (3 : Int32), iv (3 : Int32)] [(.int (3 : Int32)), (.ref fo)])) rfl (hb hby d2_27) rfl (n := 3) (cap := 3) (by decide) (by decide) (by decide) (by decide) (by decide)
  obtain ⟨b8, g8⟩ : ∃ z, z = h7.size := ⟨_, rfl⟩
  rw [← g8] at A8 st8
  have g_b8 : n0 ≤ b8 := Nat.le_trans Z7 (Nat.le_of_eq g8.symm)
  have sz_b8 : h0.size ≤ b8 := Nat.le_trans K7.1 (Nat.le_of_eq g8.symm)
  have ne_fo_b8 : fo ≠ b8 := Nat.ne_of_lt (Nat.lt_of_lt_of_le E_fo_7.lt (Nat.le_of_eq g8.symm))
  have ne_b2_b8 : b2 ≠ b8 := Nat.ne_of_lt (Nat.lt_of_lt_of_le V_b2_7.lt (Nat.le_of_eq g8.symm))
  have ne_b4_b8 : b4 ≠ b8 := Nat.ne_of_lt (Nat.lt_of_lt_of_le V_b4_7.lt (Nat.le_of_eq g8.symm))
  have ne_b6_b8 : b6 ≠ b8 := Nat.ne_of_lt (Nat.lt_of_lt_of_le V_b6_7.lt (Nat.le_of_eq g8.symm))
  have E_fo_8 := E_fo_7.ext E8
  have F_back_8 := F_back_7.ext E8
  have F_keys_8 := F_keys_7.ext E8
  have F_retaken_8 := F_retaken_7.ext E8
  have F_positions_8 := F_positions_7.ext E8
  have F_offeredFrom_8 := F_offeredFrom_7.ext E8
  have F_starts_8 := F_starts_7.ext E8
  have F_size_8 := F_size_7.ext E8
  have F_sorted_8 := F_sorted_7.ext E8
  have F_nextKey_8 := F_nextKey_7.ext E8
  have F_retakenAt_8 := F_retakenAt_7.ext E8
  have F_retakenEnd_8 := F_retakenEnd_7.ext E8
  have V_b2_8 := V_b2_7.ext E8
  have V_b4_8 := V_b4_7.ext E8
  have V_b6_8 := V_b6_7.ext E8
  have Z8 : n0 ≤ h8.size := Nat.le_trans Z7 E8.1
  have K8 : Keep h0 h8 [fo] := K7.ext E8
  have V_b8 : OwnArr Z h8 b8 .long 3 (fun _ => (.long (0 : Int64))) := A8
  refine own_go st8 ?_
  show OwnFin p e below s _ _ _ (T8.setTop (mkF m 29 #[rv fo, iv (3 : Int32), iv (3 : Int32)] [(.ref b8), (.ref fo)]))
  obtain ⟨T9, h9, X9, e9, W9, st9⟩ := putF X8 hx hZ hown (host := "") (Or.inl (hw _ (List.mem_of_getElem? (i := 22) rfl))) Via.refl e8 F_retaken_8 E_fo_8 (Or.inr ⟨(hw _ (List.mem_of_getElem? (i := 23) rfl)), rfl, hnm⟩) (hw _ (List.mem_of_getElem? (i := 7) rfl)) (ty := (.array .long)) (by decide) rfl rfl (g := (mkF m 29 #[rv fo, iv (3 : Int32), iv (3 : Int32)] [(.ref b8), (.ref fo)])) rfl rfl (hb hby d2_29)
  have E_fo_9 := E_fo_8.wr W9
  have F_back_9 := F_back_8.other W9 (Or.inr (slot_ne (Or.inr (hw _ (List.mem_of_getElem? (i := 18) rfl))) (Or.inr (hw _ (List.mem_of_getElem? (i := 23) rfl))) (by decide) (t := (.array .int)) (t' := (.array .long)) (by decide) (by decide)))
  have F_keys_9 := F_keys_8.other W9 (Or.inr (slot_ne (Or.inr (hw _ (List.mem_of_getElem? (i := 21) rfl))) (Or.inr (hw _ (List.mem_of_getElem? (i := 23) rfl))) (by decide) (t := (.array .long)) (t' := (.array .long)) (by decide) (by decide)))
  have F_retaken_9 := F_retaken_8.same W9
  have F_positions_9 := F_positions_8.other W9 (Or.inr (slot_ne (Or.inl (hw _ (List.mem_of_getElem? (i := 25) rfl))) (Or.inr (hw _ (List.mem_of_getElem? (i := 23) rfl))) (by decide) (t := (.array .int)) (t' := (.array .long)) (by decide) (by decide)))
  have F_offeredFrom_9 := F_offeredFrom_8.other W9 (Or.inr (slot_ne (Or.inl (hw _ (List.mem_of_getElem? (i := 27) rfl))) (Or.inr (hw _ (List.mem_of_getElem? (i := 23) rfl))) (by decide) (t := (.array .int)) (t' := (.array .long)) (by decide) (by decide)))
  have F_starts_9 := F_starts_8.other W9 (Or.inr (slot_ne (Or.inl (hw _ (List.mem_of_getElem? (i := 16) rfl))) (Or.inr (hw _ (List.mem_of_getElem? (i := 23) rfl))) (by decide) (t := (.array .int)) (t' := (.array .long)) (by decide) (by decide)))
  have F_size_9 := F_size_8.other W9 (Or.inr (slot_ne (Or.inl (hw _ (List.mem_of_getElem? (i := 34) rfl))) (Or.inr (hw _ (List.mem_of_getElem? (i := 23) rfl))) (by decide) (t := .int) (t' := (.array .long)) (by decide) (by decide)))
  have F_sorted_9 := F_sorted_8.other W9 (Or.inr (slot_ne (Or.inl (hw _ (List.mem_of_getElem? (i := 43) rfl))) (Or.inr (hw _ (List.mem_of_getElem? (i := 23) rfl))) (by decide) (t := .int) (t' := (.array .long)) (by decide) (by decide)))
  have F_nextKey_9 := F_nextKey_8.other W9 (Or.inr (slot_ne (Or.inl (hw _ (List.mem_of_getElem? (i := 45) rfl))) (Or.inr (hw _ (List.mem_of_getElem? (i := 23) rfl))) (by decide) (t := .int) (t' := (.array .long)) (by decide) (by decide)))
  have F_retakenAt_9 := F_retakenAt_8.other W9 (Or.inr (slot_ne (Or.inl (hw _ (List.mem_of_getElem? (i := 47) rfl))) (Or.inr (hw _ (List.mem_of_getElem? (i := 23) rfl))) (by decide) (t := .int) (t' := (.array .long)) (by decide) (by decide)))
  have F_retakenEnd_9 := F_retakenEnd_8.other W9 (Or.inr (slot_ne (Or.inl (hw _ (List.mem_of_getElem? (i := 49) rfl))) (Or.inr (hw _ (List.mem_of_getElem? (i := 23) rfl))) (by decide) (t := .int) (t' := (.array .long)) (by decide) (by decide)))
  have V_b2_9 := V_b2_8.other W9 (Ne.symm ne_fo_b2)
  have V_b4_9 := V_b4_8.other W9 (Ne.symm ne_fo_b4)
  have V_b6_9 := V_b6_8.other W9 (Ne.symm ne_fo_b6)
  have V_b8_9 := V_b8.other W9 (Ne.symm ne_fo_b8)
  have Z9 : n0 ≤ h9.size := Nat.le_trans Z8 (Keep.of_wr W9).1
  have K9 : Keep h0 h9 [fo] := K8.wr W9 (Or.inl (List.mem_of_getElem? (i := 0) rfl))
  have N9 := Fr.snoc X9 N7 g_fo
  refine own_go st9 ?_
  show OwnFin p e below s _ _ _ (T9.setTop (mkF m 32 #[rv fo, iv (3 : Int32), iv (3 : Int32)] []))
  refine own_go (fun t_ k_ => XS.aloadN X9.here hx rfl (hb hby d2_32) rfl rfl k_) ?_
  show OwnFin p e below s _ _ _ (T9.setTop (mkF m 33 #[rv fo, iv (3 : Int32), iv (3 : Int32)] [(.ref fo)]))
  refine own_go (fun t_ k_ => XS.iloadN X9.here hx rfl (hb hby d2_33) rfl k_) ?_
  show OwnFin p e below s _ _ _ (T9.setTop (mkF m 34 #[rv fo, iv (3 : Int32), iv (3 : Int32)] [(.int (3 : Int32)), (.ref fo)]))
  obtain ⟨T10, h10, X10, e10, E10, A10, st10⟩ := own_newarr X9 hx hZ (hw _ (List.mem_of_getElem? (i := 0) rfl)) e9 (g := (mkF m 34 #[rv fo, iv (3 : Int32), iv (3 : Int32)] [(.int (3 : Int32)), (.ref fo)])) rfl (hb hby d2_34) rfl (n := 3) (cap := 3) (by decide) (by decide) (by decide) (by decide) (by decide)
  obtain ⟨b10, g10⟩ : ∃ z, z = h9.size := ⟨_, rfl⟩
  rw [← g10] at A10 st10
  have g_b10 : n0 ≤ b10 := Nat.le_trans Z9 (Nat.le_of_eq g10.symm)
  have sz_b10 : h0.size ≤ b10 := Nat.le_trans K9.1 (Nat.le_of_eq g10.symm)
  have ne_fo_b10 : fo ≠ b10 := Nat.ne_of_lt (Nat.lt_of_lt_of_le E_fo_9.lt (Nat.le_of_eq g10.symm))
  have ne_b2_b10 : b2 ≠ b10 := Nat.ne_of_lt (Nat.lt_of_lt_of_le V_b2_9.lt (Nat.le_of_eq g10.symm))
  have ne_b4_b10 : b4 ≠ b10 := Nat.ne_of_lt (Nat.lt_of_lt_of_le V_b4_9.lt (Nat.le_of_eq g10.symm))
  have ne_b6_b10 : b6 ≠ b10 := Nat.ne_of_lt (Nat.lt_of_lt_of_le V_b6_9.lt (Nat.le_of_eq g10.symm))
  have ne_b8_b10 : b8 ≠ b10 := Nat.ne_of_lt (Nat.lt_of_lt_of_le V_b8_9.lt (Nat.le_of_eq g10.symm))
  have E_fo_10 := E_fo_9.ext E10
  have F_back_10 := F_back_9.ext E10
  have F_keys_10 := F_keys_9.ext E10
  have F_retaken_10 := F_retaken_9.ext E10
  have F_positions_10 := F_positions_9.ext E10
  have F_offeredFrom_10 := F_offeredFrom_9.ext E10
  have F_starts_10 := F_starts_9.ext E10
  have F_size_10 := F_size_9.ext E10
  have F_sorted_10 := F_sorted_9.ext E10
  have F_nextKey_10 := F_nextKey_9.ext E10
  have F_retakenAt_10 := F_retakenAt_9.ext E10
  have F_retakenEnd_10 := F_retakenEnd_9.ext E10
  have V_b2_10 := V_b2_9.ext E10
  have V_b4_10 := V_b4_9.ext E10
  have V_b6_10 := V_b6_9.ext E10
  have V_b8_10 := V_b8_9.ext E10
  have Z10 : n0 ≤ h10.size := Nat.le_trans Z9 E10.1
  have K10 : Keep h0 h10 [fo] := K9.ext E10
  have V_b10 : OwnArr Z h10 b10 .int 3 (fun _ => (.int (0 : Int32))) := A10
  refine own_go st10 ?_
  show OwnFin p e below s _ _ _ (T10.setTop (mkF m 36 #[rv fo, iv (3 : Int32), iv (3 : Int32)] [(.ref b10), (.ref fo)]))
  obtain ⟨T11, h11, X11, e11, W11, st11⟩ := putF X10 hx hZ hown (host := "") (Or.inl (hw _ (List.mem_of_getElem? (i := 24) rfl))) Via.refl e10 F_positions_10 E_fo_10 (Or.inl (hw _ (List.mem_of_getElem? (i := 25) rfl))) (hw _ (List.mem_of_getElem? (i := 7) rfl)) (ty := (.array .int)) (by decide) rfl rfl (g := (mkF m 36 #[rv fo, iv (3 : Int32), iv (3 : Int32)] [(.ref b10), (.ref fo)])) rfl rfl (hb hby d2_36)
  have E_fo_11 := E_fo_10.wr W11
  have F_back_11 := F_back_10.other W11 (Or.inr (slot_ne (Or.inr (hw _ (List.mem_of_getElem? (i := 18) rfl))) (Or.inl (hw _ (List.mem_of_getElem? (i := 25) rfl))) (by decide) (t := (.array .int)) (t' := (.array .int)) (by decide) (by decide)))
  have F_keys_11 := F_keys_10.other W11 (Or.inr (slot_ne (Or.inr (hw _ (List.mem_of_getElem? (i := 21) rfl))) (Or.inl (hw _ (List.mem_of_getElem? (i := 25) rfl))) (by decide) (t := (.array .long)) (t' := (.array .int)) (by decide) (by decide)))
  have F_retaken_11 := F_retaken_10.other W11 (Or.inr (slot_ne (Or.inr (hw _ (List.mem_of_getElem? (i := 23) rfl))) (Or.inl (hw _ (List.mem_of_getElem? (i := 25) rfl))) (by decide) (t := (.array .long)) (t' := (.array .int)) (by decide) (by decide)))
  have F_positions_11 := F_positions_10.same W11
  have F_offeredFrom_11 := F_offeredFrom_10.other W11 (Or.inr (slot_ne (Or.inl (hw _ (List.mem_of_getElem? (i := 27) rfl))) (Or.inl (hw _ (List.mem_of_getElem? (i := 25) rfl))) (by decide) (t := (.array .int)) (t' := (.array .int)) (by decide) (by decide)))
  have F_starts_11 := F_starts_10.other W11 (Or.inr (slot_ne (Or.inl (hw _ (List.mem_of_getElem? (i := 16) rfl))) (Or.inl (hw _ (List.mem_of_getElem? (i := 25) rfl))) (by decide) (t := (.array .int)) (t' := (.array .int)) (by decide) (by decide)))
  have F_size_11 := F_size_10.other W11 (Or.inr (slot_ne (Or.inl (hw _ (List.mem_of_getElem? (i := 34) rfl))) (Or.inl (hw _ (List.mem_of_getElem? (i := 25) rfl))) (by decide) (t := .int) (t' := (.array .int)) (by decide) (by decide)))
  have F_sorted_11 := F_sorted_10.other W11 (Or.inr (slot_ne (Or.inl (hw _ (List.mem_of_getElem? (i := 43) rfl))) (Or.inl (hw _ (List.mem_of_getElem? (i := 25) rfl))) (by decide) (t := .int) (t' := (.array .int)) (by decide) (by decide)))
  have F_nextKey_11 := F_nextKey_10.other W11 (Or.inr (slot_ne (Or.inl (hw _ (List.mem_of_getElem? (i := 45) rfl))) (Or.inl (hw _ (List.mem_of_getElem? (i := 25) rfl))) (by decide) (t := .int) (t' := (.array .int)) (by decide) (by decide)))
  have F_retakenAt_11 := F_retakenAt_10.other W11 (Or.inr (slot_ne (Or.inl (hw _ (List.mem_of_getElem? (i := 47) rfl))) (Or.inl (hw _ (List.mem_of_getElem? (i := 25) rfl))) (by decide) (t := .int) (t' := (.array .int)) (by decide) (by decide)))
  have F_retakenEnd_11 := F_retakenEnd_10.other W11 (Or.inr (slot_ne (Or.inl (hw _ (List.mem_of_getElem? (i := 49) rfl))) (Or.inl (hw _ (List.mem_of_getElem? (i := 25) rfl))) (by decide) (t := .int) (t' := (.array .int)) (by decide) (by decide)))
  have V_b2_11 := V_b2_10.other W11 (Ne.symm ne_fo_b2)
  have V_b4_11 := V_b4_10.other W11 (Ne.symm ne_fo_b4)
  have V_b6_11 := V_b6_10.other W11 (Ne.symm ne_fo_b6)
  have V_b8_11 := V_b8_10.other W11 (Ne.symm ne_fo_b8)
  have V_b10_11 := V_b10.other W11 (Ne.symm ne_fo_b10)
  have Z11 : n0 ≤ h11.size := Nat.le_trans Z10 (Keep.of_wr W11).1
  have K11 : Keep h0 h11 [fo] := K10.wr W11 (Or.inl (List.mem_of_getElem? (i := 0) rfl))
  have N11 := Fr.snoc X11 N9 g_fo
  refine own_go st11 ?_
  show OwnFin p e below s _ _ _ (T11.setTop (mkF m 39 #[rv fo, iv (3 : Int32), iv (3 : Int32)] []))
  refine own_go (fun t_ k_ => XS.aloadN X11.here hx rfl (hb hby d2_39) rfl rfl k_) ?_
  show OwnFin p e below s _ _ _ (T11.setTop (mkF m 40 #[rv fo, iv (3 : Int32), iv (3 : Int32)] [(.ref fo)]))
  refine own_go (fun t_ k_ => XS.iloadN X11.here hx rfl (hb hby d2_40) rfl k_) ?_
  show OwnFin p e below s _ _ _ (T11.setTop (mkF m 41 #[rv fo, iv (3 : Int32), iv (3 : Int32)] [(.int (3 : Int32)), (.ref fo)]))
  obtain ⟨T12, h12, X12, e12, E12, A12, st12⟩ := own_newarr X11 hx hZ (hw _ (List.mem_of_getElem? (i := 0) rfl)) e11 (g := (mkF m 41 #[rv fo, iv (3 : Int32), iv (3 : Int32)] [(.int (3 : Int32)), (.ref fo)])) rfl (hb hby d2_41) rfl (n := 3) (cap := 3) (by decide) (by decide) (by decide) (by decide) (by decide)
  obtain ⟨b12, g12⟩ : ∃ z, z = h11.size := ⟨_, rfl⟩
  rw [← g12] at A12 st12
  have g_b12 : n0 ≤ b12 := Nat.le_trans Z11 (Nat.le_of_eq g12.symm)
  have sz_b12 : h0.size ≤ b12 := Nat.le_trans K11.1 (Nat.le_of_eq g12.symm)
  have ne_fo_b12 : fo ≠ b12 := Nat.ne_of_lt (Nat.lt_of_lt_of_le E_fo_11.lt (Nat.le_of_eq g12.symm))
  have ne_b2_b12 : b2 ≠ b12 := Nat.ne_of_lt (Nat.lt_of_lt_of_le V_b2_11.lt (Nat.le_of_eq g12.symm))
  have ne_b4_b12 : b4 ≠ b12 := Nat.ne_of_lt (Nat.lt_of_lt_of_le V_b4_11.lt (Nat.le_of_eq g12.symm))
  have ne_b6_b12 : b6 ≠ b12 := Nat.ne_of_lt (Nat.lt_of_lt_of_le V_b6_11.lt (Nat.le_of_eq g12.symm))
  have ne_b8_b12 : b8 ≠ b12 := Nat.ne_of_lt (Nat.lt_of_lt_of_le V_b8_11.lt (Nat.le_of_eq g12.symm))
  have ne_b10_b12 : b10 ≠ b12 := Nat.ne_of_lt (Nat.lt_of_lt_of_le V_b10_11.lt (Nat.le_of_eq g12.symm))
  have E_fo_12 := E_fo_11.ext E12
  have F_back_12 := F_back_11.ext E12
  have F_keys_12 := F_keys_11.ext E12
  have F_retaken_12 := F_retaken_11.ext E12
  have F_positions_12 := F_positions_11.ext E12
  have F_offeredFrom_12 := F_offeredFrom_11.ext E12
  have F_starts_12 := F_starts_11.ext E12
  have F_size_12 := F_size_11.ext E12
  have F_sorted_12 := F_sorted_11.ext E12
  have F_nextKey_12 := F_nextKey_11.ext E12
  have F_retakenAt_12 := F_retakenAt_11.ext E12
  have F_retakenEnd_12 := F_retakenEnd_11.ext E12
  have V_b2_12 := V_b2_11.ext E12
  have V_b4_12 := V_b4_11.ext E12
  have V_b6_12 := V_b6_11.ext E12
  have V_b8_12 := V_b8_11.ext E12
  have V_b10_12 := V_b10_11.ext E12
  have Z12 : n0 ≤ h12.size := Nat.le_trans Z11 E12.1
  have K12 : Keep h0 h12 [fo] := K11.ext E12
  have V_b12 : OwnArr Z h12 b12 .int 3 (fun _ => (.int (0 : Int32))) := A12
  refine own_go st12 ?_
  show OwnFin p e below s _ _ _ (T12.setTop (mkF m 43 #[rv fo, iv (3 : Int32), iv (3 : Int32)] [(.ref b12), (.ref fo)]))
  obtain ⟨T13, h13, X13, e13, W13, st13⟩ := putF X12 hx hZ hown (host := "") (Or.inl (hw _ (List.mem_of_getElem? (i := 26) rfl))) Via.refl e12 F_offeredFrom_12 E_fo_12 (Or.inl (hw _ (List.mem_of_getElem? (i := 27) rfl))) (hw _ (List.mem_of_getElem? (i := 7) rfl)) (ty := (.array .int)) (by decide) rfl rfl (g := (mkF m 43 #[rv fo, iv (3 : Int32), iv (3 : Int32)] [(.ref b12), (.ref fo)])) rfl rfl (hb hby d2_43)
  have E_fo_13 := E_fo_12.wr W13
  have F_back_13 := F_back_12.other W13 (Or.inr (slot_ne (Or.inr (hw _ (List.mem_of_getElem? (i := 18) rfl))) (Or.inl (hw _ (List.mem_of_getElem? (i := 27) rfl))) (by decide) (t := (.array .int)) (t' := (.array .int)) (by decide) (by decide)))
  have F_keys_13 := F_keys_12.other W13 (Or.inr (slot_ne (Or.inr (hw _ (List.mem_of_getElem? (i := 21) rfl))) (Or.inl (hw _ (List.mem_of_getElem? (i := 27) rfl))) (by decide) (t := (.array .long)) (t' := (.array .int)) (by decide) (by decide)))
  have F_retaken_13 := F_retaken_12.other W13 (Or.inr (slot_ne (Or.inr (hw _ (List.mem_of_getElem? (i := 23) rfl))) (Or.inl (hw _ (List.mem_of_getElem? (i := 27) rfl))) (by decide) (t := (.array .long)) (t' := (.array .int)) (by decide) (by decide)))
  have F_positions_13 := F_positions_12.other W13 (Or.inr (slot_ne (Or.inl (hw _ (List.mem_of_getElem? (i := 25) rfl))) (Or.inl (hw _ (List.mem_of_getElem? (i := 27) rfl))) (by decide) (t := (.array .int)) (t' := (.array .int)) (by decide) (by decide)))
  have F_offeredFrom_13 := F_offeredFrom_12.same W13
  have F_starts_13 := F_starts_12.other W13 (Or.inr (slot_ne (Or.inl (hw _ (List.mem_of_getElem? (i := 16) rfl))) (Or.inl (hw _ (List.mem_of_getElem? (i := 27) rfl))) (by decide) (t := (.array .int)) (t' := (.array .int)) (by decide) (by decide)))
  have F_size_13 := F_size_12.other W13 (Or.inr (slot_ne (Or.inl (hw _ (List.mem_of_getElem? (i := 34) rfl))) (Or.inl (hw _ (List.mem_of_getElem? (i := 27) rfl))) (by decide) (t := .int) (t' := (.array .int)) (by decide) (by decide)))
  have F_sorted_13 := F_sorted_12.other W13 (Or.inr (slot_ne (Or.inl (hw _ (List.mem_of_getElem? (i := 43) rfl))) (Or.inl (hw _ (List.mem_of_getElem? (i := 27) rfl))) (by decide) (t := .int) (t' := (.array .int)) (by decide) (by decide)))
  have F_nextKey_13 := F_nextKey_12.other W13 (Or.inr (slot_ne (Or.inl (hw _ (List.mem_of_getElem? (i := 45) rfl))) (Or.inl (hw _ (List.mem_of_getElem? (i := 27) rfl))) (by decide) (t := .int) (t' := (.array .int)) (by decide) (by decide)))
  have F_retakenAt_13 := F_retakenAt_12.other W13 (Or.inr (slot_ne (Or.inl (hw _ (List.mem_of_getElem? (i := 47) rfl))) (Or.inl (hw _ (List.mem_of_getElem? (i := 27) rfl))) (by decide) (t := .int) (t' := (.array .int)) (by decide) (by decide)))
  have F_retakenEnd_13 := F_retakenEnd_12.other W13 (Or.inr (slot_ne (Or.inl (hw _ (List.mem_of_getElem? (i := 49) rfl))) (Or.inl (hw _ (List.mem_of_getElem? (i := 27) rfl))) (by decide) (t := .int) (t' := (.array .int)) (by decide) (by decide)))
  have V_b2_13 := V_b2_12.other W13 (Ne.symm ne_fo_b2)
  have V_b4_13 := V_b4_12.other W13 (Ne.symm ne_fo_b4)
  have V_b6_13 := V_b6_12.other W13 (Ne.symm ne_fo_b6)
  have V_b8_13 := V_b8_12.other W13 (Ne.symm ne_fo_b8)
  have V_b10_13 := V_b10_12.other W13 (Ne.symm ne_fo_b10)
  have V_b12_13 := V_b12.other W13 (Ne.symm ne_fo_b12)
  have Z13 : n0 ≤ h13.size := Nat.le_trans Z12 (Keep.of_wr W13).1
  have K13 : Keep h0 h13 [fo] := K12.wr W13 (Or.inl (List.mem_of_getElem? (i := 0) rfl))
  have N13 := Fr.snoc X13 N11 g_fo
  refine own_go st13 ?_
  show OwnFin p e below s _ _ _ (T13.setTop (mkF m 46 #[rv fo, iv (3 : Int32), iv (3 : Int32)] []))
  refine own_ret X13 (v := none) hlk (fun _ => rfl) (fun fs hr => X13.returnOut hx hret (hb hby d2_46) hr) (by decide) (by decide) ?_
  rw [e13]
  exact ⟨b4, b6, b8, b10, b12, b2, rfl, N13, K13, E_fo_13, F_back_13, F_keys_13, F_retaken_13, F_positions_13, F_offeredFrom_13, F_starts_13, F_size_13, F_sorted_13, F_nextKey_13, F_retakenAt_13, F_retakenEnd_13, sz_b4, sz_b6, sz_b8, sz_b10, sz_b12, sz_b2, ne_b4_b6, ne_b4_b8, ne_b4_b10, ne_b4_b12, (Ne.symm ne_b2_b4), ne_b6_b8, ne_b6_b10, ne_b6_b12, (Ne.symm ne_b2_b6), ne_b8_b10, ne_b8_b12, (Ne.symm ne_b2_b8), ne_b10_b12, (Ne.symm ne_b2_b10), (Ne.symm ne_b2_b12), V_b4_13, V_b6_13, V_b8_13, V_b10_13, V_b12_13, V_b2_13⟩
theorem pn_0 : plainFor (⟨"com/example/nearside/nearside/slotted/delay/FairBackNextPinLaw", "law", "(IIII)Z"⟩ : MethodName) = true := plainFor_of_name (by first | (simp [plainName, overriddenIn]; done) | decide +kernel)
theorem pd_0_0 : parseMethodDescriptor "([I[Z[II)V" = some ⟨[(.array .int), (.array .boolean), (.array .int), .int], none⟩ := by decide +kernel
theorem pd_0_1 : parseMethodDescriptor "(II)V" = some ⟨[.int, .int], none⟩ := by decide +kernel
theorem pd_0_3 : parseMethodDescriptor "([II)V" = some ⟨[(.array .int), .int], none⟩ := by decide +kernel
theorem pd_0_6 : parseMethodDescriptor "()I" = some ⟨[], some .int⟩ := by decide +kernel
theorem pd_0_5 : parseMethodDescriptor "(III)V" = some ⟨[.int, .int, .int], none⟩ := by decide +kernel
theorem pd_0_7 : parseMethodDescriptor "([II)I" = some ⟨[(.array .int), .int], some .int⟩ := by decide +kernel
theorem ef_0 (m : MethodId) (wa : Int32) (wb : Int32) (wc : Int32) (wd : Int32) : entryFrame m #[(.int wa), (.int wb), (.int wc), (.int wd)] maxLocals = mkF m 0 #[iv wa, iv wb, iv wc, iv wd, .unset, .unset, .unset, .unset, .unset, .unset, .unset, .unset, .unset, .unset, .unset, .unset, .unset, .unset, .unset, .unset, .unset, .unset, .unset] [] := by first | (simp [entryFrame, mkF, argsToLocals, Value.category, maxLocals]; done) | rfl
set_option maxRecDepth 65536 in
set_option maxHeartbeats 40000000 in
theorem rm0 (l : Launch) (Z : State) (a0 : Array Value) (hw : ∀ d ∈ tables_1, d.before a0 Z = true) (ws : List Jvm.Cond) (wa : Int32) (wb : Int32) (wc : Int32) (wd : Int32) (h0 : Heap) (n0 : Nat) (Z0 : n0 ≤ h0.size) :
    OwnCtr l Z x ws code maxLocals ret room_1 #[(.int wa), (.int wb), (.int wc), (.int wd)] h0 (fun v h L => v = some (.int 1) ∧ Fr n0 L) := by
  refine own_body (g0 := fun m => mkF m 0 #[iv wa, iv wb, iv wc, iv wd, .unset, .unset, .unset, .unset, .unset, .unset, .unset, .unset, .unset, .unset, .unset, .unset, .unset, .unset, .unset, .unset, .unset, .unset, .unset] []) pn_0 (fun m => ef_0 m wa wb wc wd) ?_
  intro p e s m below meth c s₁ X0 hx hby hml hown hnm hZ e0 hret hlk
  have hml : c.maxLocals = 23 := hml
  have hown : s.vm.findClass "com/example/nearside/nearside/slotted/delay/FairBackNextPinLaw" = some m.cls := hown
  have hnm : meth.name = "law" := hnm
  have hret : meth.sig.returnType = (some .boolean) := hret
  have N0 := Fr.nil n0
  show OwnFin p e below s _ _ _ (s₁.setTop (mkF m 0 #[iv wa, iv wb, iv wc, iv wd, .unset, .unset, .unset, .unset, .unset, .unset, .unset, .unset, .unset, .unset, .unset, .unset, .unset, .unset, .unset, .unset, .unset, .unset, .unset] []))
  refine own_go (fun t_ k_ => XS.iloadN X0.here hx rfl (hb hby at_0) rfl k_) ?_
  show OwnFin p e below s _ _ _ (s₁.setTop (mkF m 1 #[iv wa, iv wb, iv wc, iv wd, .unset, .unset, .unset, .unset, .unset, .unset, .unset, .unset, .unset, .unset, .unset, .unset, .unset, .unset, .unset, .unset, .unset, .unset, .unset] [(.int wa)]))
  refine own_go (fun t_ k_ => XS.iconst X0.here hx rfl (hb hby at_1) k_) ?_
  show OwnFin p e below s _ _ _ (s₁.setTop (mkF m 2 #[iv wa, iv wb, iv wc, iv wd, .unset, .unset, .unset, .unset, .unset, .unset, .unset, .unset, .unset, .unset, .unset, .unset, .unset, .unset, .unset, .unset, .unset, .unset, .unset] [(.int (3 : Int32)), (.int wa)]))
  refine own_go (fun t_ k_ => XS.iand X0.here hx rfl (hb hby at_2) rfl k_) ?_
  show OwnFin p e below s _ _ _ (s₁.setTop (mkF m 3 #[iv wa, iv wb, iv wc, iv wd, .unset, .unset, .unset, .unset, .unset, .unset, .unset, .unset, .unset, .unset, .unset, .unset, .unset, .unset, .unset, .unset, .unset, .unset, .unset] [(.int (wa &&& (3 : Int32)))]))
  obtain ⟨n, hn4, he_n⟩ : ∃ n, n < 4 ∧ (wa &&& (3 : Int32)) = Int32.ofNat n := own_m3x _
  rw [he_n]
  show OwnFin p e below s _ _ _ (s₁.setTop (mkF m 3 #[iv wa, iv wb, iv wc, iv wd, .unset, .unset, .unset, .unset, .unset, .unset, .unset, .unset, .unset, .unset, .unset, .unset, .unset, .unset, .unset, .unset, .unset, .unset, .unset] [(.int (Int32.ofNat n))]))
  refine own_go (fun t_ k_ => XS.istore X0.here hx rfl (hb hby at_3) rfl (l' := #[iv wa, iv wb, iv wc, iv wd, iv (Int32.ofNat n), .unset, .unset, .unset, .unset, .unset, .unset, .unset, .unset, .unset, .unset, .unset, .unset, .unset, .unset, .unset, .unset, .unset, .unset]) rfl k_) ?_
  show OwnFin p e below s _ _ _ (s₁.setTop (mkF m 5 #[iv wa, iv wb, iv wc, iv wd, iv (Int32.ofNat n), .unset, .unset, .unset, .unset, .unset, .unset, .unset, .unset, .unset, .unset, .unset, .unset, .unset, .unset, .unset, .unset, .unset, .unset] []))
  refine own_go (fun t_ k_ => XS.iload X0.here hx rfl (hb hby at_5) rfl k_) ?_
  show OwnFin p e below s _ _ _ (s₁.setTop (mkF m 7 #[iv wa, iv wb, iv wc, iv wd, iv (Int32.ofNat n), .unset, .unset, .unset, .unset, .unset, .unset, .unset, .unset, .unset, .unset, .unset, .unset, .unset, .unset, .unset, .unset, .unset, .unset] [(.int (Int32.ofNat n))]))
  refine own_go (fun t_ k_ => XS.iconst X0.here hx rfl (hb hby at_7) k_) ?_
  show OwnFin p e below s _ _ _ (s₁.setTop (mkF m 8 #[iv wa, iv wb, iv wc, iv wd, iv (Int32.ofNat n), .unset, .unset, .unset, .unset, .unset, .unset, .unset, .unset, .unset, .unset, .unset, .unset, .unset, .unset, .unset, .unset, .unset, .unset] [(.int (3 : Int32)), (.int (Int32.ofNat n))]))
  have hc8 : ¬ ((3 : Int32) < (Int32.ofNat n)) := by rw [show (3 : Int32) = Int32.ofNat 3 from rfl, own_ltN (by decide) (by omega)]; omega
  refine own_go (fun t_ k_ => XS.icmpYes X0.here hx rfl (pc0 := 8) (pc' := 14) rfl (hb hby at_8) rfl (flt hc8).2.2.2 (by decide) (by decide) k_) ?_
  show OwnFin p e below s _ _ _ (s₁.setTop (mkF m 14 #[iv wa, iv wb, iv wc, iv wd, iv (Int32.ofNat n), .unset, .unset, .unset, .unset, .unset, .unset, .unset, .unset, .unset, .unset, .unset, .unset, .unset, .unset, .unset, .unset, .unset, .unset] []))
  refine own_go (fun t_ k_ => XS.iloadN X0.here hx rfl (hb hby at_14) rfl k_) ?_
  show OwnFin p e below s _ _ _ (s₁.setTop (mkF m 15 #[iv wa, iv wb, iv wc, iv wd, iv (Int32.ofNat n), .unset, .unset, .unset, .unset, .unset, .unset, .unset, .unset, .unset, .unset, .unset, .unset, .unset, .unset, .unset, .unset, .unset, .unset] [(.int wb)]))
  refine own_go (fun t_ k_ => XS.sipush X0.here hx rfl (hb hby at_15) k_) ?_
  show OwnFin p e below s _ _ _ (s₁.setTop (mkF m 18 #[iv wa, iv wb, iv wc, iv wd, iv (Int32.ofNat n), .unset, .unset, .unset, .unset, .unset, .unset, .unset, .unset, .unset, .unset, .unset, .unset, .unset, .unset, .unset, .unset, .unset, .unset] [(.int (255 : Int32)), (.int wb)]))
  refine own_go (fun t_ k_ => XS.iand X0.here hx rfl (hb hby at_18) rfl k_) ?_
  show OwnFin p e below s _ _ _ (s₁.setTop (mkF m 19 #[iv wa, iv wb, iv wc, iv wd, iv (Int32.ofNat n), .unset, .unset, .unset, .unset, .unset, .unset, .unset, .unset, .unset, .unset, .unset, .unset, .unset, .unset, .unset, .unset, .unset, .unset] [(.int (wb &&& (255 : Int32)))]))
  refine own_go (fun t_ k_ => XS.iconst X0.here hx rfl (hb hby at_19) k_) ?_
  show OwnFin p e below s _ _ _ (s₁.setTop (mkF m 20 #[iv wa, iv wb, iv wc, iv wd, iv (Int32.ofNat n), .unset, .unset, .unset, .unset, .unset, .unset, .unset, .unset, .unset, .unset, .unset, .unset, .unset, .unset, .unset, .unset, .unset, .unset] [(.int (3 : Int32)), (.int (wb &&& (255 : Int32)))]))
  refine own_go (fun t_ k_ => Jvm.RoadKit.iremM X0 hx rfl (hb hby at_20) rfl (by decide) k_) ?_
  show OwnFin p e below s _ _ _ (s₁.setTop (mkF m 21 #[iv wa, iv wb, iv wc, iv wd, iv (Int32.ofNat n), .unset, .unset, .unset, .unset, .unset, .unset, .unset, .unset, .unset, .unset, .unset, .unset, .unset, .unset, .unset, .unset, .unset, .unset] [(.int ((wb &&& (255 : Int32)) % (3 : Int32)))]))
  obtain ⟨s0, hl_s0, he_s0⟩ : ∃ n, n < 3 ∧ ((wb &&& (255 : Int32)) % (3 : Int32)) = Int32.ofNat n := own_r3x _
  rw [he_s0]
  show OwnFin p e below s _ _ _ (s₁.setTop (mkF m 21 #[iv wa, iv wb, iv wc, iv wd, iv (Int32.ofNat n), .unset, .unset, .unset, .unset, .unset, .unset, .unset, .unset, .unset, .unset, .unset, .unset, .unset, .unset, .unset, .unset, .unset, .unset] [(.int (Int32.ofNat s0))]))
  refine own_go (fun t_ k_ => XS.istore X0.here hx rfl (hb hby at_21) rfl (l' := #[iv wa, iv wb, iv wc, iv wd, iv (Int32.ofNat n), iv (Int32.ofNat s0), .unset, .unset, .unset, .unset, .unset, .unset, .unset, .unset, .unset, .unset, .unset, .unset, .unset, .unset, .unset, .unset, .unset]) rfl k_) ?_
  show OwnFin p e below s _ _ _ (s₁.setTop (mkF m 23 #[iv wa, iv wb, iv wc, iv wd, iv (Int32.ofNat n), iv (Int32.ofNat s0), .unset, .unset, .unset, .unset, .unset, .unset, .unset, .unset, .unset, .unset, .unset, .unset, .unset, .unset, .unset, .unset, .unset] []))
  refine own_go (fun t_ k_ => XS.iloadN X0.here hx rfl (hb hby at_23) rfl k_) ?_
  show OwnFin p e below s _ _ _ (s₁.setTop (mkF m 24 #[iv wa, iv wb, iv wc, iv wd, iv (Int32.ofNat n), iv (Int32.ofNat s0), .unset, .unset, .unset, .unset, .unset, .unset, .unset, .unset, .unset, .unset, .unset, .unset, .unset, .unset, .unset, .unset, .unset] [(.int wb)]))
  refine own_go (fun t_ k_ => XS.sipush X0.here hx rfl (hb hby at_24) k_) ?_
  show OwnFin p e below s _ _ _ (s₁.setTop (mkF m 27 #[iv wa, iv wb, iv wc, iv wd, iv (Int32.ofNat n), iv (Int32.ofNat s0), .unset, .unset, .unset, .unset, .unset, .unset, .unset, .unset, .unset, .unset, .unset, .unset, .unset, .unset, .unset, .unset, .unset] [(.int (256 : Int32)), (.int wb)]))
  refine own_go (fun t_ k_ => XS.iand X0.here hx rfl (hb hby at_27) rfl k_) ?_
  show OwnFin p e below s _ _ _ (s₁.setTop (mkF m 28 #[iv wa, iv wb, iv wc, iv wd, iv (Int32.ofNat n), iv (Int32.ofNat s0), .unset, .unset, .unset, .unset, .unset, .unset, .unset, .unset, .unset, .unset, .unset, .unset, .unset, .unset, .unset, .unset, .unset] [(.int (wb &&& (256 : Int32)))]))
  refine own_go (B := s₁.setTop (mkF m 36 #[iv wa, iv wb, iv wc, iv wd, iv (Int32.ofNat n), iv (Int32.ofNat s0), .unset, .unset, .unset, .unset, .unset, .unset, .unset, .unset, .unset, .unset, .unset, .unset, .unset, .unset, .unset, .unset, .unset] [(.int (if (wb &&& (256 : Int32)) = (0 : Int32) then (0 : Int32) else (1 : Int32)))])) (fun t_ k_ => ?_) ?_
  · by_cases hm28 : (wb &&& (256 : Int32)) = (0 : Int32)
    · rw [if_pos hm28] at k_; exact XS.ifYes X0.here hx rfl (pc0 := 28) (pc' := 35) rfl (hb hby at_28) rfl ((if0 _ _).trans (teq hm28).1) (by decide) (by decide) (XS.iconst X0.here hx rfl (hb hby at_35) k_)
    · rw [if_neg hm28] at k_; exact XS.ifNo X0.here hx rfl (hb hby at_28) rfl ((if0 _ _).trans (feq hm28).1) (XS.iconst X0.here hx rfl (hb hby at_31) (XS.goto X0.here hx rfl (pc0 := 32) (pc' := 36) rfl (hb hby at_32) (by decide) (by decide) k_))
  show OwnFin p e below s _ _ _ (s₁.setTop (mkF m 36 #[iv wa, iv wb, iv wc, iv wd, iv (Int32.ofNat n), iv (Int32.ofNat s0), .unset, .unset, .unset, .unset, .unset, .unset, .unset, .unset, .unset, .unset, .unset, .unset, .unset, .unset, .unset, .unset, .unset] [(.int (if (wb &&& (256 : Int32)) = (0 : Int32) then (0 : Int32) else (1 : Int32)))]))
  refine own_go (fun t_ k_ => XS.istore X0.here hx rfl (hb hby at_36) rfl (l' := #[iv wa, iv wb, iv wc, iv wd, iv (Int32.ofNat n), iv (Int32.ofNat s0), iv (if (wb &&& (256 : Int32)) = (0 : Int32) then (0 : Int32) else (1 : Int32)), .unset, .unset, .unset, .unset, .unset, .unset, .unset, .unset, .unset, .unset, .unset, .unset, .unset, .unset, .unset, .unset]) rfl k_) ?_
  show OwnFin p e below s _ _ _ (s₁.setTop (mkF m 38 #[iv wa, iv wb, iv wc, iv wd, iv (Int32.ofNat n), iv (Int32.ofNat s0), iv (if (wb &&& (256 : Int32)) = (0 : Int32) then (0 : Int32) else (1 : Int32)), .unset, .unset, .unset, .unset, .unset, .unset, .unset, .unset, .unset, .unset, .unset, .unset, .unset, .unset, .unset, .unset] []))
  refine own_go (fun t_ k_ => XS.iload X0.here hx rfl (hb hby at_38) rfl k_) ?_
  show OwnFin p e below s _ _ _ (s₁.setTop (mkF m 40 #[iv wa, iv wb, iv wc, iv wd, iv (Int32.ofNat n), iv (Int32.ofNat s0), iv (if (wb &&& (256 : Int32)) = (0 : Int32) then (0 : Int32) else (1 : Int32)), .unset, .unset, .unset, .unset, .unset, .unset, .unset, .unset, .unset, .unset, .unset, .unset, .unset, .unset, .unset, .unset] [(.int (if (wb &&& (256 : Int32)) = (0 : Int32) then (0 : Int32) else (1 : Int32)))]))
  refine own_go (B := s₁.setTop (mkF m 48 #[iv wa, iv wb, iv wc, iv wd, iv (Int32.ofNat n), iv (Int32.ofNat s0), iv (if (wb &&& (256 : Int32)) = (0 : Int32) then (0 : Int32) else (1 : Int32)), .unset, .unset, .unset, .unset, .unset, .unset, .unset, .unset, .unset, .unset, .unset, .unset, .unset, .unset, .unset, .unset] [(.int (if (if (wb &&& (256 : Int32)) = (0 : Int32) then (0 : Int32) else (1 : Int32)) = (0 : Int32) then (1 : Int32) else (2 : Int32)))])) (fun t_ k_ => ?_) ?_
  · by_cases hm40 : (if (wb &&& (256 : Int32)) = (0 : Int32) then (0 : Int32) else (1 : Int32)) = (0 : Int32)
    · rw [if_pos hm40] at k_; exact XS.ifYes X0.here hx rfl (pc0 := 40) (pc' := 47) rfl (hb hby at_40) rfl ((if0 _ _).trans (teq hm40).1) (by decide) (by decide) (XS.iconst X0.here hx rfl (hb hby at_47) k_)
    · rw [if_neg hm40] at k_; exact XS.ifNo X0.here hx rfl (hb hby at_40) rfl ((if0 _ _).trans (feq hm40).1) (XS.iconst X0.here hx rfl (hb hby at_43) (XS.goto X0.here hx rfl (pc0 := 44) (pc' := 48) rfl (hb hby at_44) (by decide) (by decide) k_))
  show OwnFin p e below s _ _ _ (s₁.setTop (mkF m 48 #[iv wa, iv wb, iv wc, iv wd, iv (Int32.ofNat n), iv (Int32.ofNat s0), iv (if (wb &&& (256 : Int32)) = (0 : Int32) then (0 : Int32) else (1 : Int32)), .unset, .unset, .unset, .unset, .unset, .unset, .unset, .unset, .unset, .unset, .unset, .unset, .unset, .unset, .unset, .unset] [(.int (if (if (wb &&& (256 : Int32)) = (0 : Int32) then (0 : Int32) else (1 : Int32)) = (0 : Int32) then (1 : Int32) else (2 : Int32)))]))
  obtain ⟨w, hw12, he_w⟩ : ∃ w, (w = 1 ∨ w = 2) ∧ (if (if (wb &&& (256 : Int32)) = (0 : Int32) then (0 : Int32) else (1 : Int32)) = (0 : Int32) then (1 : Int32) else (2 : Int32)) = Int32.ofNat w := own_step _
  rw [he_w]
  show OwnFin p e below s _ _ _ (s₁.setTop (mkF m 48 #[iv wa, iv wb, iv wc, iv wd, iv (Int32.ofNat n), iv (Int32.ofNat s0), iv (if (wb &&& (256 : Int32)) = (0 : Int32) then (0 : Int32) else (1 : Int32)), .unset, .unset, .unset, .unset, .unset, .unset, .unset, .unset, .unset, .unset, .unset, .unset, .unset, .unset, .unset, .unset] [(.int (Int32.ofNat w))]))
  obtain ⟨s1, s2, hperm, he_s1, he_s2⟩ := own_order hl_s0 hw12
  have hl_s1 := (own_perm_lt hperm).2.1
  have hl_s2 := (own_perm_lt hperm).2.2
  generalize h_fl : (if (wb &&& (256 : Int32)) = (0 : Int32) then (0 : Int32) else (1 : Int32)) = fl
  show OwnFin p e below s _ _ _ (s₁.setTop (mkF m 48 #[iv wa, iv wb, iv wc, iv wd, iv (Int32.ofNat n), iv (Int32.ofNat s0), iv fl, .unset, .unset, .unset, .unset, .unset, .unset, .unset, .unset, .unset, .unset, .unset, .unset, .unset, .unset, .unset, .unset] [(.int (Int32.ofNat w))]))
  refine own_go (fun t_ k_ => XS.istore X0.here hx rfl (hb hby at_48) rfl (l' := #[iv wa, iv wb, iv wc, iv wd, iv (Int32.ofNat n), iv (Int32.ofNat s0), iv fl, iv (Int32.ofNat w), .unset, .unset, .unset, .unset, .unset, .unset, .unset, .unset, .unset, .unset, .unset, .unset, .unset, .unset, .unset]) rfl k_) ?_
  show OwnFin p e below s _ _ _ (s₁.setTop (mkF m 50 #[iv wa, iv wb, iv wc, iv wd, iv (Int32.ofNat n), iv (Int32.ofNat s0), iv fl, iv (Int32.ofNat w), .unset, .unset, .unset, .unset, .unset, .unset, .unset, .unset, .unset, .unset, .unset, .unset, .unset, .unset, .unset] []))
  refine own_go (fun t_ k_ => XS.iload X0.here hx rfl (hb hby at_50) rfl k_) ?_
  show OwnFin p e below s _ _ _ (s₁.setTop (mkF m 52 #[iv wa, iv wb, iv wc, iv wd, iv (Int32.ofNat n), iv (Int32.ofNat s0), iv fl, iv (Int32.ofNat w), .unset, .unset, .unset, .unset, .unset, .unset, .unset, .unset, .unset, .unset, .unset, .unset, .unset, .unset, .unset] [(.int (Int32.ofNat s0))]))
  refine own_go (fun t_ k_ => XS.istore X0.here hx rfl (hb hby at_52) rfl (l' := #[iv wa, iv wb, iv wc, iv wd, iv (Int32.ofNat n), iv (Int32.ofNat s0), iv fl, iv (Int32.ofNat w), iv (Int32.ofNat s0), .unset, .unset, .unset, .unset, .unset, .unset, .unset, .unset, .unset, .unset, .unset, .unset, .unset, .unset]) rfl k_) ?_
  show OwnFin p e below s _ _ _ (s₁.setTop (mkF m 54 #[iv wa, iv wb, iv wc, iv wd, iv (Int32.ofNat n), iv (Int32.ofNat s0), iv fl, iv (Int32.ofNat w), iv (Int32.ofNat s0), .unset, .unset, .unset, .unset, .unset, .unset, .unset, .unset, .unset, .unset, .unset, .unset, .unset, .unset] []))
  refine own_go (fun t_ k_ => XS.iload X0.here hx rfl (hb hby at_54) rfl k_) ?_
  show OwnFin p e below s _ _ _ (s₁.setTop (mkF m 56 #[iv wa, iv wb, iv wc, iv wd, iv (Int32.ofNat n), iv (Int32.ofNat s0), iv fl, iv (Int32.ofNat w), iv (Int32.ofNat s0), .unset, .unset, .unset, .unset, .unset, .unset, .unset, .unset, .unset, .unset, .unset, .unset, .unset, .unset] [(.int (Int32.ofNat s0))]))
  refine own_go (fun t_ k_ => XS.iload X0.here hx rfl (hb hby at_56) rfl k_) ?_
  show OwnFin p e below s _ _ _ (s₁.setTop (mkF m 58 #[iv wa, iv wb, iv wc, iv wd, iv (Int32.ofNat n), iv (Int32.ofNat s0), iv fl, iv (Int32.ofNat w), iv (Int32.ofNat s0), .unset, .unset, .unset, .unset, .unset, .unset, .unset, .unset, .unset, .unset, .unset, .unset, .unset, .unset] [(.int (Int32.ofNat w)), (.int (Int32.ofNat s0))]))
  refine own_go (fun t_ k_ => XS.iadd X0.here hx rfl (hb hby at_58) rfl k_) ?_
  show OwnFin p e below s _ _ _ (s₁.setTop (mkF m 59 #[iv wa, iv wb, iv wc, iv wd, iv (Int32.ofNat n), iv (Int32.ofNat s0), iv fl, iv (Int32.ofNat w), iv (Int32.ofNat s0), .unset, .unset, .unset, .unset, .unset, .unset, .unset, .unset, .unset, .unset, .unset, .unset, .unset, .unset] [(.int ((Int32.ofNat s0) + (Int32.ofNat w)))]))
  refine own_go (fun t_ k_ => XS.iconst X0.here hx rfl (hb hby at_59) k_) ?_
  show OwnFin p e below s _ _ _ (s₁.setTop (mkF m 60 #[iv wa, iv wb, iv wc, iv wd, iv (Int32.ofNat n), iv (Int32.ofNat s0), iv fl, iv (Int32.ofNat w), iv (Int32.ofNat s0), .unset, .unset, .unset, .unset, .unset, .unset, .unset, .unset, .unset, .unset, .unset, .unset, .unset, .unset] [(.int (3 : Int32)), (.int ((Int32.ofNat s0) + (Int32.ofNat w)))]))
  refine own_go (fun t_ k_ => Jvm.RoadKit.iremM X0 hx rfl (hb hby at_60) rfl (by decide) k_) ?_
  show OwnFin p e below s _ _ _ (s₁.setTop (mkF m 61 #[iv wa, iv wb, iv wc, iv wd, iv (Int32.ofNat n), iv (Int32.ofNat s0), iv fl, iv (Int32.ofNat w), iv (Int32.ofNat s0), .unset, .unset, .unset, .unset, .unset, .unset, .unset, .unset, .unset, .unset, .unset, .unset, .unset, .unset] [(.int (((Int32.ofNat s0) + (Int32.ofNat w)) % (3 : Int32)))]))
  rw [he_s1]
  show OwnFin p e below s _ _ _ (s₁.setTop (mkF m 61 #[iv wa, iv wb, iv wc, iv wd, iv (Int32.ofNat n), iv (Int32.ofNat s0), iv fl, iv (Int32.ofNat w), iv (Int32.ofNat s0), .unset, .unset, .unset, .unset, .unset, .unset, .unset, .unset, .unset, .unset, .unset, .unset, .unset, .unset] [(.int (Int32.ofNat s1))]))
  refine own_go (fun t_ k_ => XS.istore X0.here hx rfl (hb hby at_61) rfl (l' := #[iv wa, iv wb, iv wc, iv wd, iv (Int32.ofNat n), iv (Int32.ofNat s0), iv fl, iv (Int32.ofNat w), iv (Int32.ofNat s0), iv (Int32.ofNat s1), .unset, .unset, .unset, .unset, .unset, .unset, .unset, .unset, .unset, .unset, .unset, .unset, .unset]) rfl k_) ?_
  show OwnFin p e below s _ _ _ (s₁.setTop (mkF m 63 #[iv wa, iv wb, iv wc, iv wd, iv (Int32.ofNat n), iv (Int32.ofNat s0), iv fl, iv (Int32.ofNat w), iv (Int32.ofNat s0), iv (Int32.ofNat s1), .unset, .unset, .unset, .unset, .unset, .unset, .unset, .unset, .unset, .unset, .unset, .unset, .unset] []))
  refine own_go (fun t_ k_ => XS.iload X0.here hx rfl (hb hby at_63) rfl k_) ?_
  show OwnFin p e below s _ _ _ (s₁.setTop (mkF m 65 #[iv wa, iv wb, iv wc, iv wd, iv (Int32.ofNat n), iv (Int32.ofNat s0), iv fl, iv (Int32.ofNat w), iv (Int32.ofNat s0), iv (Int32.ofNat s1), .unset, .unset, .unset, .unset, .unset, .unset, .unset, .unset, .unset, .unset, .unset, .unset, .unset] [(.int (Int32.ofNat s0))]))
  refine own_go (fun t_ k_ => XS.iconst X0.here hx rfl (hb hby at_65) k_) ?_
  show OwnFin p e below s _ _ _ (s₁.setTop (mkF m 66 #[iv wa, iv wb, iv wc, iv wd, iv (Int32.ofNat n), iv (Int32.ofNat s0), iv fl, iv (Int32.ofNat w), iv (Int32.ofNat s0), iv (Int32.ofNat s1), .unset, .unset, .unset, .unset, .unset, .unset, .unset, .unset, .unset, .unset, .unset, .unset, .unset] [(.int (2 : Int32)), (.int (Int32.ofNat s0))]))
  refine own_go (fun t_ k_ => XS.iload X0.here hx rfl (hb hby at_66) rfl k_) ?_
  show OwnFin p e below s _ _ _ (s₁.setTop (mkF m 68 #[iv wa, iv wb, iv wc, iv wd, iv (Int32.ofNat n), iv (Int32.ofNat s0), iv fl, iv (Int32.ofNat w), iv (Int32.ofNat s0), iv (Int32.ofNat s1), .unset, .unset, .unset, .unset, .unset, .unset, .unset, .unset, .unset, .unset, .unset, .unset, .unset] [(.int (Int32.ofNat w)), (.int (2 : Int32)), (.int (Int32.ofNat s0))]))
  refine own_go (fun t_ k_ => XS.imul X0.here hx rfl (hb hby at_68) rfl k_) ?_
  show OwnFin p e below s _ _ _ (s₁.setTop (mkF m 69 #[iv wa, iv wb, iv wc, iv wd, iv (Int32.ofNat n), iv (Int32.ofNat s0), iv fl, iv (Int32.ofNat w), iv (Int32.ofNat s0), iv (Int32.ofNat s1), .unset, .unset, .unset, .unset, .unset, .unset, .unset, .unset, .unset, .unset, .unset, .unset, .unset] [(.int ((2 : Int32) * (Int32.ofNat w))), (.int (Int32.ofNat s0))]))
  refine own_go (fun t_ k_ => XS.iadd X0.here hx rfl (hb hby at_69) rfl k_) ?_
  show OwnFin p e below s _ _ _ (s₁.setTop (mkF m 70 #[iv wa, iv wb, iv wc, iv wd, iv (Int32.ofNat n), iv (Int32.ofNat s0), iv fl, iv (Int32.ofNat w), iv (Int32.ofNat s0), iv (Int32.ofNat s1), .unset, .unset, .unset, .unset, .unset, .unset, .unset, .unset, .unset, .unset, .unset, .unset, .unset] [(.int ((Int32.ofNat s0) + ((2 : Int32) * (Int32.ofNat w))))]))
  refine own_go (fun t_ k_ => XS.iconst X0.here hx rfl (hb hby at_70) k_) ?_
  show OwnFin p e below s _ _ _ (s₁.setTop (mkF m 71 #[iv wa, iv wb, iv wc, iv wd, iv (Int32.ofNat n), iv (Int32.ofNat s0), iv fl, iv (Int32.ofNat w), iv (Int32.ofNat s0), iv (Int32.ofNat s1), .unset, .unset, .unset, .unset, .unset, .unset, .unset, .unset, .unset, .unset, .unset, .unset, .unset] [(.int (3 : Int32)), (.int ((Int32.ofNat s0) + ((2 : Int32) * (Int32.ofNat w))))]))
  refine own_go (fun t_ k_ => Jvm.RoadKit.iremM X0 hx rfl (hb hby at_71) rfl (by decide) k_) ?_
  show OwnFin p e below s _ _ _ (s₁.setTop (mkF m 72 #[iv wa, iv wb, iv wc, iv wd, iv (Int32.ofNat n), iv (Int32.ofNat s0), iv fl, iv (Int32.ofNat w), iv (Int32.ofNat s0), iv (Int32.ofNat s1), .unset, .unset, .unset, .unset, .unset, .unset, .unset, .unset, .unset, .unset, .unset, .unset, .unset] [(.int (((Int32.ofNat s0) + ((2 : Int32) * (Int32.ofNat w))) % (3 : Int32)))]))
  rw [he_s2]
  show OwnFin p e below s _ _ _ (s₁.setTop (mkF m 72 #[iv wa, iv wb, iv wc, iv wd, iv (Int32.ofNat n), iv (Int32.ofNat s0), iv fl, iv (Int32.ofNat w), iv (Int32.ofNat s0), iv (Int32.ofNat s1), .unset, .unset, .unset, .unset, .unset, .unset, .unset, .unset, .unset, .unset, .unset, .unset, .unset] [(.int (Int32.ofNat s2))]))
  refine own_go (fun t_ k_ => XS.istore X0.here hx rfl (hb hby at_72) rfl (l' := #[iv wa, iv wb, iv wc, iv wd, iv (Int32.ofNat n), iv (Int32.ofNat s0), iv fl, iv (Int32.ofNat w), iv (Int32.ofNat s0), iv (Int32.ofNat s1), iv (Int32.ofNat s2), .unset, .unset, .unset, .unset, .unset, .unset, .unset, .unset, .unset, .unset, .unset, .unset]) rfl k_) ?_
  show OwnFin p e below s _ _ _ (s₁.setTop (mkF m 74 #[iv wa, iv wb, iv wc, iv wd, iv (Int32.ofNat n), iv (Int32.ofNat s0), iv fl, iv (Int32.ofNat w), iv (Int32.ofNat s0), iv (Int32.ofNat s1), iv (Int32.ofNat s2), .unset, .unset, .unset, .unset, .unset, .unset, .unset, .unset, .unset, .unset, .unset, .unset] []))
  refine own_go (fun t_ k_ => XS.iconst X0.here hx rfl (hb hby at_74) k_) ?_
  show OwnFin p e below s _ _ _ (s₁.setTop (mkF m 75 #[iv wa, iv wb, iv wc, iv wd, iv (Int32.ofNat n), iv (Int32.ofNat s0), iv fl, iv (Int32.ofNat w), iv (Int32.ofNat s0), iv (Int32.ofNat s1), iv (Int32.ofNat s2), .unset, .unset, .unset, .unset, .unset, .unset, .unset, .unset, .unset, .unset, .unset, .unset] [(.int (3 : Int32))]))
  obtain ⟨T1, h1, X1, e1, E1, A1, st1⟩ := own_newarr X0 hx hZ (hw _ (List.mem_of_getElem? (i := 0) rfl)) e0 (g := (mkF m 75 #[iv wa, iv wb, iv wc, iv wd, iv (Int32.ofNat n), iv (Int32.ofNat s0), iv fl, iv (Int32.ofNat w), iv (Int32.ofNat s0), iv (Int32.ofNat s1), iv (Int32.ofNat s2), .unset, .unset, .unset, .unset, .unset, .unset, .unset, .unset, .unset, .unset, .unset, .unset] [(.int (3 : Int32))])) rfl (hb hby at_75) rfl (n := 3) (cap := 3) (by decide) (by decide) (by decide) (by decide) (by decide)
  obtain ⟨b1, g1⟩ : ∃ z, z = h0.size := ⟨_, rfl⟩
  rw [← g1] at A1 st1
  have g_b1 : n0 ≤ b1 := Nat.le_trans Z0 (Nat.le_of_eq g1.symm)
  have Z1 : n0 ≤ h1.size := Nat.le_trans Z0 E1.1
  have V_b1 : OwnArr Z h1 b1 .int 3 (fun _ => (.int (0 : Int32))) := A1
  refine own_go st1 ?_
  show OwnFin p e below s _ _ _ (T1.setTop (mkF m 77 #[iv wa, iv wb, iv wc, iv wd, iv (Int32.ofNat n), iv (Int32.ofNat s0), iv fl, iv (Int32.ofNat w), iv (Int32.ofNat s0), iv (Int32.ofNat s1), iv (Int32.ofNat s2), .unset, .unset, .unset, .unset, .unset, .unset, .unset, .unset, .unset, .unset, .unset, .unset] [(.ref b1)]))
  refine own_go (fun t_ k_ => XS.astore X1.here hx rfl (hb hby at_77) rfl rfl (l' := #[iv wa, iv wb, iv wc, iv wd, iv (Int32.ofNat n), iv (Int32.ofNat s0), iv fl, iv (Int32.ofNat w), iv (Int32.ofNat s0), iv (Int32.ofNat s1), iv (Int32.ofNat s2), rv b1, .unset, .unset, .unset, .unset, .unset, .unset, .unset, .unset, .unset, .unset, .unset]) rfl k_) ?_
  show OwnFin p e below s _ _ _ (T1.setTop (mkF m 79 #[iv wa, iv wb, iv wc, iv wd, iv (Int32.ofNat n), iv (Int32.ofNat s0), iv fl, iv (Int32.ofNat w), iv (Int32.ofNat s0), iv (Int32.ofNat s1), iv (Int32.ofNat s2), rv b1, .unset, .unset, .unset, .unset, .unset, .unset, .unset, .unset, .unset, .unset, .unset] []))
  refine own_go (fun t_ k_ => XS.aload X1.here hx rfl (hb hby at_79) rfl rfl k_) ?_
  show OwnFin p e below s _ _ _ (T1.setTop (mkF m 81 #[iv wa, iv wb, iv wc, iv wd, iv (Int32.ofNat n), iv (Int32.ofNat s0), iv fl, iv (Int32.ofNat w), iv (Int32.ofNat s0), iv (Int32.ofNat s1), iv (Int32.ofNat s2), rv b1, .unset, .unset, .unset, .unset, .unset, .unset, .unset, .unset, .unset, .unset, .unset] [(.ref b1)]))
  refine own_go (fun t_ k_ => XS.iconst X1.here hx rfl (hb hby at_81) k_) ?_
  show OwnFin p e below s _ _ _ (T1.setTop (mkF m 82 #[iv wa, iv wb, iv wc, iv wd, iv (Int32.ofNat n), iv (Int32.ofNat s0), iv fl, iv (Int32.ofNat w), iv (Int32.ofNat s0), iv (Int32.ofNat s1), iv (Int32.ofNat s2), rv b1, .unset, .unset, .unset, .unset, .unset, .unset, .unset, .unset, .unset, .unset, .unset] [(.int (0 : Int32)), (.ref b1)]))
  refine own_go (fun t_ k_ => XS.iloadN X1.here hx rfl (hb hby at_82) rfl k_) ?_
  show OwnFin p e below s _ _ _ (T1.setTop (mkF m 83 #[iv wa, iv wb, iv wc, iv wd, iv (Int32.ofNat n), iv (Int32.ofNat s0), iv fl, iv (Int32.ofNat w), iv (Int32.ofNat s0), iv (Int32.ofNat s1), iv (Int32.ofNat s2), rv b1, .unset, .unset, .unset, .unset, .unset, .unset, .unset, .unset, .unset, .unset, .unset] [(.int wc), (.int (0 : Int32)), (.ref b1)]))
  refine own_go (fun t_ k_ => XS.iconst X1.here hx rfl (hb hby at_83) k_) ?_
  show OwnFin p e below s _ _ _ (T1.setTop (mkF m 84 #[iv wa, iv wb, iv wc, iv wd, iv (Int32.ofNat n), iv (Int32.ofNat s0), iv fl, iv (Int32.ofNat w), iv (Int32.ofNat s0), iv (Int32.ofNat s1), iv (Int32.ofNat s2), rv b1, .unset, .unset, .unset, .unset, .unset, .unset, .unset, .unset, .unset, .unset, .unset] [(.int (3 : Int32)), (.int wc), (.int (0 : Int32)), (.ref b1)]))
  refine own_go (fun t_ k_ => XS.iand X1.here hx rfl (hb hby at_84) rfl k_) ?_
  show OwnFin p e below s _ _ _ (T1.setTop (mkF m 85 #[iv wa, iv wb, iv wc, iv wd, iv (Int32.ofNat n), iv (Int32.ofNat s0), iv fl, iv (Int32.ofNat w), iv (Int32.ofNat s0), iv (Int32.ofNat s1), iv (Int32.ofNat s2), rv b1, .unset, .unset, .unset, .unset, .unset, .unset, .unset, .unset, .unset, .unset, .unset] [(.int (wc &&& (3 : Int32))), (.int (0 : Int32)), (.ref b1)]))
  obtain ⟨q0, hq0, he_q0⟩ : ∃ n, n < 4 ∧ (wc &&& (3 : Int32)) = Int32.ofNat n := own_m3x _
  rw [he_q0]
  show OwnFin p e below s _ _ _ (T1.setTop (mkF m 85 #[iv wa, iv wb, iv wc, iv wd, iv (Int32.ofNat n), iv (Int32.ofNat s0), iv fl, iv (Int32.ofNat w), iv (Int32.ofNat s0), iv (Int32.ofNat s1), iv (Int32.ofNat s2), rv b1, .unset, .unset, .unset, .unset, .unset, .unset, .unset, .unset, .unset, .unset, .unset] [(.int (Int32.ofNat q0)), (.int (0 : Int32)), (.ref b1)]))
  obtain ⟨T2, h2, X2, e2, W2, A2, st2⟩ := own_iastore X1 hx hZ e1 V_b1 (i := 0) (by decide) (by decide) (g := (mkF m 85 #[iv wa, iv wb, iv wc, iv wd, iv (Int32.ofNat n), iv (Int32.ofNat s0), iv fl, iv (Int32.ofNat w), iv (Int32.ofNat s0), iv (Int32.ofNat s1), iv (Int32.ofNat s2), rv b1, .unset, .unset, .unset, .unset, .unset, .unset, .unset, .unset, .unset, .unset, .unset] [(.int (Int32.ofNat q0)), (.int (0 : Int32)), (.ref b1)])) rfl rfl (hb hby at_85)
  have Z2 : n0 ≤ h2.size := Nat.le_trans Z1 (Keep.of_wr W2).1
  have N2 := Fr.snoc X2 N0 g_b1
  refine own_go st2 ?_
  show OwnFin p e below s _ _ _ (T2.setTop (mkF m 86 #[iv wa, iv wb, iv wc, iv wd, iv (Int32.ofNat n), iv (Int32.ofNat s0), iv fl, iv (Int32.ofNat w), iv (Int32.ofNat s0), iv (Int32.ofNat s1), iv (Int32.ofNat s2), rv b1, .unset, .unset, .unset, .unset, .unset, .unset, .unset, .unset, .unset, .unset, .unset] []))
  refine own_go (fun t_ k_ => XS.aload X2.here hx rfl (hb hby at_86) rfl rfl k_) ?_
  show OwnFin p e below s _ _ _ (T2.setTop (mkF m 88 #[iv wa, iv wb, iv wc, iv wd, iv (Int32.ofNat n), iv (Int32.ofNat s0), iv fl, iv (Int32.ofNat w), iv (Int32.ofNat s0), iv (Int32.ofNat s1), iv (Int32.ofNat s2), rv b1, .unset, .unset, .unset, .unset, .unset, .unset, .unset, .unset, .unset, .unset, .unset] [(.ref b1)]))
  refine own_go (fun t_ k_ => XS.iconst X2.here hx rfl (hb hby at_88) k_) ?_
  show OwnFin p e below s _ _ _ (T2.setTop (mkF m 89 #[iv wa, iv wb, iv wc, iv wd, iv (Int32.ofNat n), iv (Int32.ofNat s0), iv fl, iv (Int32.ofNat w), iv (Int32.ofNat s0), iv (Int32.ofNat s1), iv (Int32.ofNat s2), rv b1, .unset, .unset, .unset, .unset, .unset, .unset, .unset, .unset, .unset, .unset, .unset] [(.int (1 : Int32)), (.ref b1)]))
  refine own_go (fun t_ k_ => XS.iloadN X2.here hx rfl (hb hby at_89) rfl k_) ?_
  show OwnFin p e below s _ _ _ (T2.setTop (mkF m 90 #[iv wa, iv wb, iv wc, iv wd, iv (Int32.ofNat n), iv (Int32.ofNat s0), iv fl, iv (Int32.ofNat w), iv (Int32.ofNat s0), iv (Int32.ofNat s1), iv (Int32.ofNat s2), rv b1, .unset, .unset, .unset, .unset, .unset, .unset, .unset, .unset, .unset, .unset, .unset] [(.int wc), (.int (1 : Int32)), (.ref b1)]))
  refine own_go (fun t_ k_ => XS.iconst X2.here hx rfl (hb hby at_90) k_) ?_
  show OwnFin p e below s _ _ _ (T2.setTop (mkF m 91 #[iv wa, iv wb, iv wc, iv wd, iv (Int32.ofNat n), iv (Int32.ofNat s0), iv fl, iv (Int32.ofNat w), iv (Int32.ofNat s0), iv (Int32.ofNat s1), iv (Int32.ofNat s2), rv b1, .unset, .unset, .unset, .unset, .unset, .unset, .unset, .unset, .unset, .unset, .unset] [(.int (2 : Int32)), (.int wc), (.int (1 : Int32)), (.ref b1)]))
  refine own_go (fun t_ k_ => XS.iushr X2.here hx rfl (hb hby at_91) rfl k_) ?_
  show OwnFin p e below s _ _ _ (T2.setTop (mkF m 92 #[iv wa, iv wb, iv wc, iv wd, iv (Int32.ofNat n), iv (Int32.ofNat s0), iv fl, iv (Int32.ofNat w), iv (Int32.ofNat s0), iv (Int32.ofNat s1), iv (Int32.ofNat s2), rv b1, .unset, .unset, .unset, .unset, .unset, .unset, .unset, .unset, .unset, .unset, .unset] [(.int ((wc.toUInt32 >>> ((2 : Int32) &&& 31).toUInt32).toInt32)), (.int (1 : Int32)), (.ref b1)]))
  refine own_go (fun t_ k_ => XS.iconst X2.here hx rfl (hb hby at_92) k_) ?_
  show OwnFin p e below s _ _ _ (T2.setTop (mkF m 93 #[iv wa, iv wb, iv wc, iv wd, iv (Int32.ofNat n), iv (Int32.ofNat s0), iv fl, iv (Int32.ofNat w), iv (Int32.ofNat s0), iv (Int32.ofNat s1), iv (Int32.ofNat s2), rv b1, .unset, .unset, .unset, .unset, .unset, .unset, .unset, .unset, .unset, .unset, .unset] [(.int (3 : Int32)), (.int ((wc.toUInt32 >>> ((2 : Int32) &&& 31).toUInt32).toInt32)), (.int (1 : Int32)), (.ref b1)]))
  refine own_go (fun t_ k_ => XS.iand X2.here hx rfl (hb hby at_93) rfl k_) ?_
  show OwnFin p e below s _ _ _ (T2.setTop (mkF m 94 #[iv wa, iv wb, iv wc, iv wd, iv (Int32.ofNat n), iv (Int32.ofNat s0), iv fl, iv (Int32.ofNat w), iv (Int32.ofNat s0), iv (Int32.ofNat s1), iv (Int32.ofNat s2), rv b1, .unset, .unset, .unset, .unset, .unset, .unset, .unset, .unset, .unset, .unset, .unset] [(.int (((wc.toUInt32 >>> ((2 : Int32) &&& 31).toUInt32).toInt32) &&& (3 : Int32))), (.int (1 : Int32)), (.ref b1)]))
  obtain ⟨q1, hq1, he_q1⟩ : ∃ n, n < 4 ∧ (((wc.toUInt32 >>> ((2 : Int32) &&& 31).toUInt32).toInt32) &&& (3 : Int32)) = Int32.ofNat n := own_m3x _
  rw [he_q1]
  show OwnFin p e below s _ _ _ (T2.setTop (mkF m 94 #[iv wa, iv wb, iv wc, iv wd, iv (Int32.ofNat n), iv (Int32.ofNat s0), iv fl, iv (Int32.ofNat w), iv (Int32.ofNat s0), iv (Int32.ofNat s1), iv (Int32.ofNat s2), rv b1, .unset, .unset, .unset, .unset, .unset, .unset, .unset, .unset, .unset, .unset, .unset] [(.int (Int32.ofNat q1)), (.int (1 : Int32)), (.ref b1)]))
  obtain ⟨T3, h3, X3, e3, W3, A3, st3⟩ := own_iastore X2 hx hZ e2 A2 (i := 1) (by decide) (by decide) (g := (mkF m 94 #[iv wa, iv wb, iv wc, iv wd, iv (Int32.ofNat n), iv (Int32.ofNat s0), iv fl, iv (Int32.ofNat w), iv (Int32.ofNat s0), iv (Int32.ofNat s1), iv (Int32.ofNat s2), rv b1, .unset, .unset, .unset, .unset, .unset, .unset, .unset, .unset, .unset, .unset, .unset] [(.int (Int32.ofNat q1)), (.int (1 : Int32)), (.ref b1)])) rfl rfl (hb hby at_94)
  have Z3 : n0 ≤ h3.size := Nat.le_trans Z2 (Keep.of_wr W3).1
  have N3 := Fr.snoc X3 N2 g_b1
  refine own_go st3 ?_
  show OwnFin p e below s _ _ _ (T3.setTop (mkF m 95 #[iv wa, iv wb, iv wc, iv wd, iv (Int32.ofNat n), iv (Int32.ofNat s0), iv fl, iv (Int32.ofNat w), iv (Int32.ofNat s0), iv (Int32.ofNat s1), iv (Int32.ofNat s2), rv b1, .unset, .unset, .unset, .unset, .unset, .unset, .unset, .unset, .unset, .unset, .unset] []))
  refine own_go (fun t_ k_ => XS.aload X3.here hx rfl (hb hby at_95) rfl rfl k_) ?_
  show OwnFin p e below s _ _ _ (T3.setTop (mkF m 97 #[iv wa, iv wb, iv wc, iv wd, iv (Int32.ofNat n), iv (Int32.ofNat s0), iv fl, iv (Int32.ofNat w), iv (Int32.ofNat s0), iv (Int32.ofNat s1), iv (Int32.ofNat s2), rv b1, .unset, .unset, .unset, .unset, .unset, .unset, .unset, .unset, .unset, .unset, .unset] [(.ref b1)]))
  refine own_go (fun t_ k_ => XS.iconst X3.here hx rfl (hb hby at_97) k_) ?_
  show OwnFin p e below s _ _ _ (T3.setTop (mkF m 98 #[iv wa, iv wb, iv wc, iv wd, iv (Int32.ofNat n), iv (Int32.ofNat s0), iv fl, iv (Int32.ofNat w), iv (Int32.ofNat s0), iv (Int32.ofNat s1), iv (Int32.ofNat s2), rv b1, .unset, .unset, .unset, .unset, .unset, .unset, .unset, .unset, .unset, .unset, .unset] [(.int (2 : Int32)), (.ref b1)]))
  refine own_go (fun t_ k_ => XS.iloadN X3.here hx rfl (hb hby at_98) rfl k_) ?_
  show OwnFin p e below s _ _ _ (T3.setTop (mkF m 99 #[iv wa, iv wb, iv wc, iv wd, iv (Int32.ofNat n), iv (Int32.ofNat s0), iv fl, iv (Int32.ofNat w), iv (Int32.ofNat s0), iv (Int32.ofNat s1), iv (Int32.ofNat s2), rv b1, .unset, .unset, .unset, .unset, .unset, .unset, .unset, .unset, .unset, .unset, .unset] [(.int wc), (.int (2 : Int32)), (.ref b1)]))
  refine own_go (fun t_ k_ => XS.iconst X3.here hx rfl (hb hby at_99) k_) ?_
  show OwnFin p e below s _ _ _ (T3.setTop (mkF m 100 #[iv wa, iv wb, iv wc, iv wd, iv (Int32.ofNat n), iv (Int32.ofNat s0), iv fl, iv (Int32.ofNat w), iv (Int32.ofNat s0), iv (Int32.ofNat s1), iv (Int32.ofNat s2), rv b1, .unset, .unset, .unset, .unset, .unset, .unset, .unset, .unset, .unset, .unset, .unset] [(.int (4 : Int32)), (.int wc), (.int (2 : Int32)), (.ref b1)]))
  refine own_go (fun t_ k_ => XS.iushr X3.here hx rfl (hb hby at_100) rfl k_) ?_
  show OwnFin p e below s _ _ _ (T3.setTop (mkF m 101 #[iv wa, iv wb, iv wc, iv wd, iv (Int32.ofNat n), iv (Int32.ofNat s0), iv fl, iv (Int32.ofNat w), iv (Int32.ofNat s0), iv (Int32.ofNat s1), iv (Int32.ofNat s2), rv b1, .unset, .unset, .unset, .unset, .unset, .unset, .unset, .unset, .unset, .unset, .unset] [(.int ((wc.toUInt32 >>> ((4 : Int32) &&& 31).toUInt32).toInt32)), (.int (2 : Int32)), (.ref b1)]))
  refine own_go (fun t_ k_ => XS.iconst X3.here hx rfl (hb hby at_101) k_) ?_
  show OwnFin p e below s _ _ _ (T3.setTop (mkF m 102 #[iv wa, iv wb, iv wc, iv wd, iv (Int32.ofNat n), iv (Int32.ofNat s0), iv fl, iv (Int32.ofNat w), iv (Int32.ofNat s0), iv (Int32.ofNat s1), iv (Int32.ofNat s2), rv b1, .unset, .unset, .unset, .unset, .unset, .unset, .unset, .unset, .unset, .unset, .unset] [(.int (3 : Int32)), (.int ((wc.toUInt32 >>> ((4 : Int32) &&& 31).toUInt32).toInt32)), (.int (2 : Int32)), (.ref b1)]))
  refine own_go (fun t_ k_ => XS.iand X3.here hx rfl (hb hby at_102) rfl k_) ?_
  show OwnFin p e below s _ _ _ (T3.setTop (mkF m 103 #[iv wa, iv wb, iv wc, iv wd, iv (Int32.ofNat n), iv (Int32.ofNat s0), iv fl, iv (Int32.ofNat w), iv (Int32.ofNat s0), iv (Int32.ofNat s1), iv (Int32.ofNat s2), rv b1, .unset, .unset, .unset, .unset, .unset, .unset, .unset, .unset, .unset, .unset, .unset] [(.int (((wc.toUInt32 >>> ((4 : Int32) &&& 31).toUInt32).toInt32) &&& (3 : Int32))), (.int (2 : Int32)), (.ref b1)]))
  obtain ⟨q2, hq2, he_q2⟩ : ∃ n, n < 4 ∧ (((wc.toUInt32 >>> ((4 : Int32) &&& 31).toUInt32).toInt32) &&& (3 : Int32)) = Int32.ofNat n := own_m3x _
  rw [he_q2]
  show OwnFin p e below s _ _ _ (T3.setTop (mkF m 103 #[iv wa, iv wb, iv wc, iv wd, iv (Int32.ofNat n), iv (Int32.ofNat s0), iv fl, iv (Int32.ofNat w), iv (Int32.ofNat s0), iv (Int32.ofNat s1), iv (Int32.ofNat s2), rv b1, .unset, .unset, .unset, .unset, .unset, .unset, .unset, .unset, .unset, .unset, .unset] [(.int (Int32.ofNat q2)), (.int (2 : Int32)), (.ref b1)]))
  obtain ⟨T4, h4, X4, e4, W4, A4, st4⟩ := own_iastore X3 hx hZ e3 A3 (i := 2) (by decide) (by decide) (g := (mkF m 103 #[iv wa, iv wb, iv wc, iv wd, iv (Int32.ofNat n), iv (Int32.ofNat s0), iv fl, iv (Int32.ofNat w), iv (Int32.ofNat s0), iv (Int32.ofNat s1), iv (Int32.ofNat s2), rv b1, .unset, .unset, .unset, .unset, .unset, .unset, .unset, .unset, .unset, .unset, .unset] [(.int (Int32.ofNat q2)), (.int (2 : Int32)), (.ref b1)])) rfl rfl (hb hby at_103)
  have Z4 : n0 ≤ h4.size := Nat.le_trans Z3 (Keep.of_wr W4).1
  have N4 := Fr.snoc X4 N3 g_b1
  refine own_go st4 ?_
  show OwnFin p e below s _ _ _ (T4.setTop (mkF m 104 #[iv wa, iv wb, iv wc, iv wd, iv (Int32.ofNat n), iv (Int32.ofNat s0), iv fl, iv (Int32.ofNat w), iv (Int32.ofNat s0), iv (Int32.ofNat s1), iv (Int32.ofNat s2), rv b1, .unset, .unset, .unset, .unset, .unset, .unset, .unset, .unset, .unset, .unset, .unset] []))
  have V_rn : OwnArr Z h4 b1 .int 3 (fun k => .int (Int32.ofNat (own_tri q0 q1 q2 k))) := A4.congr (own_3c rfl rfl rfl)
  refine own_go (fun t_ k_ => XS.iloadN X4.here hx rfl (hb hby at_104) rfl k_) ?_
  show OwnFin p e below s _ _ _ (T4.setTop (mkF m 105 #[iv wa, iv wb, iv wc, iv wd, iv (Int32.ofNat n), iv (Int32.ofNat s0), iv fl, iv (Int32.ofNat w), iv (Int32.ofNat s0), iv (Int32.ofNat s1), iv (Int32.ofNat s2), rv b1, .unset, .unset, .unset, .unset, .unset, .unset, .unset, .unset, .unset, .unset, .unset] [(.int wd)]))
  refine own_go (fun t_ k_ => XS.iconst X4.here hx rfl (hb hby at_105) k_) ?_
  show OwnFin p e below s _ _ _ (T4.setTop (mkF m 106 #[iv wa, iv wb, iv wc, iv wd, iv (Int32.ofNat n), iv (Int32.ofNat s0), iv fl, iv (Int32.ofNat w), iv (Int32.ofNat s0), iv (Int32.ofNat s1), iv (Int32.ofNat s2), rv b1, .unset, .unset, .unset, .unset, .unset, .unset, .unset, .unset, .unset, .unset, .unset] [(.int (1 : Int32)), (.int wd)]))
  refine own_go (fun t_ k_ => XS.iand X4.here hx rfl (hb hby at_106) rfl k_) ?_
  show OwnFin p e below s _ _ _ (T4.setTop (mkF m 107 #[iv wa, iv wb, iv wc, iv wd, iv (Int32.ofNat n), iv (Int32.ofNat s0), iv fl, iv (Int32.ofNat w), iv (Int32.ofNat s0), iv (Int32.ofNat s1), iv (Int32.ofNat s2), rv b1, .unset, .unset, .unset, .unset, .unset, .unset, .unset, .unset, .unset, .unset, .unset] [(.int (wd &&& (1 : Int32)))]))
  refine own_go (B := T4.setTop (mkF m 115 #[iv wa, iv wb, iv wc, iv wd, iv (Int32.ofNat n), iv (Int32.ofNat s0), iv fl, iv (Int32.ofNat w), iv (Int32.ofNat s0), iv (Int32.ofNat s1), iv (Int32.ofNat s2), rv b1, .unset, .unset, .unset, .unset, .unset, .unset, .unset, .unset, .unset, .unset, .unset] [(.int (if (wd &&& (1 : Int32)) = (0 : Int32) then (0 : Int32) else (1 : Int32)))])) (fun t_ k_ => ?_) ?_
  · by_cases hm107 : (wd &&& (1 : Int32)) = (0 : Int32)
    · rw [if_pos hm107] at k_; exact XS.ifYes X4.here hx rfl (pc0 := 107) (pc' := 114) rfl (hb hby at_107) rfl ((if0 _ _).trans (teq hm107).1) (by decide) (by decide) (XS.iconst X4.here hx rfl (hb hby at_114) k_)
    · rw [if_neg hm107] at k_; exact XS.ifNo X4.here hx rfl (hb hby at_107) rfl ((if0 _ _).trans (feq hm107).1) (XS.iconst X4.here hx rfl (hb hby at_110) (XS.goto X4.here hx rfl (pc0 := 111) (pc' := 115) rfl (hb hby at_111) (by decide) (by decide) k_))
  show OwnFin p e below s _ _ _ (T4.setTop (mkF m 115 #[iv wa, iv wb, iv wc, iv wd, iv (Int32.ofNat n), iv (Int32.ofNat s0), iv fl, iv (Int32.ofNat w), iv (Int32.ofNat s0), iv (Int32.ofNat s1), iv (Int32.ofNat s2), rv b1, .unset, .unset, .unset, .unset, .unset, .unset, .unset, .unset, .unset, .unset, .unset] [(.int (if (wd &&& (1 : Int32)) = (0 : Int32) then (0 : Int32) else (1 : Int32)))]))
  refine own_go (fun t_ k_ => XS.istore X4.here hx rfl (hb hby at_115) rfl (l' := #[iv wa, iv wb, iv wc, iv wd, iv (Int32.ofNat n), iv (Int32.ofNat s0), iv fl, iv (Int32.ofNat w), iv (Int32.ofNat s0), iv (Int32.ofNat s1), iv (Int32.ofNat s2), rv b1, iv (if (wd &&& (1 : Int32)) = (0 : Int32) then (0 : Int32) else (1 : Int32)), .unset, .unset, .unset, .unset, .unset, .unset, .unset, .unset, .unset, .unset]) rfl k_) ?_
  show OwnFin p e below s _ _ _ (T4.setTop (mkF m 117 #[iv wa, iv wb, iv wc, iv wd, iv (Int32.ofNat n), iv (Int32.ofNat s0), iv fl, iv (Int32.ofNat w), iv (Int32.ofNat s0), iv (Int32.ofNat s1), iv (Int32.ofNat s2), rv b1, iv (if (wd &&& (1 : Int32)) = (0 : Int32) then (0 : Int32) else (1 : Int32)), .unset, .unset, .unset, .unset, .unset, .unset, .unset, .unset, .unset, .unset] []))
  generalize h_dr : (if (wd &&& (1 : Int32)) = (0 : Int32) then (0 : Int32) else (1 : Int32)) = dr
  show OwnFin p e below s _ _ _ (T4.setTop (mkF m 117 #[iv wa, iv wb, iv wc, iv wd, iv (Int32.ofNat n), iv (Int32.ofNat s0), iv fl, iv (Int32.ofNat w), iv (Int32.ofNat s0), iv (Int32.ofNat s1), iv (Int32.ofNat s2), rv b1, iv dr, .unset, .unset, .unset, .unset, .unset, .unset, .unset, .unset, .unset, .unset] []))
  refine own_go (fun t_ k_ => XS.iloadN X4.here hx rfl (hb hby at_117) rfl k_) ?_
  show OwnFin p e below s _ _ _ (T4.setTop (mkF m 118 #[iv wa, iv wb, iv wc, iv wd, iv (Int32.ofNat n), iv (Int32.ofNat s0), iv fl, iv (Int32.ofNat w), iv (Int32.ofNat s0), iv (Int32.ofNat s1), iv (Int32.ofNat s2), rv b1, iv dr, .unset, .unset, .unset, .unset, .unset, .unset, .unset, .unset, .unset, .unset] [(.int wd)]))
  refine own_go (fun t_ k_ => XS.iconst X4.here hx rfl (hb hby at_118) k_) ?_
  show OwnFin p e below s _ _ _ (T4.setTop (mkF m 119 #[iv wa, iv wb, iv wc, iv wd, iv (Int32.ofNat n), iv (Int32.ofNat s0), iv fl, iv (Int32.ofNat w), iv (Int32.ofNat s0), iv (Int32.ofNat s1), iv (Int32.ofNat s2), rv b1, iv dr, .unset, .unset, .unset, .unset, .unset, .unset, .unset, .unset, .unset, .unset] [(.int (1 : Int32)), (.int wd)]))
  refine own_go (fun t_ k_ => XS.iushr X4.here hx rfl (hb hby at_119) rfl k_) ?_
  show OwnFin p e below s _ _ _ (T4.setTop (mkF m 120 #[iv wa, iv wb, iv wc, iv wd, iv (Int32.ofNat n), iv (Int32.ofNat s0), iv fl, iv (Int32.ofNat w), iv (Int32.ofNat s0), iv (Int32.ofNat s1), iv (Int32.ofNat s2), rv b1, iv dr, .unset, .unset, .unset, .unset, .unset, .unset, .unset, .unset, .unset, .unset] [(.int ((wd.toUInt32 >>> ((1 : Int32) &&& 31).toUInt32).toInt32))]))
  refine own_go (fun t_ k_ => XS.bipush X4.here hx rfl (hb hby at_120) k_) ?_
  show OwnFin p e below s _ _ _ (T4.setTop (mkF m 122 #[iv wa, iv wb, iv wc, iv wd, iv (Int32.ofNat n), iv (Int32.ofNat s0), iv fl, iv (Int32.ofNat w), iv (Int32.ofNat s0), iv (Int32.ofNat s1), iv (Int32.ofNat s2), rv b1, iv dr, .unset, .unset, .unset, .unset, .unset, .unset, .unset, .unset, .unset, .unset] [(.int (7 : Int32)), (.int ((wd.toUInt32 >>> ((1 : Int32) &&& 31).toUInt32).toInt32))]))
  refine own_go (fun t_ k_ => XS.iand X4.here hx rfl (hb hby at_122) rfl k_) ?_
  show OwnFin p e below s _ _ _ (T4.setTop (mkF m 123 #[iv wa, iv wb, iv wc, iv wd, iv (Int32.ofNat n), iv (Int32.ofNat s0), iv fl, iv (Int32.ofNat w), iv (Int32.ofNat s0), iv (Int32.ofNat s1), iv (Int32.ofNat s2), rv b1, iv dr, .unset, .unset, .unset, .unset, .unset, .unset, .unset, .unset, .unset, .unset] [(.int (((wd.toUInt32 >>> ((1 : Int32) &&& 31).toUInt32).toInt32) &&& (7 : Int32)))]))
  obtain ⟨rr, hrr, he_rr⟩ : ∃ n, n < 8 ∧ (((wd.toUInt32 >>> ((1 : Int32) &&& 31).toUInt32).toInt32) &&& (7 : Int32)) = Int32.ofNat n := own_m7x _
  rw [he_rr]
  show OwnFin p e below s _ _ _ (T4.setTop (mkF m 123 #[iv wa, iv wb, iv wc, iv wd, iv (Int32.ofNat n), iv (Int32.ofNat s0), iv fl, iv (Int32.ofNat w), iv (Int32.ofNat s0), iv (Int32.ofNat s1), iv (Int32.ofNat s2), rv b1, iv dr, .unset, .unset, .unset, .unset, .unset, .unset, .unset, .unset, .unset, .unset] [(.int (Int32.ofNat rr))]))
  refine own_go (fun t_ k_ => XS.istore X4.here hx rfl (hb hby at_123) rfl (l' := #[iv wa, iv wb, iv wc, iv wd, iv (Int32.ofNat n), iv (Int32.ofNat s0), iv fl, iv (Int32.ofNat w), iv (Int32.ofNat s0), iv (Int32.ofNat s1), iv (Int32.ofNat s2), rv b1, iv dr, iv (Int32.ofNat rr), .unset, .unset, .unset, .unset, .unset, .unset, .unset, .unset, .unset]) rfl k_) ?_
  show OwnFin p e below s _ _ _ (T4.setTop (mkF m 125 #[iv wa, iv wb, iv wc, iv wd, iv (Int32.ofNat n), iv (Int32.ofNat s0), iv fl, iv (Int32.ofNat w), iv (Int32.ofNat s0), iv (Int32.ofNat s1), iv (Int32.ofNat s2), rv b1, iv dr, iv (Int32.ofNat rr), .unset, .unset, .unset, .unset, .unset, .unset, .unset, .unset, .unset] []))
  refine own_go (fun t_ k_ => XS.iconst X4.here hx rfl (hb hby at_125) k_) ?_
  show OwnFin p e below s _ _ _ (T4.setTop (mkF m 126 #[iv wa, iv wb, iv wc, iv wd, iv (Int32.ofNat n), iv (Int32.ofNat s0), iv fl, iv (Int32.ofNat w), iv (Int32.ofNat s0), iv (Int32.ofNat s1), iv (Int32.ofNat s2), rv b1, iv dr, iv (Int32.ofNat rr), .unset, .unset, .unset, .unset, .unset, .unset, .unset, .unset, .unset] [(.int (3 : Int32))]))
  obtain ⟨T5, h5, X5, e5, E5, A5, st5⟩ := own_newarr X4 hx hZ (hw _ (List.mem_of_getElem? (i := 1) rfl)) e4 (g := (mkF m 126 #[iv wa, iv wb, iv wc, iv wd, iv (Int32.ofNat n), iv (Int32.ofNat s0), iv fl, iv (Int32.ofNat w), iv (Int32.ofNat s0), iv (Int32.ofNat s1), iv (Int32.ofNat s2), rv b1, iv dr, iv (Int32.ofNat rr), .unset, .unset, .unset, .unset, .unset, .unset, .unset, .unset, .unset] [(.int (3 : Int32))])) rfl (hb hby at_126) rfl (n := 3) (cap := 3) (by decide) (by decide) (by decide) (by decide) (by decide)
  obtain ⟨b5, g5⟩ : ∃ z, z = h4.size := ⟨_, rfl⟩
  rw [← g5] at A5 st5
  have g_b5 : n0 ≤ b5 := Nat.le_trans Z4 (Nat.le_of_eq g5.symm)
  have ne_b1_b5 : b1 ≠ b5 := Nat.ne_of_lt (Nat.lt_of_lt_of_le V_rn.lt (Nat.le_of_eq g5.symm))
  have V_rn_5 := V_rn.ext E5
  have Z5 : n0 ≤ h5.size := Nat.le_trans Z4 E5.1
  have V_b5 : OwnArr Z h5 b5 .boolean 3 (fun _ => (.int (0 : Int32))) := A5
  refine own_go st5 ?_
  show OwnFin p e below s _ _ _ (T5.setTop (mkF m 128 #[iv wa, iv wb, iv wc, iv wd, iv (Int32.ofNat n), iv (Int32.ofNat s0), iv fl, iv (Int32.ofNat w), iv (Int32.ofNat s0), iv (Int32.ofNat s1), iv (Int32.ofNat s2), rv b1, iv dr, iv (Int32.ofNat rr), .unset, .unset, .unset, .unset, .unset, .unset, .unset, .unset, .unset] [(.ref b5)]))
  refine own_go (fun t_ k_ => XS.astore X5.here hx rfl (hb hby at_128) rfl rfl (l' := #[iv wa, iv wb, iv wc, iv wd, iv (Int32.ofNat n), iv (Int32.ofNat s0), iv fl, iv (Int32.ofNat w), iv (Int32.ofNat s0), iv (Int32.ofNat s1), iv (Int32.ofNat s2), rv b1, iv dr, iv (Int32.ofNat rr), rv b5, .unset, .unset, .unset, .unset, .unset, .unset, .unset, .unset]) rfl k_) ?_
  show OwnFin p e below s _ _ _ (T5.setTop (mkF m 130 #[iv wa, iv wb, iv wc, iv wd, iv (Int32.ofNat n), iv (Int32.ofNat s0), iv fl, iv (Int32.ofNat w), iv (Int32.ofNat s0), iv (Int32.ofNat s1), iv (Int32.ofNat s2), rv b1, iv dr, iv (Int32.ofNat rr), rv b5, .unset, .unset, .unset, .unset, .unset, .unset, .unset, .unset] []))
  refine own_go (fun t_ k_ => XS.aload X5.here hx rfl (hb hby at_130) rfl rfl k_) ?_
  show OwnFin p e below s _ _ _ (T5.setTop (mkF m 132 #[iv wa, iv wb, iv wc, iv wd, iv (Int32.ofNat n), iv (Int32.ofNat s0), iv fl, iv (Int32.ofNat w), iv (Int32.ofNat s0), iv (Int32.ofNat s1), iv (Int32.ofNat s2), rv b1, iv dr, iv (Int32.ofNat rr), rv b5, .unset, .unset, .unset, .unset, .unset, .unset, .unset, .unset] [(.ref b5)]))
  refine own_go (fun t_ k_ => XS.iload X5.here hx rfl (hb hby at_132) rfl k_) ?_
  show OwnFin p e below s _ _ _ (T5.setTop (mkF m 134 #[iv wa, iv wb, iv wc, iv wd, iv (Int32.ofNat n), iv (Int32.ofNat s0), iv fl, iv (Int32.ofNat w), iv (Int32.ofNat s0), iv (Int32.ofNat s1), iv (Int32.ofNat s2), rv b1, iv dr, iv (Int32.ofNat rr), rv b5, .unset, .unset, .unset, .unset, .unset, .unset, .unset, .unset] [(.int (Int32.ofNat s0)), (.ref b5)]))
  refine own_go (fun t_ k_ => XS.iload X5.here hx rfl (hb hby at_134) rfl k_) ?_
  show OwnFin p e below s _ _ _ (T5.setTop (mkF m 136 #[iv wa, iv wb, iv wc, iv wd, iv (Int32.ofNat n), iv (Int32.ofNat s0), iv fl, iv (Int32.ofNat w), iv (Int32.ofNat s0), iv (Int32.ofNat s1), iv (Int32.ofNat s2), rv b1, iv dr, iv (Int32.ofNat rr), rv b5, .unset, .unset, .unset, .unset, .unset, .unset, .unset, .unset] [(.int (Int32.ofNat n)), (.int (Int32.ofNat s0)), (.ref b5)]))
  refine own_go (B := T5.setTop (mkF m 144 #[iv wa, iv wb, iv wc, iv wd, iv (Int32.ofNat n), iv (Int32.ofNat s0), iv fl, iv (Int32.ofNat w), iv (Int32.ofNat s0), iv (Int32.ofNat s1), iv (Int32.ofNat s2), rv b1, iv dr, iv (Int32.ofNat rr), rv b5, .unset, .unset, .unset, .unset, .unset, .unset, .unset, .unset] [(.int (if (0 : Int32) < (Int32.ofNat n) then (1 : Int32) else (0 : Int32))), (.int (Int32.ofNat s0)), (.ref b5)])) (fun t_ k_ => ?_) ?_
  · by_cases hm136 : (0 : Int32) < (Int32.ofNat n)
    · rw [if_pos hm136] at k_; exact XS.ifNo X5.here hx rfl (hb hby at_136) rfl ((if0 _ _).trans (tlt hm136).2.2.2) (XS.iconst X5.here hx rfl (hb hby at_139) (XS.goto X5.here hx rfl (pc0 := 140) (pc' := 144) rfl (hb hby at_140) (by decide) (by decide) k_))
    · rw [if_neg hm136] at k_; exact XS.ifYes X5.here hx rfl (pc0 := 136) (pc' := 143) rfl (hb hby at_136) rfl ((if0 _ _).trans (flt hm136).2.2.2) (by decide) (by decide) (XS.iconst X5.here hx rfl (hb hby at_143) k_)
  show OwnFin p e below s _ _ _ (T5.setTop (mkF m 144 #[iv wa, iv wb, iv wc, iv wd, iv (Int32.ofNat n), iv (Int32.ofNat s0), iv fl, iv (Int32.ofNat w), iv (Int32.ofNat s0), iv (Int32.ofNat s1), iv (Int32.ofNat s2), rv b1, iv dr, iv (Int32.ofNat rr), rv b5, .unset, .unset, .unset, .unset, .unset, .unset, .unset, .unset] [(.int (if (0 : Int32) < (Int32.ofNat n) then (1 : Int32) else (0 : Int32))), (.int (Int32.ofNat s0)), (.ref b5)]))
  obtain ⟨T6, h6, X6, e6, W6, A6, st6⟩ := own_zastore X5 hx hZ e5 V_b5 (i := s0) rfl hl_s0 (g := (mkF m 144 #[iv wa, iv wb, iv wc, iv wd, iv (Int32.ofNat n), iv (Int32.ofNat s0), iv fl, iv (Int32.ofNat w), iv (Int32.ofNat s0), iv (Int32.ofNat s1), iv (Int32.ofNat s2), rv b1, iv dr, iv (Int32.ofNat rr), rv b5, .unset, .unset, .unset, .unset, .unset, .unset, .unset, .unset] [(.int (if (0 : Int32) < (Int32.ofNat n) then (1 : Int32) else (0 : Int32))), (.int (Int32.ofNat s0)), (.ref b5)])) rfl rfl (hb hby at_144)
  have V_rn_6 := V_rn_5.other W6 ne_b1_b5
  have Z6 : n0 ≤ h6.size := Nat.le_trans Z5 (Keep.of_wr W6).1
  have N6 := Fr.snoc X6 N4 g_b5
  refine own_go st6 ?_
  show OwnFin p e below s _ _ _ (T6.setTop (mkF m 145 #[iv wa, iv wb, iv wc, iv wd, iv (Int32.ofNat n), iv (Int32.ofNat s0), iv fl, iv (Int32.ofNat w), iv (Int32.ofNat s0), iv (Int32.ofNat s1), iv (Int32.ofNat s2), rv b1, iv dr, iv (Int32.ofNat rr), rv b5, .unset, .unset, .unset, .unset, .unset, .unset, .unset, .unset] []))
  refine own_go (fun t_ k_ => XS.aload X6.here hx rfl (hb hby at_145) rfl rfl k_) ?_
  show OwnFin p e below s _ _ _ (T6.setTop (mkF m 147 #[iv wa, iv wb, iv wc, iv wd, iv (Int32.ofNat n), iv (Int32.ofNat s0), iv fl, iv (Int32.ofNat w), iv (Int32.ofNat s0), iv (Int32.ofNat s1), iv (Int32.ofNat s2), rv b1, iv dr, iv (Int32.ofNat rr), rv b5, .unset, .unset, .unset, .unset, .unset, .unset, .unset, .unset] [(.ref b5)]))
  refine own_go (fun t_ k_ => XS.iload X6.here hx rfl (hb hby at_147) rfl k_) ?_
  show OwnFin p e below s _ _ _ (T6.setTop (mkF m 149 #[iv wa, iv wb, iv wc, iv wd, iv (Int32.ofNat n), iv (Int32.ofNat s0), iv fl, iv (Int32.ofNat w), iv (Int32.ofNat s0), iv (Int32.ofNat s1), iv (Int32.ofNat s2), rv b1, iv dr, iv (Int32.ofNat rr), rv b5, .unset, .unset, .unset, .unset, .unset, .unset, .unset, .unset] [(.int (Int32.ofNat s1)), (.ref b5)]))
  refine own_go (fun t_ k_ => XS.iload X6.here hx rfl (hb hby at_149) rfl k_) ?_
  show OwnFin p e below s _ _ _ (T6.setTop (mkF m 151 #[iv wa, iv wb, iv wc, iv wd, iv (Int32.ofNat n), iv (Int32.ofNat s0), iv fl, iv (Int32.ofNat w), iv (Int32.ofNat s0), iv (Int32.ofNat s1), iv (Int32.ofNat s2), rv b1, iv dr, iv (Int32.ofNat rr), rv b5, .unset, .unset, .unset, .unset, .unset, .unset, .unset, .unset] [(.int (Int32.ofNat n)), (.int (Int32.ofNat s1)), (.ref b5)]))
  refine own_go (fun t_ k_ => XS.iconst X6.here hx rfl (hb hby at_151) k_) ?_
  show OwnFin p e below s _ _ _ (T6.setTop (mkF m 152 #[iv wa, iv wb, iv wc, iv wd, iv (Int32.ofNat n), iv (Int32.ofNat s0), iv fl, iv (Int32.ofNat w), iv (Int32.ofNat s0), iv (Int32.ofNat s1), iv (Int32.ofNat s2), rv b1, iv dr, iv (Int32.ofNat rr), rv b5, .unset, .unset, .unset, .unset, .unset, .unset, .unset, .unset] [(.int (1 : Int32)), (.int (Int32.ofNat n)), (.int (Int32.ofNat s1)), (.ref b5)]))
  refine own_go (B := T6.setTop (mkF m 160 #[iv wa, iv wb, iv wc, iv wd, iv (Int32.ofNat n), iv (Int32.ofNat s0), iv fl, iv (Int32.ofNat w), iv (Int32.ofNat s0), iv (Int32.ofNat s1), iv (Int32.ofNat s2), rv b1, iv dr, iv (Int32.ofNat rr), rv b5, .unset, .unset, .unset, .unset, .unset, .unset, .unset, .unset] [(.int (if (1 : Int32) < (Int32.ofNat n) then (1 : Int32) else (0 : Int32))), (.int (Int32.ofNat s1)), (.ref b5)])) (fun t_ k_ => ?_) ?_
  · by_cases hm152 : (1 : Int32) < (Int32.ofNat n)
    · rw [if_pos hm152] at k_; exact XS.icmpNo X6.here hx rfl (hb hby at_152) rfl (tlt hm152).2.2.2 (XS.iconst X6.here hx rfl (hb hby at_155) (XS.goto X6.here hx rfl (pc0 := 156) (pc' := 160) rfl (hb hby at_156) (by decide) (by decide) k_))
    · rw [if_neg hm152] at k_; exact XS.icmpYes X6.here hx rfl (pc0 := 152) (pc' := 159) rfl (hb hby at_152) rfl (flt hm152).2.2.2 (by decide) (by decide) (XS.iconst X6.here hx rfl (hb hby at_159) k_)
  show OwnFin p e below s _ _ _ (T6.setTop (mkF m 160 #[iv wa, iv wb, iv wc, iv wd, iv (Int32.ofNat n), iv (Int32.ofNat s0), iv fl, iv (Int32.ofNat w), iv (Int32.ofNat s0), iv (Int32.ofNat s1), iv (Int32.ofNat s2), rv b1, iv dr, iv (Int32.ofNat rr), rv b5, .unset, .unset, .unset, .unset, .unset, .unset, .unset, .unset] [(.int (if (1 : Int32) < (Int32.ofNat n) then (1 : Int32) else (0 : Int32))), (.int (Int32.ofNat s1)), (.ref b5)]))
  obtain ⟨T7, h7, X7, e7, W7, A7, st7⟩ := own_zastore X6 hx hZ e6 A6 (i := s1) rfl hl_s1 (g := (mkF m 160 #[iv wa, iv wb, iv wc, iv wd, iv (Int32.ofNat n), iv (Int32.ofNat s0), iv fl, iv (Int32.ofNat w), iv (Int32.ofNat s0), iv (Int32.ofNat s1), iv (Int32.ofNat s2), rv b1, iv dr, iv (Int32.ofNat rr), rv b5, .unset, .unset, .unset, .unset, .unset, .unset, .unset, .unset] [(.int (if (1 : Int32) < (Int32.ofNat n) then (1 : Int32) else (0 : Int32))), (.int (Int32.ofNat s1)), (.ref b5)])) rfl rfl (hb hby at_160)
  have V_rn_7 := V_rn_6.other W7 ne_b1_b5
  have Z7 : n0 ≤ h7.size := Nat.le_trans Z6 (Keep.of_wr W7).1
  have N7 := Fr.snoc X7 N6 g_b5
  refine own_go st7 ?_
  show OwnFin p e below s _ _ _ (T7.setTop (mkF m 161 #[iv wa, iv wb, iv wc, iv wd, iv (Int32.ofNat n), iv (Int32.ofNat s0), iv fl, iv (Int32.ofNat w), iv (Int32.ofNat s0), iv (Int32.ofNat s1), iv (Int32.ofNat s2), rv b1, iv dr, iv (Int32.ofNat rr), rv b5, .unset, .unset, .unset, .unset, .unset, .unset, .unset, .unset] []))
  refine own_go (fun t_ k_ => XS.aload X7.here hx rfl (hb hby at_161) rfl rfl k_) ?_
  show OwnFin p e below s _ _ _ (T7.setTop (mkF m 163 #[iv wa, iv wb, iv wc, iv wd, iv (Int32.ofNat n), iv (Int32.ofNat s0), iv fl, iv (Int32.ofNat w), iv (Int32.ofNat s0), iv (Int32.ofNat s1), iv (Int32.ofNat s2), rv b1, iv dr, iv (Int32.ofNat rr), rv b5, .unset, .unset, .unset, .unset, .unset, .unset, .unset, .unset] [(.ref b5)]))
  refine own_go (fun t_ k_ => XS.iload X7.here hx rfl (hb hby at_163) rfl k_) ?_
  show OwnFin p e below s _ _ _ (T7.setTop (mkF m 165 #[iv wa, iv wb, iv wc, iv wd, iv (Int32.ofNat n), iv (Int32.ofNat s0), iv fl, iv (Int32.ofNat w), iv (Int32.ofNat s0), iv (Int32.ofNat s1), iv (Int32.ofNat s2), rv b1, iv dr, iv (Int32.ofNat rr), rv b5, .unset, .unset, .unset, .unset, .unset, .unset, .unset, .unset] [(.int (Int32.ofNat s2)), (.ref b5)]))
  refine own_go (fun t_ k_ => XS.iload X7.here hx rfl (hb hby at_165) rfl k_) ?_
  show OwnFin p e below s _ _ _ (T7.setTop (mkF m 167 #[iv wa, iv wb, iv wc, iv wd, iv (Int32.ofNat n), iv (Int32.ofNat s0), iv fl, iv (Int32.ofNat w), iv (Int32.ofNat s0), iv (Int32.ofNat s1), iv (Int32.ofNat s2), rv b1, iv dr, iv (Int32.ofNat rr), rv b5, .unset, .unset, .unset, .unset, .unset, .unset, .unset, .unset] [(.int (Int32.ofNat n)), (.int (Int32.ofNat s2)), (.ref b5)]))
  refine own_go (fun t_ k_ => XS.iconst X7.here hx rfl (hb hby at_167) k_) ?_
  show OwnFin p e below s _ _ _ (T7.setTop (mkF m 168 #[iv wa, iv wb, iv wc, iv wd, iv (Int32.ofNat n), iv (Int32.ofNat s0), iv fl, iv (Int32.ofNat w), iv (Int32.ofNat s0), iv (Int32.ofNat s1), iv (Int32.ofNat s2), rv b1, iv dr, iv (Int32.ofNat rr), rv b5, .unset, .unset, .unset, .unset, .unset, .unset, .unset, .unset] [(.int (2 : Int32)), (.int (Int32.ofNat n)), (.int (Int32.ofNat s2)), (.ref b5)]))
  refine own_go (B := T7.setTop (mkF m 176 #[iv wa, iv wb, iv wc, iv wd, iv (Int32.ofNat n), iv (Int32.ofNat s0), iv fl, iv (Int32.ofNat w), iv (Int32.ofNat s0), iv (Int32.ofNat s1), iv (Int32.ofNat s2), rv b1, iv dr, iv (Int32.ofNat rr), rv b5, .unset, .unset, .unset, .unset, .unset, .unset, .unset, .unset] [(.int (if (2 : Int32) < (Int32.ofNat n) then (1 : Int32) else (0 : Int32))), (.int (Int32.ofNat s2)), (.ref b5)])) (fun t_ k_ => ?_) ?_
  · by_cases hm168 : (2 : Int32) < (Int32.ofNat n)
    · rw [if_pos hm168] at k_; exact XS.icmpNo X7.here hx rfl (hb hby at_168) rfl (tlt hm168).2.2.2 (XS.iconst X7.here hx rfl (hb hby at_171) (XS.goto X7.here hx rfl (pc0 := 172) (pc' := 176) rfl (hb hby at_172) (by decide) (by decide) k_))
    · rw [if_neg hm168] at k_; exact XS.icmpYes X7.here hx rfl (pc0 := 168) (pc' := 175) rfl (hb hby at_168) rfl (flt hm168).2.2.2 (by decide) (by decide) (XS.iconst X7.here hx rfl (hb hby at_175) k_)
  show OwnFin p e below s _ _ _ (T7.setTop (mkF m 176 #[iv wa, iv wb, iv wc, iv wd, iv (Int32.ofNat n), iv (Int32.ofNat s0), iv fl, iv (Int32.ofNat w), iv (Int32.ofNat s0), iv (Int32.ofNat s1), iv (Int32.ofNat s2), rv b1, iv dr, iv (Int32.ofNat rr), rv b5, .unset, .unset, .unset, .unset, .unset, .unset, .unset, .unset] [(.int (if (2 : Int32) < (Int32.ofNat n) then (1 : Int32) else (0 : Int32))), (.int (Int32.ofNat s2)), (.ref b5)]))
  obtain ⟨T8, h8, X8, e8, W8, A8, st8⟩ := own_zastore X7 hx hZ e7 A7 (i := s2) rfl hl_s2 (g := (mkF m 176 #[iv wa, iv wb, iv wc, iv wd, iv (Int32.ofNat n), iv (Int32.ofNat s0), iv fl, iv (Int32.ofNat w), iv (Int32.ofNat s0), iv (Int32.ofNat s1), iv (Int32.ofNat s2), rv b1, iv dr, iv (Int32.ofNat rr), rv b5, .unset, .unset, .unset, .unset, .unset, .unset, .unset, .unset] [(.int (if (2 : Int32) < (Int32.ofNat n) then (1 : Int32) else (0 : Int32))), (.int (Int32.ofNat s2)), (.ref b5)])) rfl rfl (hb hby at_176)
  have V_rn_8 := V_rn_7.other W8 ne_b1_b5
  have Z8 : n0 ≤ h8.size := Nat.le_trans Z7 (Keep.of_wr W8).1
  have N8 := Fr.snoc X8 N7 g_b5
  refine own_go st8 ?_
  show OwnFin p e below s _ _ _ (T8.setTop (mkF m 177 #[iv wa, iv wb, iv wc, iv wd, iv (Int32.ofNat n), iv (Int32.ofNat s0), iv fl, iv (Int32.ofNat w), iv (Int32.ofNat s0), iv (Int32.ofNat s1), iv (Int32.ofNat s2), rv b1, iv dr, iv (Int32.ofNat rr), rv b5, .unset, .unset, .unset, .unset, .unset, .unset, .unset, .unset] []))
  have V_pr : OwnArr Z h8 b5 .boolean 3 (fun k => .int (own_pr n s0 s1 s2 k)) := A8.congr (fun z hz => own_prE hn4 s0 s1 s2 z)
  refine own_go (fun t_ k_ => XS.iconst X8.here hx rfl (hb hby at_177) k_) ?_
  show OwnFin p e below s _ _ _ (T8.setTop (mkF m 178 #[iv wa, iv wb, iv wc, iv wd, iv (Int32.ofNat n), iv (Int32.ofNat s0), iv fl, iv (Int32.ofNat w), iv (Int32.ofNat s0), iv (Int32.ofNat s1), iv (Int32.ofNat s2), rv b1, iv dr, iv (Int32.ofNat rr), rv b5, .unset, .unset, .unset, .unset, .unset, .unset, .unset, .unset] [(.int (3 : Int32))]))
  obtain ⟨T9, h9, X9, e9, E9, A9, st9⟩ := own_newarr X8 hx hZ (hw _ (List.mem_of_getElem? (i := 0) rfl)) e8 (g := (mkF m 178 #[iv wa, iv wb, iv wc, iv wd, iv (Int32.ofNat n), iv (Int32.ofNat s0), iv fl, iv (Int32.ofNat w), iv (Int32.ofNat s0), iv (Int32.ofNat s1), iv (Int32.ofNat s2), rv b1, iv dr, iv (Int32.ofNat rr), rv b5, .unset, .unset, .unset, .unset, .unset, .unset, .unset, .unset] [(.int (3 : Int32))])) rfl (hb hby at_178) rfl (n := 3) (cap := 3) (by decide) (by decide) (by decide) (by decide) (by decide)
  obtain ⟨b9, g9⟩ : ∃ z, z = h8.size := ⟨_, rfl⟩
  rw [← g9] at A9 st9
  have g_b9 : n0 ≤ b9 := Nat.le_trans Z8 (Nat.le_of_eq g9.symm)
  have ne_b1_b9 : b1 ≠ b9 := Nat.ne_of_lt (Nat.lt_of_lt_of_le V_rn_8.lt (Nat.le_of_eq g9.symm))
  have ne_b5_b9 : b5 ≠ b9 := Nat.ne_of_lt (Nat.lt_of_lt_of_le V_pr.lt (Nat.le_of_eq g9.symm))
  have V_rn_9 := V_rn_8.ext E9
  have V_pr_9 := V_pr.ext E9
  have Z9 : n0 ≤ h9.size := Nat.le_trans Z8 E9.1
  have V_b9 : OwnArr Z h9 b9 .int 3 (fun _ => (.int (0 : Int32))) := A9
  refine own_go st9 ?_
  show OwnFin p e below s _ _ _ (T9.setTop (mkF m 180 #[iv wa, iv wb, iv wc, iv wd, iv (Int32.ofNat n), iv (Int32.ofNat s0), iv fl, iv (Int32.ofNat w), iv (Int32.ofNat s0), iv (Int32.ofNat s1), iv (Int32.ofNat s2), rv b1, iv dr, iv (Int32.ofNat rr), rv b5, .unset, .unset, .unset, .unset, .unset, .unset, .unset, .unset] [(.ref b9)]))
  refine own_go (fun t_ k_ => XS.dup X9.here hx rfl (hb hby at_180) rfl rfl k_) ?_
  show OwnFin p e below s _ _ _ (T9.setTop (mkF m 181 #[iv wa, iv wb, iv wc, iv wd, iv (Int32.ofNat n), iv (Int32.ofNat s0), iv fl, iv (Int32.ofNat w), iv (Int32.ofNat s0), iv (Int32.ofNat s1), iv (Int32.ofNat s2), rv b1, iv dr, iv (Int32.ofNat rr), rv b5, .unset, .unset, .unset, .unset, .unset, .unset, .unset, .unset] [(.ref b9), (.ref b9)]))
  refine own_go (fun t_ k_ => XS.iconst X9.here hx rfl (hb hby at_181) k_) ?_
  show OwnFin p e below s _ _ _ (T9.setTop (mkF m 182 #[iv wa, iv wb, iv wc, iv wd, iv (Int32.ofNat n), iv (Int32.ofNat s0), iv fl, iv (Int32.ofNat w), iv (Int32.ofNat s0), iv (Int32.ofNat s1), iv (Int32.ofNat s2), rv b1, iv dr, iv (Int32.ofNat rr), rv b5, .unset, .unset, .unset, .unset, .unset, .unset, .unset, .unset] [(.int (0 : Int32)), (.ref b9), (.ref b9)]))
  refine own_go (fun t_ k_ => XS.iconst X9.here hx rfl (hb hby at_182) k_) ?_
  show OwnFin p e below s _ _ _ (T9.setTop (mkF m 183 #[iv wa, iv wb, iv wc, iv wd, iv (Int32.ofNat n), iv (Int32.ofNat s0), iv fl, iv (Int32.ofNat w), iv (Int32.ofNat s0), iv (Int32.ofNat s1), iv (Int32.ofNat s2), rv b1, iv dr, iv (Int32.ofNat rr), rv b5, .unset, .unset, .unset, .unset, .unset, .unset, .unset, .unset] [(.int (-1 : Int32)), (.int (0 : Int32)), (.ref b9), (.ref b9)]))
  obtain ⟨T10, h10, X10, e10, W10, A10, st10⟩ := own_iastore X9 hx hZ e9 V_b9 (i := 0) (by decide) (by decide) (g := (mkF m 183 #[iv wa, iv wb, iv wc, iv wd, iv (Int32.ofNat n), iv (Int32.ofNat s0), iv fl, iv (Int32.ofNat w), iv (Int32.ofNat s0), iv (Int32.ofNat s1), iv (Int32.ofNat s2), rv b1, iv dr, iv (Int32.ofNat rr), rv b5, .unset, .unset, .unset, .unset, .unset, .unset, .unset, .unset] [(.int (-1 : Int32)), (.int (0 : Int32)), (.ref b9), (.ref b9)])) rfl rfl (hb hby at_183)
  have V_rn_10 := V_rn_9.other W10 ne_b1_b9
  have V_pr_10 := V_pr_9.other W10 ne_b5_b9
  have Z10 : n0 ≤ h10.size := Nat.le_trans Z9 (Keep.of_wr W10).1
  have N10 := Fr.snoc X10 N8 g_b9
  refine own_go st10 ?_
  show OwnFin p e below s _ _ _ (T10.setTop (mkF m 184 #[iv wa, iv wb, iv wc, iv wd, iv (Int32.ofNat n), iv (Int32.ofNat s0), iv fl, iv (Int32.ofNat w), iv (Int32.ofNat s0), iv (Int32.ofNat s1), iv (Int32.ofNat s2), rv b1, iv dr, iv (Int32.ofNat rr), rv b5, .unset, .unset, .unset, .unset, .unset, .unset, .unset, .unset] [(.ref b9)]))
  refine own_go (fun t_ k_ => XS.dup X10.here hx rfl (hb hby at_184) rfl rfl k_) ?_
  show OwnFin p e below s _ _ _ (T10.setTop (mkF m 185 #[iv wa, iv wb, iv wc, iv wd, iv (Int32.ofNat n), iv (Int32.ofNat s0), iv fl, iv (Int32.ofNat w), iv (Int32.ofNat s0), iv (Int32.ofNat s1), iv (Int32.ofNat s2), rv b1, iv dr, iv (Int32.ofNat rr), rv b5, .unset, .unset, .unset, .unset, .unset, .unset, .unset, .unset] [(.ref b9), (.ref b9)]))
  refine own_go (fun t_ k_ => XS.iconst X10.here hx rfl (hb hby at_185) k_) ?_
  show OwnFin p e below s _ _ _ (T10.setTop (mkF m 186 #[iv wa, iv wb, iv wc, iv wd, iv (Int32.ofNat n), iv (Int32.ofNat s0), iv fl, iv (Int32.ofNat w), iv (Int32.ofNat s0), iv (Int32.ofNat s1), iv (Int32.ofNat s2), rv b1, iv dr, iv (Int32.ofNat rr), rv b5, .unset, .unset, .unset, .unset, .unset, .unset, .unset, .unset] [(.int (1 : Int32)), (.ref b9), (.ref b9)]))
  refine own_go (fun t_ k_ => XS.iconst X10.here hx rfl (hb hby at_186) k_) ?_
  show OwnFin p e below s _ _ _ (T10.setTop (mkF m 187 #[iv wa, iv wb, iv wc, iv wd, iv (Int32.ofNat n), iv (Int32.ofNat s0), iv fl, iv (Int32.ofNat w), iv (Int32.ofNat s0), iv (Int32.ofNat s1), iv (Int32.ofNat s2), rv b1, iv dr, iv (Int32.ofNat rr), rv b5, .unset, .unset, .unset, .unset, .unset, .unset, .unset, .unset] [(.int (-1 : Int32)), (.int (1 : Int32)), (.ref b9), (.ref b9)]))
  obtain ⟨T11, h11, X11, e11, W11, A11, st11⟩ := own_iastore X10 hx hZ e10 A10 (i := 1) (by decide) (by decide) (g := (mkF m 187 #[iv wa, iv wb, iv wc, iv wd, iv (Int32.ofNat n), iv (Int32.ofNat s0), iv fl, iv (Int32.ofNat w), iv (Int32.ofNat s0), iv (Int32.ofNat s1), iv (Int32.ofNat s2), rv b1, iv dr, iv (Int32.ofNat rr), rv b5, .unset, .unset, .unset, .unset, .unset, .unset, .unset, .unset] [(.int (-1 : Int32)), (.int (1 : Int32)), (.ref b9), (.ref b9)])) rfl rfl (hb hby at_187)
  have V_rn_11 := V_rn_10.other W11 ne_b1_b9
  have V_pr_11 := V_pr_10.other W11 ne_b5_b9
  have Z11 : n0 ≤ h11.size := Nat.le_trans Z10 (Keep.of_wr W11).1
  have N11 := Fr.snoc X11 N10 g_b9
  refine own_go st11 ?_
  show OwnFin p e below s _ _ _ (T11.setTop (mkF m 188 #[iv wa, iv wb, iv wc, iv wd, iv (Int32.ofNat n), iv (Int32.ofNat s0), iv fl, iv (Int32.ofNat w), iv (Int32.ofNat s0), iv (Int32.ofNat s1), iv (Int32.ofNat s2), rv b1, iv dr, iv (Int32.ofNat rr), rv b5, .unset, .unset, .unset, .unset, .unset, .unset, .unset, .unset] [(.ref b9)]))
  refine own_go (fun t_ k_ => XS.dup X11.here hx rfl (hb hby at_188) rfl rfl k_) ?_
  show OwnFin p e below s _ _ _ (T11.setTop (mkF m 189 #[iv wa, iv wb, iv wc, iv wd, iv (Int32.ofNat n), iv (Int32.ofNat s0), iv fl, iv (Int32.ofNat w), iv (Int32.ofNat s0), iv (Int32.ofNat s1), iv (Int32.ofNat s2), rv b1, iv dr, iv (Int32.ofNat rr), rv b5, .unset, .unset, .unset, .unset, .unset, .unset, .unset, .unset] [(.ref b9), (.ref b9)]))
  refine own_go (fun t_ k_ => XS.iconst X11.here hx rfl (hb hby at_189) k_) ?_
  show OwnFin p e below s _ _ _ (T11.setTop (mkF m 190 #[iv wa, iv wb, iv wc, iv wd, iv (Int32.ofNat n), iv (Int32.ofNat s0), iv fl, iv (Int32.ofNat w), iv (Int32.ofNat s0), iv (Int32.ofNat s1), iv (Int32.ofNat s2), rv b1, iv dr, iv (Int32.ofNat rr), rv b5, .unset, .unset, .unset, .unset, .unset, .unset, .unset, .unset] [(.int (2 : Int32)), (.ref b9), (.ref b9)]))
  refine own_go (fun t_ k_ => XS.iconst X11.here hx rfl (hb hby at_190) k_) ?_
  show OwnFin p e below s _ _ _ (T11.setTop (mkF m 191 #[iv wa, iv wb, iv wc, iv wd, iv (Int32.ofNat n), iv (Int32.ofNat s0), iv fl, iv (Int32.ofNat w), iv (Int32.ofNat s0), iv (Int32.ofNat s1), iv (Int32.ofNat s2), rv b1, iv dr, iv (Int32.ofNat rr), rv b5, .unset, .unset, .unset, .unset, .unset, .unset, .unset, .unset] [(.int (-1 : Int32)), (.int (2 : Int32)), (.ref b9), (.ref b9)]))
  obtain ⟨T12, h12, X12, e12, W12, A12, st12⟩ := own_iastore X11 hx hZ e11 A11 (i := 2) (by decide) (by decide) (g := (mkF m 191 #[iv wa, iv wb, iv wc, iv wd, iv (Int32.ofNat n), iv (Int32.ofNat s0), iv fl, iv (Int32.ofNat w), iv (Int32.ofNat s0), iv (Int32.ofNat s1), iv (Int32.ofNat s2), rv b1, iv dr, iv (Int32.ofNat rr), rv b5, .unset, .unset, .unset, .unset, .unset, .unset, .unset, .unset] [(.int (-1 : Int32)), (.int (2 : Int32)), (.ref b9), (.ref b9)])) rfl rfl (hb hby at_191)
  have V_rn_12 := V_rn_11.other W12 ne_b1_b9
  have V_pr_12 := V_pr_11.other W12 ne_b5_b9
  have Z12 : n0 ≤ h12.size := Nat.le_trans Z11 (Keep.of_wr W12).1
  have N12 := Fr.snoc X12 N11 g_b9
  refine own_go st12 ?_
  show OwnFin p e below s _ _ _ (T12.setTop (mkF m 192 #[iv wa, iv wb, iv wc, iv wd, iv (Int32.ofNat n), iv (Int32.ofNat s0), iv fl, iv (Int32.ofNat w), iv (Int32.ofNat s0), iv (Int32.ofNat s1), iv (Int32.ofNat s2), rv b1, iv dr, iv (Int32.ofNat rr), rv b5, .unset, .unset, .unset, .unset, .unset, .unset, .unset, .unset] [(.ref b9)]))
  refine own_go (fun t_ k_ => XS.astore X12.here hx rfl (hb hby at_192) rfl rfl (l' := #[iv wa, iv wb, iv wc, iv wd, iv (Int32.ofNat n), iv (Int32.ofNat s0), iv fl, iv (Int32.ofNat w), iv (Int32.ofNat s0), iv (Int32.ofNat s1), iv (Int32.ofNat s2), rv b1, iv dr, iv (Int32.ofNat rr), rv b5, rv b9, .unset, .unset, .unset, .unset, .unset, .unset, .unset]) rfl k_) ?_
  show OwnFin p e below s _ _ _ (T12.setTop (mkF m 194 #[iv wa, iv wb, iv wc, iv wd, iv (Int32.ofNat n), iv (Int32.ofNat s0), iv fl, iv (Int32.ofNat w), iv (Int32.ofNat s0), iv (Int32.ofNat s1), iv (Int32.ofNat s2), rv b1, iv dr, iv (Int32.ofNat rr), rv b5, rv b9, .unset, .unset, .unset, .unset, .unset, .unset, .unset] []))
  have V_e0 : OwnArr Z h12 b9 .int 3 (fun _ => .int (-1)) := A12.congr (own_3c rfl rfl rfl)
  refine own_go (fun t_ k_ => XS.aload X12.here hx rfl (hb hby at_194) rfl rfl k_) ?_
  show OwnFin p e below s _ _ _ (T12.setTop (mkF m 196 #[iv wa, iv wb, iv wc, iv wd, iv (Int32.ofNat n), iv (Int32.ofNat s0), iv fl, iv (Int32.ofNat w), iv (Int32.ofNat s0), iv (Int32.ofNat s1), iv (Int32.ofNat s2), rv b1, iv dr, iv (Int32.ofNat rr), rv b5, rv b9, .unset, .unset, .unset, .unset, .unset, .unset, .unset] [(.ref b9)]))
  refine own_go (fun t_ k_ => XS.aload X12.here hx rfl (hb hby at_196) rfl rfl k_) ?_
  show OwnFin p e below s _ _ _ (T12.setTop (mkF m 198 #[iv wa, iv wb, iv wc, iv wd, iv (Int32.ofNat n), iv (Int32.ofNat s0), iv fl, iv (Int32.ofNat w), iv (Int32.ofNat s0), iv (Int32.ofNat s1), iv (Int32.ofNat s2), rv b1, iv dr, iv (Int32.ofNat rr), rv b5, rv b9, .unset, .unset, .unset, .unset, .unset, .unset, .unset] [(.ref b5), (.ref b9)]))
  refine own_go (fun t_ k_ => XS.aload X12.here hx rfl (hb hby at_198) rfl rfl k_) ?_
  show OwnFin p e below s _ _ _ (T12.setTop (mkF m 200 #[iv wa, iv wb, iv wc, iv wd, iv (Int32.ofNat n), iv (Int32.ofNat s0), iv fl, iv (Int32.ofNat w), iv (Int32.ofNat s0), iv (Int32.ofNat s1), iv (Int32.ofNat s2), rv b1, iv dr, iv (Int32.ofNat rr), rv b5, rv b9, .unset, .unset, .unset, .unset, .unset, .unset, .unset] [(.ref b1), (.ref b5), (.ref b9)]))
  refine own_go (fun t_ k_ => XS.iconst X12.here hx rfl (hb hby at_200) k_) ?_
  show OwnFin p e below s _ _ _ (T12.setTop (mkF m 201 #[iv wa, iv wb, iv wc, iv wd, iv (Int32.ofNat n), iv (Int32.ofNat s0), iv fl, iv (Int32.ofNat w), iv (Int32.ofNat s0), iv (Int32.ofNat s1), iv (Int32.ofNat s2), rv b1, iv dr, iv (Int32.ofNat rr), rv b5, rv b9, .unset, .unset, .unset, .unset, .unset, .unset, .unset] [(.int (0 : Int32)), (.ref b1), (.ref b5), (.ref b9)]))
  obtain ⟨v13, T13, L13, X13, hQ13, st13⟩ := own_callS X12 hx hZ (y := (⟨"com/example/nearside/nearside/slotted/delay/FairBackNextPinLaw", "place", "([I[Z[II)V"⟩ : MethodName)) hown (hw _ (List.mem_of_getElem? (i := 2) rfl)) (hw _ (List.mem_of_getElem? (i := 3) rfl)) (hw _ (List.mem_of_getElem? (i := 4) rfl)) (hw _ (List.mem_of_getElem? (i := 5) rfl)) (by decide) (W := 0) (rm1 l Z a0 hw [] b9 b5 b1 (0 : Int32) 0 _ (own_pr n s0 s1 s2) (own_rn q0 q1 q2) h12 n0 Z12 rfl (by decide) V_e0 V_pr_12 V_rn_12 (Ne.symm ne_b5_b9) (Ne.symm ne_b1_b9) g_b9) (by decide) (by decide) (g := (mkF m 201 #[iv wa, iv wb, iv wc, iv wd, iv (Int32.ofNat n), iv (Int32.ofNat s0), iv fl, iv (Int32.ofNat w), iv (Int32.ofNat s0), iv (Int32.ofNat s1), iv (Int32.ofNat s2), rv b1, iv dr, iv (Int32.ofNat rr), rv b5, rv b9, .unset, .unset, .unset, .unset, .unset, .unset, .unset] [(.int (0 : Int32)), (.ref b1), (.ref b5), (.ref b9)])) rfl (by rw [hml]; rfl) (argsL := [(.ref b9), (.ref b5), (.ref b1), (.int (0 : Int32))]) (rest := []) (lenOf pd_0_0 rfl) rfl (by show 2 * 0 + _ ≤ _; exact Nat.le_of_eq rfl) (hb hby at_201) e12 rfl (by decide) (by decide)
  obtain ⟨rfl, Nq13, Kq13, Vq13⟩ := hQ13
  have N13 := Fr.app N12 Nq13
  have V_rn_13 := V_rn_12.keep Kq13 (ninS ne_b1_b9 nin0)
  have V_pr_13 := V_pr_12.keep Kq13 (ninS ne_b5_b9 nin0)
  have Z13 : n0 ≤ T13.heap.size := Nat.le_trans Z12 Kq13.1
  refine own_go st13 ?_
  show OwnFin p e below s _ _ _ (T13.setTop (mkF m 204 #[iv wa, iv wb, iv wc, iv wd, iv (Int32.ofNat n), iv (Int32.ofNat s0), iv fl, iv (Int32.ofNat w), iv (Int32.ofNat s0), iv (Int32.ofNat s1), iv (Int32.ofNat s2), rv b1, iv dr, iv (Int32.ofNat rr), rv b5, rv b9, .unset, .unset, .unset, .unset, .unset, .unset, .unset] []))
  refine own_go (fun t_ k_ => XS.aload X13.here hx rfl (hb hby at_204) rfl rfl k_) ?_
  show OwnFin p e below s _ _ _ (T13.setTop (mkF m 206 #[iv wa, iv wb, iv wc, iv wd, iv (Int32.ofNat n), iv (Int32.ofNat s0), iv fl, iv (Int32.ofNat w), iv (Int32.ofNat s0), iv (Int32.ofNat s1), iv (Int32.ofNat s2), rv b1, iv dr, iv (Int32.ofNat rr), rv b5, rv b9, .unset, .unset, .unset, .unset, .unset, .unset, .unset] [(.ref b9)]))
  refine own_go (fun t_ k_ => XS.aload X13.here hx rfl (hb hby at_206) rfl rfl k_) ?_
  show OwnFin p e below s _ _ _ (T13.setTop (mkF m 208 #[iv wa, iv wb, iv wc, iv wd, iv (Int32.ofNat n), iv (Int32.ofNat s0), iv fl, iv (Int32.ofNat w), iv (Int32.ofNat s0), iv (Int32.ofNat s1), iv (Int32.ofNat s2), rv b1, iv dr, iv (Int32.ofNat rr), rv b5, rv b9, .unset, .unset, .unset, .unset, .unset, .unset, .unset] [(.ref b5), (.ref b9)]))
  refine own_go (fun t_ k_ => XS.aload X13.here hx rfl (hb hby at_208) rfl rfl k_) ?_
  show OwnFin p e below s _ _ _ (T13.setTop (mkF m 210 #[iv wa, iv wb, iv wc, iv wd, iv (Int32.ofNat n), iv (Int32.ofNat s0), iv fl, iv (Int32.ofNat w), iv (Int32.ofNat s0), iv (Int32.ofNat s1), iv (Int32.ofNat s2), rv b1, iv dr, iv (Int32.ofNat rr), rv b5, rv b9, .unset, .unset, .unset, .unset, .unset, .unset, .unset] [(.ref b1), (.ref b5), (.ref b9)]))
  refine own_go (fun t_ k_ => XS.iconst X13.here hx rfl (hb hby at_210) k_) ?_
  show OwnFin p e below s _ _ _ (T13.setTop (mkF m 211 #[iv wa, iv wb, iv wc, iv wd, iv (Int32.ofNat n), iv (Int32.ofNat s0), iv fl, iv (Int32.ofNat w), iv (Int32.ofNat s0), iv (Int32.ofNat s1), iv (Int32.ofNat s2), rv b1, iv dr, iv (Int32.ofNat rr), rv b5, rv b9, .unset, .unset, .unset, .unset, .unset, .unset, .unset] [(.int (1 : Int32)), (.ref b1), (.ref b5), (.ref b9)]))
  obtain ⟨v14, T14, L14, X14, hQ14, st14⟩ := own_callS X13 hx hZ (y := (⟨"com/example/nearside/nearside/slotted/delay/FairBackNextPinLaw", "place", "([I[Z[II)V"⟩ : MethodName)) hown (hw _ (List.mem_of_getElem? (i := 2) rfl)) (hw _ (List.mem_of_getElem? (i := 3) rfl)) (hw _ (List.mem_of_getElem? (i := 4) rfl)) (hw _ (List.mem_of_getElem? (i := 5) rfl)) (by decide) (W := 0) (rm1 l Z a0 hw [] b9 b5 b1 (1 : Int32) 1 _ (own_pr n s0 s1 s2) (own_rn q0 q1 q2) T13.heap n0 Z13 rfl (by decide) Vq13 V_pr_13 V_rn_13 (Ne.symm ne_b5_b9) (Ne.symm ne_b1_b9) g_b9) (by decide) (by decide) (g := (mkF m 211 #[iv wa, iv wb, iv wc, iv wd, iv (Int32.ofNat n), iv (Int32.ofNat s0), iv fl, iv (Int32.ofNat w), iv (Int32.ofNat s0), iv (Int32.ofNat s1), iv (Int32.ofNat s2), rv b1, iv dr, iv (Int32.ofNat rr), rv b5, rv b9, .unset, .unset, .unset, .unset, .unset, .unset, .unset] [(.int (1 : Int32)), (.ref b1), (.ref b5), (.ref b9)])) rfl (by rw [hml]; rfl) (argsL := [(.ref b9), (.ref b5), (.ref b1), (.int (1 : Int32))]) (rest := []) (lenOf pd_0_0 rfl) rfl (by show 2 * 0 + _ ≤ _; exact Nat.le_of_eq rfl) (hb hby at_211) rfl rfl (by decide) (by decide)
  obtain ⟨rfl, Nq14, Kq14, Vq14⟩ := hQ14
  have N14 := Fr.app N13 Nq14
  have V_rn_14 := V_rn_13.keep Kq14 (ninS ne_b1_b9 nin0)
  have V_pr_14 := V_pr_13.keep Kq14 (ninS ne_b5_b9 nin0)
  have Z14 : n0 ≤ T14.heap.size := Nat.le_trans Z13 Kq14.1
  refine own_go st14 ?_
  show OwnFin p e below s _ _ _ (T14.setTop (mkF m 214 #[iv wa, iv wb, iv wc, iv wd, iv (Int32.ofNat n), iv (Int32.ofNat s0), iv fl, iv (Int32.ofNat w), iv (Int32.ofNat s0), iv (Int32.ofNat s1), iv (Int32.ofNat s2), rv b1, iv dr, iv (Int32.ofNat rr), rv b5, rv b9, .unset, .unset, .unset, .unset, .unset, .unset, .unset] []))
  refine own_go (fun t_ k_ => XS.aload X14.here hx rfl (hb hby at_214) rfl rfl k_) ?_
  show OwnFin p e below s _ _ _ (T14.setTop (mkF m 216 #[iv wa, iv wb, iv wc, iv wd, iv (Int32.ofNat n), iv (Int32.ofNat s0), iv fl, iv (Int32.ofNat w), iv (Int32.ofNat s0), iv (Int32.ofNat s1), iv (Int32.ofNat s2), rv b1, iv dr, iv (Int32.ofNat rr), rv b5, rv b9, .unset, .unset, .unset, .unset, .unset, .unset, .unset] [(.ref b9)]))
  refine own_go (fun t_ k_ => XS.aload X14.here hx rfl (hb hby at_216) rfl rfl k_) ?_
  show OwnFin p e below s _ _ _ (T14.setTop (mkF m 218 #[iv wa, iv wb, iv wc, iv wd, iv (Int32.ofNat n), iv (Int32.ofNat s0), iv fl, iv (Int32.ofNat w), iv (Int32.ofNat s0), iv (Int32.ofNat s1), iv (Int32.ofNat s2), rv b1, iv dr, iv (Int32.ofNat rr), rv b5, rv b9, .unset, .unset, .unset, .unset, .unset, .unset, .unset] [(.ref b5), (.ref b9)]))
  refine own_go (fun t_ k_ => XS.aload X14.here hx rfl (hb hby at_218) rfl rfl k_) ?_
  show OwnFin p e below s _ _ _ (T14.setTop (mkF m 220 #[iv wa, iv wb, iv wc, iv wd, iv (Int32.ofNat n), iv (Int32.ofNat s0), iv fl, iv (Int32.ofNat w), iv (Int32.ofNat s0), iv (Int32.ofNat s1), iv (Int32.ofNat s2), rv b1, iv dr, iv (Int32.ofNat rr), rv b5, rv b9, .unset, .unset, .unset, .unset, .unset, .unset, .unset] [(.ref b1), (.ref b5), (.ref b9)]))
  refine own_go (fun t_ k_ => XS.iconst X14.here hx rfl (hb hby at_220) k_) ?_
  show OwnFin p e below s _ _ _ (T14.setTop (mkF m 221 #[iv wa, iv wb, iv wc, iv wd, iv (Int32.ofNat n), iv (Int32.ofNat s0), iv fl, iv (Int32.ofNat w), iv (Int32.ofNat s0), iv (Int32.ofNat s1), iv (Int32.ofNat s2), rv b1, iv dr, iv (Int32.ofNat rr), rv b5, rv b9, .unset, .unset, .unset, .unset, .unset, .unset, .unset] [(.int (2 : Int32)), (.ref b1), (.ref b5), (.ref b9)]))
  obtain ⟨v15, T15, L15, X15, hQ15, st15⟩ := own_callS X14 hx hZ (y := (⟨"com/example/nearside/nearside/slotted/delay/FairBackNextPinLaw", "place", "([I[Z[II)V"⟩ : MethodName)) hown (hw _ (List.mem_of_getElem? (i := 2) rfl)) (hw _ (List.mem_of_getElem? (i := 3) rfl)) (hw _ (List.mem_of_getElem? (i := 4) rfl)) (hw _ (List.mem_of_getElem? (i := 5) rfl)) (by decide) (W := 0) (rm1 l Z a0 hw [] b9 b5 b1 (2 : Int32) 2 _ (own_pr n s0 s1 s2) (own_rn q0 q1 q2) T14.heap n0 Z14 rfl (by decide) Vq14 V_pr_14 V_rn_14 (Ne.symm ne_b5_b9) (Ne.symm ne_b1_b9) g_b9) (by decide) (by decide) (g := (mkF m 221 #[iv wa, iv wb, iv wc, iv wd, iv (Int32.ofNat n), iv (Int32.ofNat s0), iv fl, iv (Int32.ofNat w), iv (Int32.ofNat s0), iv (Int32.ofNat s1), iv (Int32.ofNat s2), rv b1, iv dr, iv (Int32.ofNat rr), rv b5, rv b9, .unset, .unset, .unset, .unset, .unset, .unset, .unset] [(.int (2 : Int32)), (.ref b1), (.ref b5), (.ref b9)])) rfl (by rw [hml]; rfl) (argsL := [(.ref b9), (.ref b5), (.ref b1), (.int (2 : Int32))]) (rest := []) (lenOf pd_0_0 rfl) rfl (by show 2 * 0 + _ ≤ _; exact Nat.le_of_eq rfl) (hb hby at_221) rfl rfl (by decide) (by decide)
  obtain ⟨rfl, Nq15, Kq15, Vq15⟩ := hQ15
  have N15 := Fr.app N14 Nq15
  have V_rn_15 := V_rn_14.keep Kq15 (ninS ne_b1_b9 nin0)
  have V_pr_15 := V_pr_14.keep Kq15 (ninS ne_b5_b9 nin0)
  have Z15 : n0 ≤ T15.heap.size := Nat.le_trans Z14 Kq15.1
  refine own_go st15 ?_
  show OwnFin p e below s _ _ _ (T15.setTop (mkF m 224 #[iv wa, iv wb, iv wc, iv wd, iv (Int32.ofNat n), iv (Int32.ofNat s0), iv fl, iv (Int32.ofNat w), iv (Int32.ofNat s0), iv (Int32.ofNat s1), iv (Int32.ofNat s2), rv b1, iv dr, iv (Int32.ofNat rr), rv b5, rv b9, .unset, .unset, .unset, .unset, .unset, .unset, .unset] []))
  have V_e : OwnArr Z T15.heap b9 .int 3 (fun j => .int (own_e n s0 s1 s2 q0 q1 q2 j)) := Vq15
  obtain ⟨T16, h16, X16, e16, E16, A16, D16, -, st16⟩ := newO X15 hx hZ hown (hw _ (List.mem_of_getElem? (i := 6) rfl)) (hw _ (List.mem_of_getElem? (i := 7) rfl)) (hw _ (List.mem_of_getElem? (i := 8) rfl)) rfl (g := (mkF m 224 #[iv wa, iv wb, iv wc, iv wd, iv (Int32.ofNat n), iv (Int32.ofNat s0), iv fl, iv (Int32.ofNat w), iv (Int32.ofNat s0), iv (Int32.ofNat s1), iv (Int32.ofNat s2), rv b1, iv dr, iv (Int32.ofNat rr), rv b5, rv b9, .unset, .unset, .unset, .unset, .unset, .unset, .unset] [])) rfl (hb hby at_224) (by decide) (by decide)
  obtain ⟨b16, g16⟩ : ∃ z, z = T15.heap.size := ⟨_, rfl⟩
  rw [← g16] at A16 D16 st16
  have g_b16 : n0 ≤ b16 := Nat.le_trans Z15 (Nat.le_of_eq g16.symm)
  have ne_b1_b16 : b1 ≠ b16 := Nat.ne_of_lt (Nat.lt_of_lt_of_le V_rn_15.lt (Nat.le_of_eq g16.symm))
  have ne_b5_b16 : b5 ≠ b16 := Nat.ne_of_lt (Nat.lt_of_lt_of_le V_pr_15.lt (Nat.le_of_eq g16.symm))
  have ne_b9_b16 : b9 ≠ b16 := Nat.ne_of_lt (Nat.lt_of_lt_of_le V_e.lt (Nat.le_of_eq g16.symm))
  have V_rn_16 := V_rn_15.ext E16
  have V_pr_16 := V_pr_15.ext E16
  have V_e_16 := V_e.ext E16
  have Z16 : n0 ≤ h16.size := Nat.le_trans Z15 E16.1
  have E_b16 := A16
  have F_starts_b16 : Fld Z h16 b16 "com/example/nearside/nearside/slotted/delay/FairBack" "starts" "[I" .null := D16 (Or.inl (hw _ (List.mem_of_getElem? (i := 16) rfl))) (ty := (.array .int)) (by decide)
  have F_back_b16 : Fld Z h16 b16 "com/example/nearside/nearside/slotted/delay/FairBack" "back" "[I" .null := D16 (Or.inr (hw _ (List.mem_of_getElem? (i := 18) rfl))) (ty := (.array .int)) (by decide)
  have F_keys_b16 : Fld Z h16 b16 "com/example/nearside/nearside/slotted/delay/FairBack" "keys" "[J" .null := D16 (Or.inr (hw _ (List.mem_of_getElem? (i := 21) rfl))) (ty := (.array .long)) (by decide)
  have F_retaken_b16 : Fld Z h16 b16 "com/example/nearside/nearside/slotted/delay/FairBack" "retaken" "[J" .null := D16 (Or.inr (hw _ (List.mem_of_getElem? (i := 23) rfl))) (ty := (.array .long)) (by decide)
  have F_positions_b16 : Fld Z h16 b16 "com/example/nearside/nearside/slotted/delay/FairBack" "positions" "[I" .null := D16 (Or.inl (hw _ (List.mem_of_getElem? (i := 25) rfl))) (ty := (.array .int)) (by decide)
  have F_offeredFrom_b16 : Fld Z h16 b16 "com/example/nearside/nearside/slotted/delay/FairBack" "offeredFrom" "[I" .null := D16 (Or.inl (hw _ (List.mem_of_getElem? (i := 27) rfl))) (ty := (.array .int)) (by decide)
  have F_size_b16 : Fld Z h16 b16 "com/example/nearside/nearside/slotted/delay/FairBack" "size" "I" (.int (0 : Int32)) := D16 (Or.inl (hw _ (List.mem_of_getElem? (i := 34) rfl))) (ty := .int) (by decide)
  have F_sorted_b16 : Fld Z h16 b16 "com/example/nearside/nearside/slotted/delay/FairBack" "sorted" "I" (.int (0 : Int32)) := D16 (Or.inl (hw _ (List.mem_of_getElem? (i := 43) rfl))) (ty := .int) (by decide)
  have F_nextKey_b16 : Fld Z h16 b16 "com/example/nearside/nearside/slotted/delay/FairBack" "nextKey" "I" (.int (0 : Int32)) := D16 (Or.inl (hw _ (List.mem_of_getElem? (i := 45) rfl))) (ty := .int) (by decide)
  have F_retakenAt_b16 : Fld Z h16 b16 "com/example/nearside/nearside/slotted/delay/FairBack" "retakenAt" "I" (.int (0 : Int32)) := D16 (Or.inl (hw _ (List.mem_of_getElem? (i := 47) rfl))) (ty := .int) (by decide)
  have F_retakenEnd_b16 : Fld Z h16 b16 "com/example/nearside/nearside/slotted/delay/FairBack" "retakenEnd" "I" (.int (0 : Int32)) := D16 (Or.inl (hw _ (List.mem_of_getElem? (i := 49) rfl))) (ty := .int) (by decide)
  refine own_go st16 ?_
  show OwnFin p e below s _ _ _ (T16.setTop (mkF m 227 #[iv wa, iv wb, iv wc, iv wd, iv (Int32.ofNat n), iv (Int32.ofNat s0), iv fl, iv (Int32.ofNat w), iv (Int32.ofNat s0), iv (Int32.ofNat s1), iv (Int32.ofNat s2), rv b1, iv dr, iv (Int32.ofNat rr), rv b5, rv b9, .unset, .unset, .unset, .unset, .unset, .unset, .unset] [(.ref b16)]))
  refine own_go (fun t_ k_ => XS.dup X16.here hx rfl (hb hby at_227) rfl rfl k_) ?_
  show OwnFin p e below s _ _ _ (T16.setTop (mkF m 228 #[iv wa, iv wb, iv wc, iv wd, iv (Int32.ofNat n), iv (Int32.ofNat s0), iv fl, iv (Int32.ofNat w), iv (Int32.ofNat s0), iv (Int32.ofNat s1), iv (Int32.ofNat s2), rv b1, iv dr, iv (Int32.ofNat rr), rv b5, rv b9, .unset, .unset, .unset, .unset, .unset, .unset, .unset] [(.ref b16), (.ref b16)]))
  refine own_go (fun t_ k_ => XS.iconst X16.here hx rfl (hb hby at_228) k_) ?_
  show OwnFin p e below s _ _ _ (T16.setTop (mkF m 229 #[iv wa, iv wb, iv wc, iv wd, iv (Int32.ofNat n), iv (Int32.ofNat s0), iv fl, iv (Int32.ofNat w), iv (Int32.ofNat s0), iv (Int32.ofNat s1), iv (Int32.ofNat s2), rv b1, iv dr, iv (Int32.ofNat rr), rv b5, rv b9, .unset, .unset, .unset, .unset, .unset, .unset, .unset] [(.int (3 : Int32)), (.ref b16), (.ref b16)]))
  refine own_go (fun t_ k_ => XS.iconst X16.here hx rfl (hb hby at_229) k_) ?_
  show OwnFin p e below s _ _ _ (T16.setTop (mkF m 230 #[iv wa, iv wb, iv wc, iv wd, iv (Int32.ofNat n), iv (Int32.ofNat s0), iv fl, iv (Int32.ofNat w), iv (Int32.ofNat s0), iv (Int32.ofNat s1), iv (Int32.ofNat s2), rv b1, iv dr, iv (Int32.ofNat rr), rv b5, rv b9, .unset, .unset, .unset, .unset, .unset, .unset, .unset] [(.int (3 : Int32)), (.int (3 : Int32)), (.ref b16), (.ref b16)]))
  obtain ⟨v17, T17, L17, X17, hQ17, st17⟩ := own_callI X16 hx hZ (y := (⟨"com/example/nearside/nearside/slotted/delay/FairBack", "<init>", "(II)V"⟩ : MethodName)) rfl hown (hw _ (List.mem_of_getElem? (i := 9) rfl)) (hw _ (List.mem_of_getElem? (i := 10) rfl)) (hw _ (List.mem_of_getElem? (i := 8) rfl)) (hw _ (List.mem_of_getElem? (i := 11) rfl)) (by decide) (W := 1) (rm2 l Z a0 hw [] b16 h16 n0 Z16 E_b16 F_back_b16 F_keys_b16 F_retaken_b16 F_positions_b16 F_offeredFrom_b16 F_starts_b16 F_size_b16 F_sorted_b16 F_nextKey_b16 F_retakenAt_b16 F_retakenEnd_b16 g_b16) (by decide) (by decide) (g := (mkF m 230 #[iv wa, iv wb, iv wc, iv wd, iv (Int32.ofNat n), iv (Int32.ofNat s0), iv fl, iv (Int32.ofNat w), iv (Int32.ofNat s0), iv (Int32.ofNat s1), iv (Int32.ofNat s2), rv b1, iv dr, iv (Int32.ofNat rr), rv b5, rv b9, .unset, .unset, .unset, .unset, .unset, .unset, .unset] [(.int (3 : Int32)), (.int (3 : Int32)), (.ref b16), (.ref b16)])) rfl (by rw [hml]; rfl) (a := b16) (argsL := [(.int (3 : Int32)), (.int (3 : Int32))]) (rest := [(.ref b16)]) (lenOf pd_0_1 rfl) rfl (by show 2 * 0 + _ ≤ _; exact Nat.le_of_eq rfl) (hb hby at_230) e16 rfl (by decide) (by decide)
  obtain ⟨aB, aK, aT, aP, aO, aS, rfl, Nq17, Kq17, Eq17, Fq17_back, Fq17_keys, Fq17_retaken, Fq17_positions, Fq17_offeredFrom, Fq17_starts, Fq17_size, Fq17_sorted, Fq17_nextKey, Fq17_retakenAt, Fq17_retakenEnd, sq_aB, sq_aK, sq_aT, sq_aP, sq_aO, sq_aS, ne_aB_aK, ne_aB_aT, ne_aB_aP, ne_aB_aO, ne_aB_aS, ne_aK_aT, ne_aK_aP, ne_aK_aO, ne_aK_aS, ne_aT_aP, ne_aT_aO, ne_aT_aS, ne_aP_aO, ne_aP_aS, ne_aO_aS, V_aB, V_aK, V_aT, V_aP, V_aO, V_aS⟩ := hQ17
  have N17 := Fr.app N15 Nq17
  have ne_b1_aB : b1 ≠ aB := Nat.ne_of_lt (Nat.lt_of_lt_of_le V_rn_16.lt sq_aB)
  have ne_b1_aK : b1 ≠ aK := Nat.ne_of_lt (Nat.lt_of_lt_of_le V_rn_16.lt sq_aK)
  have ne_b1_aT : b1 ≠ aT := Nat.ne_of_lt (Nat.lt_of_lt_of_le V_rn_16.lt sq_aT)
  have ne_b1_aP : b1 ≠ aP := Nat.ne_of_lt (Nat.lt_of_lt_of_le V_rn_16.lt sq_aP)
  have ne_b1_aO : b1 ≠ aO := Nat.ne_of_lt (Nat.lt_of_lt_of_le V_rn_16.lt sq_aO)
  have ne_b1_aS : b1 ≠ aS := Nat.ne_of_lt (Nat.lt_of_lt_of_le V_rn_16.lt sq_aS)
  have ne_b5_aB : b5 ≠ aB := Nat.ne_of_lt (Nat.lt_of_lt_of_le V_pr_16.lt sq_aB)
  have ne_b5_aK : b5 ≠ aK := Nat.ne_of_lt (Nat.lt_of_lt_of_le V_pr_16.lt sq_aK)
  have ne_b5_aT : b5 ≠ aT := Nat.ne_of_lt (Nat.lt_of_lt_of_le V_pr_16.lt sq_aT)
  have ne_b5_aP : b5 ≠ aP := Nat.ne_of_lt (Nat.lt_of_lt_of_le V_pr_16.lt sq_aP)
  have ne_b5_aO : b5 ≠ aO := Nat.ne_of_lt (Nat.lt_of_lt_of_le V_pr_16.lt sq_aO)
  have ne_b5_aS : b5 ≠ aS := Nat.ne_of_lt (Nat.lt_of_lt_of_le V_pr_16.lt sq_aS)
  have ne_b9_aB : b9 ≠ aB := Nat.ne_of_lt (Nat.lt_of_lt_of_le V_e_16.lt sq_aB)
  have ne_b9_aK : b9 ≠ aK := Nat.ne_of_lt (Nat.lt_of_lt_of_le V_e_16.lt sq_aK)
  have ne_b9_aT : b9 ≠ aT := Nat.ne_of_lt (Nat.lt_of_lt_of_le V_e_16.lt sq_aT)
  have ne_b9_aP : b9 ≠ aP := Nat.ne_of_lt (Nat.lt_of_lt_of_le V_e_16.lt sq_aP)
  have ne_b9_aO : b9 ≠ aO := Nat.ne_of_lt (Nat.lt_of_lt_of_le V_e_16.lt sq_aO)
  have ne_b9_aS : b9 ≠ aS := Nat.ne_of_lt (Nat.lt_of_lt_of_le V_e_16.lt sq_aS)
  have ne_b16_aB : b16 ≠ aB := Nat.ne_of_lt (Nat.lt_of_lt_of_le E_b16.lt sq_aB)
  have ne_b16_aK : b16 ≠ aK := Nat.ne_of_lt (Nat.lt_of_lt_of_le E_b16.lt sq_aK)
  have ne_b16_aT : b16 ≠ aT := Nat.ne_of_lt (Nat.lt_of_lt_of_le E_b16.lt sq_aT)
  have ne_b16_aP : b16 ≠ aP := Nat.ne_of_lt (Nat.lt_of_lt_of_le E_b16.lt sq_aP)
  have ne_b16_aO : b16 ≠ aO := Nat.ne_of_lt (Nat.lt_of_lt_of_le E_b16.lt sq_aO)
  have ne_b16_aS : b16 ≠ aS := Nat.ne_of_lt (Nat.lt_of_lt_of_le E_b16.lt sq_aS)
  have g_aB : n0 ≤ aB := Nat.le_trans Z16 sq_aB
  have g_aK : n0 ≤ aK := Nat.le_trans Z16 sq_aK
  have g_aT : n0 ≤ aT := Nat.le_trans Z16 sq_aT
  have g_aP : n0 ≤ aP := Nat.le_trans Z16 sq_aP
  have g_aO : n0 ≤ aO := Nat.le_trans Z16 sq_aO
  have g_aS : n0 ≤ aS := Nat.le_trans Z16 sq_aS
  have V_rn_17 := V_rn_16.keep Kq17 (ninS ne_b1_b16 nin0)
  have V_pr_17 := V_pr_16.keep Kq17 (ninS ne_b5_b16 nin0)
  have V_e_17 := V_e_16.keep Kq17 (ninS ne_b9_b16 nin0)
  have E_b16_17 := E_b16.keep Kq17
  have Z17 : n0 ≤ T17.heap.size := Nat.le_trans Z16 Kq17.1
  refine own_go st17 ?_
  show OwnFin p e below s _ _ _ (T17.setTop (mkF m 233 #[iv wa, iv wb, iv wc, iv wd, iv (Int32.ofNat n), iv (Int32.ofNat s0), iv fl, iv (Int32.ofNat w), iv (Int32.ofNat s0), iv (Int32.ofNat s1), iv (Int32.ofNat s2), rv b1, iv dr, iv (Int32.ofNat rr), rv b5, rv b9, .unset, .unset, .unset, .unset, .unset, .unset, .unset] [(.ref b16)]))
  refine own_go (fun t_ k_ => XS.astore X17.here hx rfl (hb hby at_233) rfl rfl (l' := #[iv wa, iv wb, iv wc, iv wd, iv (Int32.ofNat n), iv (Int32.ofNat s0), iv fl, iv (Int32.ofNat w), iv (Int32.ofNat s0), iv (Int32.ofNat s1), iv (Int32.ofNat s2), rv b1, iv dr, iv (Int32.ofNat rr), rv b5, rv b9, rv b16, .unset, .unset, .unset, .unset, .unset, .unset]) rfl k_) ?_
  show OwnFin p e below s _ _ _ (T17.setTop (mkF m 235 #[iv wa, iv wb, iv wc, iv wd, iv (Int32.ofNat n), iv (Int32.ofNat s0), iv fl, iv (Int32.ofNat w), iv (Int32.ofNat s0), iv (Int32.ofNat s1), iv (Int32.ofNat s2), rv b1, iv dr, iv (Int32.ofNat rr), rv b5, rv b9, rv b16, .unset, .unset, .unset, .unset, .unset, .unset] []))
  have jadd : ∀ (fB : Nat → Int32) (fP : Nat → Value) (fO : Nat → Value) (T1 : State) (locs1 : List Loc) (h1 : Heap), Stand p l e room_1 s m #[(.int wa), (.int wb), (.int wc), (.int wd)] below meth c T1 locs1 (0 + 1 + 1 + 1 + 0 + 0 + 0 + 1 + 6) (0 + 3 + 3 + 3 + 0 + 0 + 0 + 11 + 17) → T1.heap = h1 → Fr n0 locs1 → n0 ≤ h1.size → OwnArr Z h1 b1 .int 3 (fun k => .int (Int32.ofNat (own_tri q0 q1 q2 k))) → OwnArr Z h1 b5 .boolean 3 (fun k => .int (own_pr n s0 s1 s2 k)) → OwnArr Z h1 b9 .int 3 (fun j => .int (own_e n s0 s1 s2 q0 q1 q2 j)) → Exa Z h1 b16 "com/example/nearside/nearside/slotted/delay/FairBack" → Fld Z h1 b16 "com/example/nearside/nearside/slotted/delay/FairBack" "back" "[I" (.ref aB) → Fld Z h1 b16 "com/example/nearside/nearside/slotted/delay/FairBack" "keys" "[J" (.ref aK) → Fld Z h1 b16 "com/example/nearside/nearside/slotted/delay/FairBack" "retaken" "[J" (.ref aT) → Fld Z h1 b16 "com/example/nearside/nearside/slotted/delay/FairBack" "positions" "[I" (.ref aP) → Fld Z h1 b16 "com/example/nearside/nearside/slotted/delay/FairBack" "offeredFrom" "[I" (.ref aO) → Fld Z h1 b16 "com/example/nearside/nearside/slotted/delay/FairBack" "starts" "[I" (.ref aS) → Fld Z h1 b16 "com/example/nearside/nearside/slotted/delay/FairBack" "size" "I" (.int (Int32.ofNat n)) → Fld Z h1 b16 "com/example/nearside/nearside/slotted/delay/FairBack" "sorted" "I" (.int (0 : Int32)) → Fld Z h1 b16 "com/example/nearside/nearside/slotted/delay/FairBack" "nextKey" "I" (.int (0 : Int32)) → Fld Z h1 b16 "com/example/nearside/nearside/slotted/delay/FairBack" "retakenAt" "I" (.int (0 : Int32)) → Fld Z h1 b16 "com/example/nearside/nearside/slotted/delay/FairBack" "retakenEnd" "I" (.int (0 : Int32)) → OwnArr Z h1 aB .int 3 (fun k => .int (fB k)) → OwnArr Z h1 aK .long 3 (fun _ => .long 0) → OwnArr Z h1 aT .long 3 (fun _ => .long 0) → OwnArr Z h1 aP .int 3 fP → OwnArr Z h1 aO .int 3 fO → OwnArr Z h1 aS .int 2 (fun _ => .int 0) → (∀ k, k < n → fB k = Int32.ofNat (own_tri s0 s1 s2 k)) → OwnFin p e below s (fun v h L => v = some (.int 1) ∧ Fr n0 L) room_1.cells room_1.slots (T1.setTop (mkF m 276 #[iv wa, iv wb, iv wc, iv wd, iv (Int32.ofNat n), iv (Int32.ofNat s0), iv fl, iv (Int32.ofNat w), iv (Int32.ofNat s0), iv (Int32.ofNat s1), iv (Int32.ofNat s2), rv b1, iv dr, iv (Int32.ofNat rr), rv b5, rv b9, rv b16, .unset, .unset, .unset, .unset, .unset, .unset] [])) := by
    intro fB fP fO T1 locs1 h1 X1 e1 N1 Z1 H0 H1 H2 H3 H4 H5 H6 H7 H8 H9 H10 H11 H12 H13 H14 H15 H16 H17 H18 H19 H20 hB
    refine own_go (fun t_ k_ => XS.aload X1.here hx rfl (hb hby at_276) rfl rfl k_) ?_
    show OwnFin p e below s _ _ _ (T1.setTop (mkF m 278 #[iv wa, iv wb, iv wc, iv wd, iv (Int32.ofNat n), iv (Int32.ofNat s0), iv fl, iv (Int32.ofNat w), iv (Int32.ofNat s0), iv (Int32.ofNat s1), iv (Int32.ofNat s2), rv b1, iv dr, iv (Int32.ofNat rr), rv b5, rv b9, rv b16, .unset, .unset, .unset, .unset, .unset, .unset] [(.ref b16)]))
    refine own_go (fun t_ k_ => XS.aload X1.here hx rfl (hb hby at_278) rfl rfl k_) ?_
    show OwnFin p e below s _ _ _ (T1.setTop (mkF m 280 #[iv wa, iv wb, iv wc, iv wd, iv (Int32.ofNat n), iv (Int32.ofNat s0), iv fl, iv (Int32.ofNat w), iv (Int32.ofNat s0), iv (Int32.ofNat s1), iv (Int32.ofNat s2), rv b1, iv dr, iv (Int32.ofNat rr), rv b5, rv b9, rv b16, .unset, .unset, .unset, .unset, .unset, .unset] [(.ref b1), (.ref b16)]))
    refine own_go (fun t_ k_ => XS.iload X1.here hx rfl (hb hby at_280) rfl k_) ?_
    show OwnFin p e below s _ _ _ (T1.setTop (mkF m 282 #[iv wa, iv wb, iv wc, iv wd, iv (Int32.ofNat n), iv (Int32.ofNat s0), iv fl, iv (Int32.ofNat w), iv (Int32.ofNat s0), iv (Int32.ofNat s1), iv (Int32.ofNat s2), rv b1, iv dr, iv (Int32.ofNat rr), rv b5, rv b9, rv b16, .unset, .unset, .unset, .unset, .unset, .unset] [(.int (Int32.ofNat n)), (.ref b1), (.ref b16)]))
    obtain ⟨v18, T18, L18, X18, hQ18, st18⟩ := own_callV X1 hx hZ (y := (⟨"com/example/nearside/nearside/slotted/delay/FairBack", "sort", "([II)V"⟩ : MethodName)) (z := (⟨"com/example/nearside/nearside/slotted/delay/FairBack", "sort", "([II)V"⟩ : MethodName)) hown (hw _ (List.mem_of_getElem? (i := 28) rfl)) (hw _ (List.mem_of_getElem? (i := 29) rfl)) (notFace_of_selects (args := #[]) (mvT hZ (hw _ (List.mem_of_getElem? (i := 31) rfl)))) (hw _ (List.mem_of_getElem? (i := 31) rfl)) (hw _ (List.mem_of_getElem? (i := 30) rfl)) (hw _ (List.mem_of_getElem? (i := 8) rfl)) (hw _ (List.mem_of_getElem? (i := 32) rfl)) (by decide) (W := 0) (rm4 l Z a0 hw [] b16 b1 (Int32.ofNat n) aS aB aK aT aP aO n s0 s1 s2 q0 q1 q2 fB _ _ _ h1 n0 Z1 (by omega) rfl hperm hq0 hq1 hq2 hB H3 H9 H4 H5 H6 H7 H8 H10 H11 H12 H13 H14 H20 H15 H16 H17 H18 H19 H0 ne_b16_aS ne_b16_aB ne_b16_aK ne_b16_aT ne_b16_aP ne_b16_aO (Ne.symm ne_b1_b16) (Ne.symm ne_aB_aS) (Ne.symm ne_aK_aS) (Ne.symm ne_aT_aS) (Ne.symm ne_aP_aS) (Ne.symm ne_aO_aS) (Ne.symm ne_b1_aS) ne_aB_aK ne_aB_aT ne_aB_aP ne_aB_aO (Ne.symm ne_b1_aB) ne_aK_aT ne_aK_aP ne_aK_aO (Ne.symm ne_b1_aK) ne_aT_aP ne_aT_aO (Ne.symm ne_b1_aT) ne_aP_aO (Ne.symm ne_b1_aP) (Ne.symm ne_b1_aO) g_b16 g_aS g_aB g_aK g_aT g_aP g_aO) (by decide) (by decide) H3 (g := (mkF m 282 #[iv wa, iv wb, iv wc, iv wd, iv (Int32.ofNat n), iv (Int32.ofNat s0), iv fl, iv (Int32.ofNat w), iv (Int32.ofNat s0), iv (Int32.ofNat s1), iv (Int32.ofNat s2), rv b1, iv dr, iv (Int32.ofNat rr), rv b5, rv b9, rv b16, .unset, .unset, .unset, .unset, .unset, .unset] [(.int (Int32.ofNat n)), (.ref b1), (.ref b16)])) rfl (by rw [hml]; rfl) (argsL := [(.ref b1), (.int (Int32.ofNat n))]) (rest := []) (lenOf pd_0_3 rfl) rfl (by show 2 * 0 + _ ≤ _; exact Nat.le_of_eq rfl) (hb hby at_282) e1 rfl (by decide) (by decide)
    obtain ⟨rfl, Nq18, Kq18, Eq18, Fq18_keys, Fq18_retaken, Fq18_offeredFrom, Fq18_sorted, Fq18_nextKey, Fq18_retakenAt, Fq18_retakenEnd, Vq18K, fT, fO, Vq18T, Vq18O⟩ := hQ18
    have N18 := Fr.app N1 Nq18
    have H0_18 := H0.keep Kq18 (ninS ne_b1_b16 (ninS ne_b1_aS (ninS ne_b1_aB (ninS ne_b1_aK (ninS ne_b1_aT (ninS ne_b1_aP (ninS ne_b1_aO nin0)))))))
    have H1_18 := H1.keep Kq18 (ninS ne_b5_b16 (ninS ne_b5_aS (ninS ne_b5_aB (ninS ne_b5_aK (ninS ne_b5_aT (ninS ne_b5_aP (ninS ne_b5_aO nin0)))))))
    have H2_18 := H2.keep Kq18 (ninS ne_b9_b16 (ninS ne_b9_aS (ninS ne_b9_aB (ninS ne_b9_aK (ninS ne_b9_aT (ninS ne_b9_aP (ninS ne_b9_aO nin0)))))))
    have H3_18 := H3.keep Kq18
    have Z18 : n0 ≤ T18.heap.size := Nat.le_trans Z1 Kq18.1
    refine own_go st18 ?_
    show OwnFin p e below s _ _ _ (T18.setTop (mkF m 285 #[iv wa, iv wb, iv wc, iv wd, iv (Int32.ofNat n), iv (Int32.ofNat s0), iv fl, iv (Int32.ofNat w), iv (Int32.ofNat s0), iv (Int32.ofNat s1), iv (Int32.ofNat s2), rv b1, iv dr, iv (Int32.ofNat rr), rv b5, rv b9, rv b16, .unset, .unset, .unset, .unset, .unset, .unset] []))
    refine own_go (fun t_ k_ => XS.aload X18.here hx rfl (hb hby at_285) rfl rfl k_) ?_
    show OwnFin p e below s _ _ _ (T18.setTop (mkF m 287 #[iv wa, iv wb, iv wc, iv wd, iv (Int32.ofNat n), iv (Int32.ofNat s0), iv fl, iv (Int32.ofNat w), iv (Int32.ofNat s0), iv (Int32.ofNat s1), iv (Int32.ofNat s2), rv b1, iv dr, iv (Int32.ofNat rr), rv b5, rv b9, rv b16, .unset, .unset, .unset, .unset, .unset, .unset] [(.ref b16)]))
    obtain ⟨v19, T19, L19, X19, hQ19, st19⟩ := own_callV X18 hx hZ (y := (⟨"com/example/nearside/nearside/slotted/delay/FairBack", "next", "()I"⟩ : MethodName)) (z := (⟨"com/example/nearside/nearside/slotted/delay/FairBack", "next", "()I"⟩ : MethodName)) hown (hw _ (List.mem_of_getElem? (i := 50) rfl)) (hw _ (List.mem_of_getElem? (i := 51) rfl)) (notFace_of_selects (args := #[]) (mvT hZ (hw _ (List.mem_of_getElem? (i := 53) rfl)))) (hw _ (List.mem_of_getElem? (i := 53) rfl)) (hw _ (List.mem_of_getElem? (i := 52) rfl)) (hw _ (List.mem_of_getElem? (i := 8) rfl)) (hw _ (List.mem_of_getElem? (i := 54) rfl)) (by decide) (W := 0) (rm7 l Z a0 hw [] b16 aK aT aO n 0 0 0 (own_fin n s0 s1 s2 q0 q1 q2) 0 fT T18.heap n0 Z18 (by omega) (Nat.zero_le _) (by decide) (Nat.le_refl _) (fun q => absurd q (by decide)) Eq18 Fq18_keys Fq18_retaken Fq18_offeredFrom Fq18_sorted Fq18_nextKey Fq18_retakenAt Fq18_retakenEnd Vq18K Vq18T ne_b16_aK ne_b16_aT ne_aK_aT g_b16) (by decide) (by decide) Eq18 (g := (mkF m 287 #[iv wa, iv wb, iv wc, iv wd, iv (Int32.ofNat n), iv (Int32.ofNat s0), iv fl, iv (Int32.ofNat w), iv (Int32.ofNat s0), iv (Int32.ofNat s1), iv (Int32.ofNat s2), rv b1, iv dr, iv (Int32.ofNat rr), rv b5, rv b9, rv b16, .unset, .unset, .unset, .unset, .unset, .unset] [(.ref b16)])) rfl (by rw [hml]; rfl) (argsL := []) (rest := []) (lenOf pd_0_6 rfl) rfl (by show 2 * 0 + _ ≤ _; exact Nat.le_of_eq rfl) (hb hby at_287) rfl rfl (by decide) (by decide)
    obtain ⟨o19, nk19, ra19, hx19, hk19, hr19, rfl, Nq19, Kq19, Eq19, Fq19_keys, Fq19_retaken, Fq19_offeredFrom, Fq19_sorted, Fq19_nextKey, Fq19_retakenAt, Fq19_retakenEnd⟩ := hQ19
    have N19 := Fr.app N18 Nq19
    have H0_19 := H0_18.keep Kq19 (ninS ne_b1_b16 nin0)
    have H1_19 := H1_18.keep Kq19 (ninS ne_b5_b16 nin0)
    have H2_19 := H2_18.keep Kq19 (ninS ne_b9_b16 nin0)
    have Eq18_19 := Eq18.keep Kq19
    have Vq18K_19 := Vq18K.keep Kq19 (ninS (Ne.symm ne_b16_aK) nin0)
    have Vq18T_19 := Vq18T.keep Kq19 (ninS (Ne.symm ne_b16_aT) nin0)
    have Vq18O_19 := Vq18O.keep Kq19 (ninS (Ne.symm ne_b16_aO) nin0)
    have Z19 : n0 ≤ T19.heap.size := Nat.le_trans Z18 Kq19.1
    refine own_go st19 ?_
    show OwnFin p e below s _ _ _ (T19.setTop (mkF m 290 #[iv wa, iv wb, iv wc, iv wd, iv (Int32.ofNat n), iv (Int32.ofNat s0), iv fl, iv (Int32.ofNat w), iv (Int32.ofNat s0), iv (Int32.ofNat s1), iv (Int32.ofNat s2), rv b1, iv dr, iv (Int32.ofNat rr), rv b5, rv b9, rv b16, .unset, .unset, .unset, .unset, .unset, .unset] [(.int o19)]))
    refine own_go (fun t_ k_ => XS.istore X19.here hx rfl (hb hby at_290) rfl (l' := #[iv wa, iv wb, iv wc, iv wd, iv (Int32.ofNat n), iv (Int32.ofNat s0), iv fl, iv (Int32.ofNat w), iv (Int32.ofNat s0), iv (Int32.ofNat s1), iv (Int32.ofNat s2), rv b1, iv dr, iv (Int32.ofNat rr), rv b5, rv b9, rv b16, iv o19, .unset, .unset, .unset, .unset, .unset]) rfl k_) ?_
    show OwnFin p e below s _ _ _ (T19.setTop (mkF m 292 #[iv wa, iv wb, iv wc, iv wd, iv (Int32.ofNat n), iv (Int32.ofNat s0), iv fl, iv (Int32.ofNat w), iv (Int32.ofNat s0), iv (Int32.ofNat s1), iv (Int32.ofNat s2), rv b1, iv dr, iv (Int32.ofNat rr), rv b5, rv b9, rv b16, iv o19, .unset, .unset, .unset, .unset, .unset] []))
    have hE := own_ok hn4 hperm hq0 hq1 hq2 hx19
    refine own_go (fun t_ k_ => XS.iload X19.here hx rfl (hb hby at_292) rfl k_) ?_
    show OwnFin p e below s _ _ _ (T19.setTop (mkF m 294 #[iv wa, iv wb, iv wc, iv wd, iv (Int32.ofNat n), iv (Int32.ofNat s0), iv fl, iv (Int32.ofNat w), iv (Int32.ofNat s0), iv (Int32.ofNat s1), iv (Int32.ofNat s2), rv b1, iv dr, iv (Int32.ofNat rr), rv b5, rv b9, rv b16, iv o19, .unset, .unset, .unset, .unset, .unset] [(.int o19)]))
    refine own_go (fun t_ k_ => XS.aload X19.here hx rfl (hb hby at_294) rfl rfl k_) ?_
    show OwnFin p e below s _ _ _ (T19.setTop (mkF m 296 #[iv wa, iv wb, iv wc, iv wd, iv (Int32.ofNat n), iv (Int32.ofNat s0), iv fl, iv (Int32.ofNat w), iv (Int32.ofNat s0), iv (Int32.ofNat s1), iv (Int32.ofNat s2), rv b1, iv dr, iv (Int32.ofNat rr), rv b5, rv b9, rv b16, iv o19, .unset, .unset, .unset, .unset, .unset] [(.ref b9), (.int o19)]))
    refine own_go (fun t_ k_ => XS.iconst X19.here hx rfl (hb hby at_296) k_) ?_
    show OwnFin p e below s _ _ _ (T19.setTop (mkF m 297 #[iv wa, iv wb, iv wc, iv wd, iv (Int32.ofNat n), iv (Int32.ofNat s0), iv fl, iv (Int32.ofNat w), iv (Int32.ofNat s0), iv (Int32.ofNat s1), iv (Int32.ofNat s2), rv b1, iv dr, iv (Int32.ofNat rr), rv b5, rv b9, rv b16, iv o19, .unset, .unset, .unset, .unset, .unset] [(.int (0 : Int32)), (.ref b9), (.int o19)]))
    refine own_go (own_iaload X19 hx hZ rfl H2_19 (i := 0) (by decide) (by decide) (g := (mkF m 297 #[iv wa, iv wb, iv wc, iv wd, iv (Int32.ofNat n), iv (Int32.ofNat s0), iv fl, iv (Int32.ofNat w), iv (Int32.ofNat s0), iv (Int32.ofNat s1), iv (Int32.ofNat s2), rv b1, iv dr, iv (Int32.ofNat rr), rv b5, rv b9, rv b16, iv o19, .unset, .unset, .unset, .unset, .unset] [(.int (0 : Int32)), (.ref b9), (.int o19)])) rfl rfl (hb hby at_297)) ?_
    show OwnFin p e below s _ _ _ (T19.setTop (mkF m 298 #[iv wa, iv wb, iv wc, iv wd, iv (Int32.ofNat n), iv (Int32.ofNat s0), iv fl, iv (Int32.ofNat w), iv (Int32.ofNat s0), iv (Int32.ofNat s1), iv (Int32.ofNat s2), rv b1, iv dr, iv (Int32.ofNat rr), rv b5, rv b9, rv b16, iv o19, .unset, .unset, .unset, .unset, .unset] [(.int (own_e n s0 s1 s2 q0 q1 q2 0)), (.int o19)]))
    have hc298 : o19 = (own_e n s0 s1 s2 q0 q1 q2 0) := hE.1
    refine own_go (fun t_ k_ => XS.icmpYes X19.here hx rfl (pc0 := 298) (pc' := 303) rfl (hb hby at_298) rfl (teq hc298).1 (by decide) (by decide) k_) ?_
    show OwnFin p e below s _ _ _ (T19.setTop (mkF m 303 #[iv wa, iv wb, iv wc, iv wd, iv (Int32.ofNat n), iv (Int32.ofNat s0), iv fl, iv (Int32.ofNat w), iv (Int32.ofNat s0), iv (Int32.ofNat s1), iv (Int32.ofNat s2), rv b1, iv dr, iv (Int32.ofNat rr), rv b5, rv b9, rv b16, iv o19, .unset, .unset, .unset, .unset, .unset] []))
    refine own_go (fun t_ k_ => XS.iconst X19.here hx rfl (hb hby at_303) k_) ?_
    show OwnFin p e below s _ _ _ (T19.setTop (mkF m 304 #[iv wa, iv wb, iv wc, iv wd, iv (Int32.ofNat n), iv (Int32.ofNat s0), iv fl, iv (Int32.ofNat w), iv (Int32.ofNat s0), iv (Int32.ofNat s1), iv (Int32.ofNat s2), rv b1, iv dr, iv (Int32.ofNat rr), rv b5, rv b9, rv b16, iv o19, .unset, .unset, .unset, .unset, .unset] [(.int (4 : Int32))]))
    obtain ⟨T20, h20, X20, e20, E20, A20, st20⟩ := own_newarr X19 hx hZ (hw _ (List.mem_of_getElem? (i := 0) rfl)) rfl (g := (mkF m 304 #[iv wa, iv wb, iv wc, iv wd, iv (Int32.ofNat n), iv (Int32.ofNat s0), iv fl, iv (Int32.ofNat w), iv (Int32.ofNat s0), iv (Int32.ofNat s1), iv (Int32.ofNat s2), rv b1, iv dr, iv (Int32.ofNat rr), rv b5, rv b9, rv b16, iv o19, .unset, .unset, .unset, .unset, .unset] [(.int (4 : Int32))])) rfl (hb hby at_304) rfl (n := 4) (cap := 4) (by decide) (by decide) (by decide) (by decide) (by decide)
    obtain ⟨b20, g20⟩ : ∃ z, z = T19.heap.size := ⟨_, rfl⟩
    rw [← g20] at A20 st20
    have g_b20 : n0 ≤ b20 := Nat.le_trans Z19 (Nat.le_of_eq g20.symm)
    have ne_b1_b20 : b1 ≠ b20 := Nat.ne_of_lt (Nat.lt_of_lt_of_le H0_19.lt (Nat.le_of_eq g20.symm))
    have ne_b5_b20 : b5 ≠ b20 := Nat.ne_of_lt (Nat.lt_of_lt_of_le H1_19.lt (Nat.le_of_eq g20.symm))
    have ne_b9_b20 : b9 ≠ b20 := Nat.ne_of_lt (Nat.lt_of_lt_of_le H2_19.lt (Nat.le_of_eq g20.symm))
    have ne_b16_b20 : b16 ≠ b20 := Nat.ne_of_lt (Nat.lt_of_lt_of_le Eq19.lt (Nat.le_of_eq g20.symm))
    have ne_aK_b20 : aK ≠ b20 := Nat.ne_of_lt (Nat.lt_of_lt_of_le Vq18K_19.lt (Nat.le_of_eq g20.symm))
    have ne_aT_b20 : aT ≠ b20 := Nat.ne_of_lt (Nat.lt_of_lt_of_le Vq18T_19.lt (Nat.le_of_eq g20.symm))
    have ne_aO_b20 : aO ≠ b20 := Nat.ne_of_lt (Nat.lt_of_lt_of_le Vq18O_19.lt (Nat.le_of_eq g20.symm))
    have H0_20 := H0_19.ext E20
    have H1_20 := H1_19.ext E20
    have H2_20 := H2_19.ext E20
    have Eq19_20 := Eq19.ext E20
    have Vq18K_20 := Vq18K_19.ext E20
    have Vq18T_20 := Vq18T_19.ext E20
    have Vq18O_20 := Vq18O_19.ext E20
    have Fq19_keys_20 := Fq19_keys.ext E20
    have Fq19_retaken_20 := Fq19_retaken.ext E20
    have Fq19_offeredFrom_20 := Fq19_offeredFrom.ext E20
    have Fq19_sorted_20 := Fq19_sorted.ext E20
    have Fq19_nextKey_20 := Fq19_nextKey.ext E20
    have Fq19_retakenAt_20 := Fq19_retakenAt.ext E20
    have Fq19_retakenEnd_20 := Fq19_retakenEnd.ext E20
    have Z20 : n0 ≤ h20.size := Nat.le_trans Z19 E20.1
    have V_b20 : OwnArr Z h20 b20 .int 4 (fun _ => (.int (0 : Int32))) := A20
    refine own_go st20 ?_
    show OwnFin p e below s _ _ _ (T20.setTop (mkF m 306 #[iv wa, iv wb, iv wc, iv wd, iv (Int32.ofNat n), iv (Int32.ofNat s0), iv fl, iv (Int32.ofNat w), iv (Int32.ofNat s0), iv (Int32.ofNat s1), iv (Int32.ofNat s2), rv b1, iv dr, iv (Int32.ofNat rr), rv b5, rv b9, rv b16, iv o19, .unset, .unset, .unset, .unset, .unset] [(.ref b20)]))
    refine own_go (fun t_ k_ => XS.dup X20.here hx rfl (hb hby at_306) rfl rfl k_) ?_
    show OwnFin p e below s _ _ _ (T20.setTop (mkF m 307 #[iv wa, iv wb, iv wc, iv wd, iv (Int32.ofNat n), iv (Int32.ofNat s0), iv fl, iv (Int32.ofNat w), iv (Int32.ofNat s0), iv (Int32.ofNat s1), iv (Int32.ofNat s2), rv b1, iv dr, iv (Int32.ofNat rr), rv b5, rv b9, rv b16, iv o19, .unset, .unset, .unset, .unset, .unset] [(.ref b20), (.ref b20)]))
    refine own_go (fun t_ k_ => XS.iconst X20.here hx rfl (hb hby at_307) k_) ?_
    show OwnFin p e below s _ _ _ (T20.setTop (mkF m 308 #[iv wa, iv wb, iv wc, iv wd, iv (Int32.ofNat n), iv (Int32.ofNat s0), iv fl, iv (Int32.ofNat w), iv (Int32.ofNat s0), iv (Int32.ofNat s1), iv (Int32.ofNat s2), rv b1, iv dr, iv (Int32.ofNat rr), rv b5, rv b9, rv b16, iv o19, .unset, .unset, .unset, .unset, .unset] [(.int (0 : Int32)), (.ref b20), (.ref b20)]))
    refine own_go (fun t_ k_ => XS.aload X20.here hx rfl (hb hby at_308) rfl rfl k_) ?_
    show OwnFin p e below s _ _ _ (T20.setTop (mkF m 310 #[iv wa, iv wb, iv wc, iv wd, iv (Int32.ofNat n), iv (Int32.ofNat s0), iv fl, iv (Int32.ofNat w), iv (Int32.ofNat s0), iv (Int32.ofNat s1), iv (Int32.ofNat s2), rv b1, iv dr, iv (Int32.ofNat rr), rv b5, rv b9, rv b16, iv o19, .unset, .unset, .unset, .unset, .unset] [(.ref b9), (.int (0 : Int32)), (.ref b20), (.ref b20)]))
    refine own_go (fun t_ k_ => XS.iconst X20.here hx rfl (hb hby at_310) k_) ?_
    show OwnFin p e below s _ _ _ (T20.setTop (mkF m 311 #[iv wa, iv wb, iv wc, iv wd, iv (Int32.ofNat n), iv (Int32.ofNat s0), iv fl, iv (Int32.ofNat w), iv (Int32.ofNat s0), iv (Int32.ofNat s1), iv (Int32.ofNat s2), rv b1, iv dr, iv (Int32.ofNat rr), rv b5, rv b9, rv b16, iv o19, .unset, .unset, .unset, .unset, .unset] [(.int (1 : Int32)), (.ref b9), (.int (0 : Int32)), (.ref b20), (.ref b20)]))
    refine own_go (own_iaload X20 hx hZ e20 H2_20 (i := 1) (by decide) (by decide) (g := (mkF m 311 #[iv wa, iv wb, iv wc, iv wd, iv (Int32.ofNat n), iv (Int32.ofNat s0), iv fl, iv (Int32.ofNat w), iv (Int32.ofNat s0), iv (Int32.ofNat s1), iv (Int32.ofNat s2), rv b1, iv dr, iv (Int32.ofNat rr), rv b5, rv b9, rv b16, iv o19, .unset, .unset, .unset, .unset, .unset] [(.int (1 : Int32)), (.ref b9), (.int (0 : Int32)), (.ref b20), (.ref b20)])) rfl rfl (hb hby at_311)) ?_
    show OwnFin p e below s _ _ _ (T20.setTop (mkF m 312 #[iv wa, iv wb, iv wc, iv wd, iv (Int32.ofNat n), iv (Int32.ofNat s0), iv fl, iv (Int32.ofNat w), iv (Int32.ofNat s0), iv (Int32.ofNat s1), iv (Int32.ofNat s2), rv b1, iv dr, iv (Int32.ofNat rr), rv b5, rv b9, rv b16, iv o19, .unset, .unset, .unset, .unset, .unset] [(.int (own_e n s0 s1 s2 q0 q1 q2 1)), (.int (0 : Int32)), (.ref b20), (.ref b20)]))
    obtain ⟨T21, h21, X21, e21, W21, A21, st21⟩ := own_iastore X20 hx hZ e20 V_b20 (i := 0) (by decide) (by decide) (g := (mkF m 312 #[iv wa, iv wb, iv wc, iv wd, iv (Int32.ofNat n), iv (Int32.ofNat s0), iv fl, iv (Int32.ofNat w), iv (Int32.ofNat s0), iv (Int32.ofNat s1), iv (Int32.ofNat s2), rv b1, iv dr, iv (Int32.ofNat rr), rv b5, rv b9, rv b16, iv o19, .unset, .unset, .unset, .unset, .unset] [(.int (own_e n s0 s1 s2 q0 q1 q2 1)), (.int (0 : Int32)), (.ref b20), (.ref b20)])) rfl rfl (hb hby at_312)
    have H0_21 := H0_20.other W21 ne_b1_b20
    have H1_21 := H1_20.other W21 ne_b5_b20
    have H2_21 := H2_20.other W21 ne_b9_b20
    have Eq19_21 := Eq19_20.wr W21
    have Vq18K_21 := Vq18K_20.other W21 ne_aK_b20
    have Vq18T_21 := Vq18T_20.other W21 ne_aT_b20
    have Vq18O_21 := Vq18O_20.other W21 ne_aO_b20
    have Fq19_keys_21 := Fq19_keys_20.other W21 (Or.inl ne_b16_b20)
    have Fq19_retaken_21 := Fq19_retaken_20.other W21 (Or.inl ne_b16_b20)
    have Fq19_offeredFrom_21 := Fq19_offeredFrom_20.other W21 (Or.inl ne_b16_b20)
    have Fq19_sorted_21 := Fq19_sorted_20.other W21 (Or.inl ne_b16_b20)
    have Fq19_nextKey_21 := Fq19_nextKey_20.other W21 (Or.inl ne_b16_b20)
    have Fq19_retakenAt_21 := Fq19_retakenAt_20.other W21 (Or.inl ne_b16_b20)
    have Fq19_retakenEnd_21 := Fq19_retakenEnd_20.other W21 (Or.inl ne_b16_b20)
    have Z21 : n0 ≤ h21.size := Nat.le_trans Z20 (Keep.of_wr W21).1
    have N21 := Fr.snoc X21 N19 g_b20
    refine own_go st21 ?_
    show OwnFin p e below s _ _ _ (T21.setTop (mkF m 313 #[iv wa, iv wb, iv wc, iv wd, iv (Int32.ofNat n), iv (Int32.ofNat s0), iv fl, iv (Int32.ofNat w), iv (Int32.ofNat s0), iv (Int32.ofNat s1), iv (Int32.ofNat s2), rv b1, iv dr, iv (Int32.ofNat rr), rv b5, rv b9, rv b16, iv o19, .unset, .unset, .unset, .unset, .unset] [(.ref b20)]))
    refine own_go (fun t_ k_ => XS.dup X21.here hx rfl (hb hby at_313) rfl rfl k_) ?_
    show OwnFin p e below s _ _ _ (T21.setTop (mkF m 314 #[iv wa, iv wb, iv wc, iv wd, iv (Int32.ofNat n), iv (Int32.ofNat s0), iv fl, iv (Int32.ofNat w), iv (Int32.ofNat s0), iv (Int32.ofNat s1), iv (Int32.ofNat s2), rv b1, iv dr, iv (Int32.ofNat rr), rv b5, rv b9, rv b16, iv o19, .unset, .unset, .unset, .unset, .unset] [(.ref b20), (.ref b20)]))
    refine own_go (fun t_ k_ => XS.iconst X21.here hx rfl (hb hby at_314) k_) ?_
    show OwnFin p e below s _ _ _ (T21.setTop (mkF m 315 #[iv wa, iv wb, iv wc, iv wd, iv (Int32.ofNat n), iv (Int32.ofNat s0), iv fl, iv (Int32.ofNat w), iv (Int32.ofNat s0), iv (Int32.ofNat s1), iv (Int32.ofNat s2), rv b1, iv dr, iv (Int32.ofNat rr), rv b5, rv b9, rv b16, iv o19, .unset, .unset, .unset, .unset, .unset] [(.int (1 : Int32)), (.ref b20), (.ref b20)]))
    refine own_go (fun t_ k_ => XS.aload X21.here hx rfl (hb hby at_315) rfl rfl k_) ?_
    show OwnFin p e below s _ _ _ (T21.setTop (mkF m 317 #[iv wa, iv wb, iv wc, iv wd, iv (Int32.ofNat n), iv (Int32.ofNat s0), iv fl, iv (Int32.ofNat w), iv (Int32.ofNat s0), iv (Int32.ofNat s1), iv (Int32.ofNat s2), rv b1, iv dr, iv (Int32.ofNat rr), rv b5, rv b9, rv b16, iv o19, .unset, .unset, .unset, .unset, .unset] [(.ref b9), (.int (1 : Int32)), (.ref b20), (.ref b20)]))
    refine own_go (fun t_ k_ => XS.iconst X21.here hx rfl (hb hby at_317) k_) ?_
    show OwnFin p e below s _ _ _ (T21.setTop (mkF m 318 #[iv wa, iv wb, iv wc, iv wd, iv (Int32.ofNat n), iv (Int32.ofNat s0), iv fl, iv (Int32.ofNat w), iv (Int32.ofNat s0), iv (Int32.ofNat s1), iv (Int32.ofNat s2), rv b1, iv dr, iv (Int32.ofNat rr), rv b5, rv b9, rv b16, iv o19, .unset, .unset, .unset, .unset, .unset] [(.int (2 : Int32)), (.ref b9), (.int (1 : Int32)), (.ref b20), (.ref b20)]))
    refine own_go (own_iaload X21 hx hZ e21 H2_21 (i := 2) (by decide) (by decide) (g := (mkF m 318 #[iv wa, iv wb, iv wc, iv wd, iv (Int32.ofNat n), iv (Int32.ofNat s0), iv fl, iv (Int32.ofNat w), iv (Int32.ofNat s0), iv (Int32.ofNat s1), iv (Int32.ofNat s2), rv b1, iv dr, iv (Int32.ofNat rr), rv b5, rv b9, rv b16, iv o19, .unset, .unset, .unset, .unset, .unset] [(.int (2 : Int32)), (.ref b9), (.int (1 : Int32)), (.ref b20), (.ref b20)])) rfl rfl (hb hby at_318)) ?_
    show OwnFin p e below s _ _ _ (T21.setTop (mkF m 319 #[iv wa, iv wb, iv wc, iv wd, iv (Int32.ofNat n), iv (Int32.ofNat s0), iv fl, iv (Int32.ofNat w), iv (Int32.ofNat s0), iv (Int32.ofNat s1), iv (Int32.ofNat s2), rv b1, iv dr, iv (Int32.ofNat rr), rv b5, rv b9, rv b16, iv o19, .unset, .unset, .unset, .unset, .unset] [(.int (own_e n s0 s1 s2 q0 q1 q2 2)), (.int (1 : Int32)), (.ref b20), (.ref b20)]))
    obtain ⟨T22, h22, X22, e22, W22, A22, st22⟩ := own_iastore X21 hx hZ e21 A21 (i := 1) (by decide) (by decide) (g := (mkF m 319 #[iv wa, iv wb, iv wc, iv wd, iv (Int32.ofNat n), iv (Int32.ofNat s0), iv fl, iv (Int32.ofNat w), iv (Int32.ofNat s0), iv (Int32.ofNat s1), iv (Int32.ofNat s2), rv b1, iv dr, iv (Int32.ofNat rr), rv b5, rv b9, rv b16, iv o19, .unset, .unset, .unset, .unset, .unset] [(.int (own_e n s0 s1 s2 q0 q1 q2 2)), (.int (1 : Int32)), (.ref b20), (.ref b20)])) rfl rfl (hb hby at_319)
    have H0_22 := H0_21.other W22 ne_b1_b20
    have H1_22 := H1_21.other W22 ne_b5_b20
    have H2_22 := H2_21.other W22 ne_b9_b20
    have Eq19_22 := Eq19_21.wr W22
    have Vq18K_22 := Vq18K_21.other W22 ne_aK_b20
    have Vq18T_22 := Vq18T_21.other W22 ne_aT_b20
    have Vq18O_22 := Vq18O_21.other W22 ne_aO_b20
    have Fq19_keys_22 := Fq19_keys_21.other W22 (Or.inl ne_b16_b20)
    have Fq19_retaken_22 := Fq19_retaken_21.other W22 (Or.inl ne_b16_b20)
    have Fq19_offeredFrom_22 := Fq19_offeredFrom_21.other W22 (Or.inl ne_b16_b20)
    have Fq19_sorted_22 := Fq19_sorted_21.other W22 (Or.inl ne_b16_b20)
    have Fq19_nextKey_22 := Fq19_nextKey_21.other W22 (Or.inl ne_b16_b20)
    have Fq19_retakenAt_22 := Fq19_retakenAt_21.other W22 (Or.inl ne_b16_b20)
    have Fq19_retakenEnd_22 := Fq19_retakenEnd_21.other W22 (Or.inl ne_b16_b20)
    have Z22 : n0 ≤ h22.size := Nat.le_trans Z21 (Keep.of_wr W22).1
    have N22 := Fr.snoc X22 N21 g_b20
    refine own_go st22 ?_
    show OwnFin p e below s _ _ _ (T22.setTop (mkF m 320 #[iv wa, iv wb, iv wc, iv wd, iv (Int32.ofNat n), iv (Int32.ofNat s0), iv fl, iv (Int32.ofNat w), iv (Int32.ofNat s0), iv (Int32.ofNat s1), iv (Int32.ofNat s2), rv b1, iv dr, iv (Int32.ofNat rr), rv b5, rv b9, rv b16, iv o19, .unset, .unset, .unset, .unset, .unset] [(.ref b20)]))
    refine own_go (fun t_ k_ => XS.dup X22.here hx rfl (hb hby at_320) rfl rfl k_) ?_
    show OwnFin p e below s _ _ _ (T22.setTop (mkF m 321 #[iv wa, iv wb, iv wc, iv wd, iv (Int32.ofNat n), iv (Int32.ofNat s0), iv fl, iv (Int32.ofNat w), iv (Int32.ofNat s0), iv (Int32.ofNat s1), iv (Int32.ofNat s2), rv b1, iv dr, iv (Int32.ofNat rr), rv b5, rv b9, rv b16, iv o19, .unset, .unset, .unset, .unset, .unset] [(.ref b20), (.ref b20)]))
    refine own_go (fun t_ k_ => XS.iconst X22.here hx rfl (hb hby at_321) k_) ?_
    show OwnFin p e below s _ _ _ (T22.setTop (mkF m 322 #[iv wa, iv wb, iv wc, iv wd, iv (Int32.ofNat n), iv (Int32.ofNat s0), iv fl, iv (Int32.ofNat w), iv (Int32.ofNat s0), iv (Int32.ofNat s1), iv (Int32.ofNat s2), rv b1, iv dr, iv (Int32.ofNat rr), rv b5, rv b9, rv b16, iv o19, .unset, .unset, .unset, .unset, .unset] [(.int (2 : Int32)), (.ref b20), (.ref b20)]))
    refine own_go (fun t_ k_ => XS.iconst X22.here hx rfl (hb hby at_322) k_) ?_
    show OwnFin p e below s _ _ _ (T22.setTop (mkF m 323 #[iv wa, iv wb, iv wc, iv wd, iv (Int32.ofNat n), iv (Int32.ofNat s0), iv fl, iv (Int32.ofNat w), iv (Int32.ofNat s0), iv (Int32.ofNat s1), iv (Int32.ofNat s2), rv b1, iv dr, iv (Int32.ofNat rr), rv b5, rv b9, rv b16, iv o19, .unset, .unset, .unset, .unset, .unset] [(.int (-1 : Int32)), (.int (2 : Int32)), (.ref b20), (.ref b20)]))
    obtain ⟨T23, h23, X23, e23, W23, A23, st23⟩ := own_iastore X22 hx hZ e22 A22 (i := 2) (by decide) (by decide) (g := (mkF m 323 #[iv wa, iv wb, iv wc, iv wd, iv (Int32.ofNat n), iv (Int32.ofNat s0), iv fl, iv (Int32.ofNat w), iv (Int32.ofNat s0), iv (Int32.ofNat s1), iv (Int32.ofNat s2), rv b1, iv dr, iv (Int32.ofNat rr), rv b5, rv b9, rv b16, iv o19, .unset, .unset, .unset, .unset, .unset] [(.int (-1 : Int32)), (.int (2 : Int32)), (.ref b20), (.ref b20)])) rfl rfl (hb hby at_323)
    have H0_23 := H0_22.other W23 ne_b1_b20
    have H1_23 := H1_22.other W23 ne_b5_b20
    have H2_23 := H2_22.other W23 ne_b9_b20
    have Eq19_23 := Eq19_22.wr W23
    have Vq18K_23 := Vq18K_22.other W23 ne_aK_b20
    have Vq18T_23 := Vq18T_22.other W23 ne_aT_b20
    have Vq18O_23 := Vq18O_22.other W23 ne_aO_b20
    have Fq19_keys_23 := Fq19_keys_22.other W23 (Or.inl ne_b16_b20)
    have Fq19_retaken_23 := Fq19_retaken_22.other W23 (Or.inl ne_b16_b20)
    have Fq19_offeredFrom_23 := Fq19_offeredFrom_22.other W23 (Or.inl ne_b16_b20)
    have Fq19_sorted_23 := Fq19_sorted_22.other W23 (Or.inl ne_b16_b20)
    have Fq19_nextKey_23 := Fq19_nextKey_22.other W23 (Or.inl ne_b16_b20)
    have Fq19_retakenAt_23 := Fq19_retakenAt_22.other W23 (Or.inl ne_b16_b20)
    have Fq19_retakenEnd_23 := Fq19_retakenEnd_22.other W23 (Or.inl ne_b16_b20)
    have Z23 : n0 ≤ h23.size := Nat.le_trans Z22 (Keep.of_wr W23).1
    have N23 := Fr.snoc X23 N22 g_b20
    refine own_go st23 ?_
    show OwnFin p e below s _ _ _ (T23.setTop (mkF m 324 #[iv wa, iv wb, iv wc, iv wd, iv (Int32.ofNat n), iv (Int32.ofNat s0), iv fl, iv (Int32.ofNat w), iv (Int32.ofNat s0), iv (Int32.ofNat s1), iv (Int32.ofNat s2), rv b1, iv dr, iv (Int32.ofNat rr), rv b5, rv b9, rv b16, iv o19, .unset, .unset, .unset, .unset, .unset] [(.ref b20)]))
    refine own_go (fun t_ k_ => XS.dup X23.here hx rfl (hb hby at_324) rfl rfl k_) ?_
    show OwnFin p e below s _ _ _ (T23.setTop (mkF m 325 #[iv wa, iv wb, iv wc, iv wd, iv (Int32.ofNat n), iv (Int32.ofNat s0), iv fl, iv (Int32.ofNat w), iv (Int32.ofNat s0), iv (Int32.ofNat s1), iv (Int32.ofNat s2), rv b1, iv dr, iv (Int32.ofNat rr), rv b5, rv b9, rv b16, iv o19, .unset, .unset, .unset, .unset, .unset] [(.ref b20), (.ref b20)]))
    refine own_go (fun t_ k_ => XS.iconst X23.here hx rfl (hb hby at_325) k_) ?_
    show OwnFin p e below s _ _ _ (T23.setTop (mkF m 326 #[iv wa, iv wb, iv wc, iv wd, iv (Int32.ofNat n), iv (Int32.ofNat s0), iv fl, iv (Int32.ofNat w), iv (Int32.ofNat s0), iv (Int32.ofNat s1), iv (Int32.ofNat s2), rv b1, iv dr, iv (Int32.ofNat rr), rv b5, rv b9, rv b16, iv o19, .unset, .unset, .unset, .unset, .unset] [(.int (3 : Int32)), (.ref b20), (.ref b20)]))
    refine own_go (fun t_ k_ => XS.iconst X23.here hx rfl (hb hby at_326) k_) ?_
    show OwnFin p e below s _ _ _ (T23.setTop (mkF m 327 #[iv wa, iv wb, iv wc, iv wd, iv (Int32.ofNat n), iv (Int32.ofNat s0), iv fl, iv (Int32.ofNat w), iv (Int32.ofNat s0), iv (Int32.ofNat s1), iv (Int32.ofNat s2), rv b1, iv dr, iv (Int32.ofNat rr), rv b5, rv b9, rv b16, iv o19, .unset, .unset, .unset, .unset, .unset] [(.int (-1 : Int32)), (.int (3 : Int32)), (.ref b20), (.ref b20)]))
    obtain ⟨T24, h24, X24, e24, W24, A24, st24⟩ := own_iastore X23 hx hZ e23 A23 (i := 3) (by decide) (by decide) (g := (mkF m 327 #[iv wa, iv wb, iv wc, iv wd, iv (Int32.ofNat n), iv (Int32.ofNat s0), iv fl, iv (Int32.ofNat w), iv (Int32.ofNat s0), iv (Int32.ofNat s1), iv (Int32.ofNat s2), rv b1, iv dr, iv (Int32.ofNat rr), rv b5, rv b9, rv b16, iv o19, .unset, .unset, .unset, .unset, .unset] [(.int (-1 : Int32)), (.int (3 : Int32)), (.ref b20), (.ref b20)])) rfl rfl (hb hby at_327)
    have H0_24 := H0_23.other W24 ne_b1_b20
    have H1_24 := H1_23.other W24 ne_b5_b20
    have H2_24 := H2_23.other W24 ne_b9_b20
    have Eq19_24 := Eq19_23.wr W24
    have Vq18K_24 := Vq18K_23.other W24 ne_aK_b20
    have Vq18T_24 := Vq18T_23.other W24 ne_aT_b20
    have Vq18O_24 := Vq18O_23.other W24 ne_aO_b20
    have Fq19_keys_24 := Fq19_keys_23.other W24 (Or.inl ne_b16_b20)
    have Fq19_retaken_24 := Fq19_retaken_23.other W24 (Or.inl ne_b16_b20)
    have Fq19_offeredFrom_24 := Fq19_offeredFrom_23.other W24 (Or.inl ne_b16_b20)
    have Fq19_sorted_24 := Fq19_sorted_23.other W24 (Or.inl ne_b16_b20)
    have Fq19_nextKey_24 := Fq19_nextKey_23.other W24 (Or.inl ne_b16_b20)
    have Fq19_retakenAt_24 := Fq19_retakenAt_23.other W24 (Or.inl ne_b16_b20)
    have Fq19_retakenEnd_24 := Fq19_retakenEnd_23.other W24 (Or.inl ne_b16_b20)
    have Z24 : n0 ≤ h24.size := Nat.le_trans Z23 (Keep.of_wr W24).1
    have N24 := Fr.snoc X24 N23 g_b20
    refine own_go st24 ?_
    show OwnFin p e below s _ _ _ (T24.setTop (mkF m 328 #[iv wa, iv wb, iv wc, iv wd, iv (Int32.ofNat n), iv (Int32.ofNat s0), iv fl, iv (Int32.ofNat w), iv (Int32.ofNat s0), iv (Int32.ofNat s1), iv (Int32.ofNat s2), rv b1, iv dr, iv (Int32.ofNat rr), rv b5, rv b9, rv b16, iv o19, .unset, .unset, .unset, .unset, .unset] [(.ref b20)]))
    refine own_go (fun t_ k_ => XS.astore X24.here hx rfl (hb hby at_328) rfl rfl (l' := #[iv wa, iv wb, iv wc, iv wd, iv (Int32.ofNat n), iv (Int32.ofNat s0), iv fl, iv (Int32.ofNat w), iv (Int32.ofNat s0), iv (Int32.ofNat s1), iv (Int32.ofNat s2), rv b1, iv dr, iv (Int32.ofNat rr), rv b5, rv b9, rv b16, iv o19, rv b20, .unset, .unset, .unset, .unset]) rfl k_) ?_
    show OwnFin p e below s _ _ _ (T24.setTop (mkF m 330 #[iv wa, iv wb, iv wc, iv wd, iv (Int32.ofNat n), iv (Int32.ofNat s0), iv fl, iv (Int32.ofNat w), iv (Int32.ofNat s0), iv (Int32.ofNat s1), iv (Int32.ofNat s2), rv b1, iv dr, iv (Int32.ofNat rr), rv b5, rv b9, rv b16, iv o19, rv b20, .unset, .unset, .unset, .unset] []))
    have hra0 : ra19 = 0 := by omega
    have tl2 : ∀ (mf : Nat → Int32) (x : Int64) (re : Nat) (gT : Nat → Value) (l19 : Slot) (l20 : Slot) (T1 : State) (locs1 : List Loc) (h1 : Heap), Stand p l e room_1 s m #[(.int wa), (.int wb), (.int wc), (.int wd)] below meth c T1 locs1 ((0 + 1 + 1 + 1 + 0 + 0 + 0 + 1 + 6) + 1 + 0 + 1) ((0 + 3 + 3 + 3 + 0 + 0 + 0 + 11 + 17) + 5 + 0 + 4) → T1.heap = h1 → Fr n0 locs1 → n0 ≤ h1.size → OwnArr Z h1 b1 .int 3 (fun k => .int (Int32.ofNat (own_tri q0 q1 q2 k))) → OwnArr Z h1 b5 .boolean 3 (fun k => .int (own_pr n s0 s1 s2 k)) → OwnArr Z h1 b9 .int 3 (fun j => .int (own_e n s0 s1 s2 q0 q1 q2 j)) → Exa Z h1 b16 "com/example/nearside/nearside/slotted/delay/FairBack" → OwnArr Z h1 aK .long 3 (fun j => .long (own_fin n s0 s1 s2 q0 q1 q2 j)) → OwnArr Z h1 aT .long 3 gT → Fld Z h1 b16 "com/example/nearside/nearside/slotted/delay/FairBack" "keys" "[J" (.ref aK) → Fld Z h1 b16 "com/example/nearside/nearside/slotted/delay/FairBack" "retaken" "[J" (.ref aT) → Fld Z h1 b16 "com/example/nearside/nearside/slotted/delay/FairBack" "offeredFrom" "[I" (.ref aO) → Fld Z h1 b16 "com/example/nearside/nearside/slotted/delay/FairBack" "sorted" "I" (.int (Int32.ofNat n)) → Fld Z h1 b16 "com/example/nearside/nearside/slotted/delay/FairBack" "nextKey" "I" (.int (Int32.ofNat nk19)) → Fld Z h1 b16 "com/example/nearside/nearside/slotted/delay/FairBack" "retakenAt" "I" (.int (Int32.ofNat ra19)) → Fld Z h1 b16 "com/example/nearside/nearside/slotted/delay/FairBack" "retakenEnd" "I" (.int (Int32.ofNat re)) → OwnArr Z h1 b20 .int 4 (fun k => .int (mf k)) → (re ≤ 1) → (re = 1 → gT 0 = .long x) → (own_chk n (own_fin n s0 s1 s2 q0 q1 q2) x re nk19 ra19 mf = true) → (One l19) → (One l20) → OwnFin p e below s (fun v h L => v = some (.int 1) ∧ Fr n0 L) room_1.cells room_1.slots (T1.setTop (mkF m 497 #[iv wa, iv wb, iv wc, iv wd, iv (Int32.ofNat n), iv (Int32.ofNat s0), iv fl, iv (Int32.ofNat w), iv (Int32.ofNat s0), iv (Int32.ofNat s1), iv (Int32.ofNat s2), rv b1, iv dr, iv (Int32.ofNat rr), rv b5, rv b9, rv b16, iv o19, rv b20, l19, l20, .unset, .unset] [])) := by
      intro mf x re gT l19 l20 T1 locs1 h1 X1 e1 N1 Z1 H0 H1 H2 H3 H4 H5 H6 H7 H8 H9 H10 H11 H12 H13 hre hTx hchk hl19 hl20
      refine own_go (fun t_ k_ => XS.aload X1.here hx rfl (hb hby at_497) rfl rfl k_) ?_
      show OwnFin p e below s _ _ _ (T1.setTop (mkF m 499 #[iv wa, iv wb, iv wc, iv wd, iv (Int32.ofNat n), iv (Int32.ofNat s0), iv fl, iv (Int32.ofNat w), iv (Int32.ofNat s0), iv (Int32.ofNat s1), iv (Int32.ofNat s2), rv b1, iv dr, iv (Int32.ofNat rr), rv b5, rv b9, rv b16, iv o19, rv b20, l19, l20, .unset, .unset] [(.ref b16)]))
      obtain ⟨v25, T25, L25, X25, hQ25, st25⟩ := own_callV X1 hx hZ (y := (⟨"com/example/nearside/nearside/slotted/delay/FairBack", "next", "()I"⟩ : MethodName)) (z := (⟨"com/example/nearside/nearside/slotted/delay/FairBack", "next", "()I"⟩ : MethodName)) hown (hw _ (List.mem_of_getElem? (i := 50) rfl)) (hw _ (List.mem_of_getElem? (i := 51) rfl)) (notFace_of_selects (args := #[]) (mvT hZ (hw _ (List.mem_of_getElem? (i := 53) rfl)))) (hw _ (List.mem_of_getElem? (i := 53) rfl)) (hw _ (List.mem_of_getElem? (i := 52) rfl)) (hw _ (List.mem_of_getElem? (i := 8) rfl)) (hw _ (List.mem_of_getElem? (i := 54) rfl)) (by decide) (W := 0) (rm7 l Z a0 hw [] b16 aK aT aO n nk19 ra19 re (own_fin n s0 s1 s2 q0 q1 q2) x gT h1 n0 Z1 (by omega) hk19 hre (by omega) hTx H3 H6 H7 H8 H9 H10 H11 H12 H4 H5 ne_b16_aK ne_b16_aT ne_aK_aT g_b16) (by decide) (by decide) H3 (g := (mkF m 499 #[iv wa, iv wb, iv wc, iv wd, iv (Int32.ofNat n), iv (Int32.ofNat s0), iv fl, iv (Int32.ofNat w), iv (Int32.ofNat s0), iv (Int32.ofNat s1), iv (Int32.ofNat s2), rv b1, iv dr, iv (Int32.ofNat rr), rv b5, rv b9, rv b16, iv o19, rv b20, l19, l20, .unset, .unset] [(.ref b16)])) rfl (by rw [hml]; rfl) (argsL := []) (rest := []) (lenOf pd_0_6 rfl) rfl (by show 2 * 0 + _ ≤ _; exact Nat.le_of_eq rfl) (hb hby at_499) e1 rfl (by decide) (by decide)
      obtain ⟨o25, nk25, ra25, hx25, hk25, hr25, rfl, Nq25, Kq25, Eq25, Fq25_keys, Fq25_retaken, Fq25_offeredFrom, Fq25_sorted, Fq25_nextKey, Fq25_retakenAt, Fq25_retakenEnd⟩ := hQ25
      have N25 := Fr.app N1 Nq25
      have H0_25 := H0.keep Kq25 (ninS ne_b1_b16 nin0)
      have H1_25 := H1.keep Kq25 (ninS ne_b5_b16 nin0)
      have H2_25 := H2.keep Kq25 (ninS ne_b9_b16 nin0)
      have H3_25 := H3.keep Kq25
      have H4_25 := H4.keep Kq25 (ninS (Ne.symm ne_b16_aK) nin0)
      have H5_25 := H5.keep Kq25 (ninS (Ne.symm ne_b16_aT) nin0)
      have H13_25 := H13.keep Kq25 (ninS (Ne.symm ne_b16_b20) nin0)
      have Z25 : n0 ≤ T25.heap.size := Nat.le_trans Z1 Kq25.1
      refine own_go st25 ?_
      show OwnFin p e below s _ _ _ (T25.setTop (mkF m 502 #[iv wa, iv wb, iv wc, iv wd, iv (Int32.ofNat n), iv (Int32.ofNat s0), iv fl, iv (Int32.ofNat w), iv (Int32.ofNat s0), iv (Int32.ofNat s1), iv (Int32.ofNat s2), rv b1, iv dr, iv (Int32.ofNat rr), rv b5, rv b9, rv b16, iv o19, rv b20, l19, l20, .unset, .unset] [(.int o25)]))
      refine own_go (fun t_ k_ => XS.istore X25.here hx rfl (hb hby at_502) rfl (l' := #[iv wa, iv wb, iv wc, iv wd, iv (Int32.ofNat n), iv (Int32.ofNat s0), iv fl, iv (Int32.ofNat w), iv (Int32.ofNat s0), iv (Int32.ofNat s1), iv (Int32.ofNat s2), rv b1, iv dr, iv (Int32.ofNat rr), rv b5, rv b9, rv b16, iv o19, rv b20, iv o25, l20, .unset, .unset]) (by rcases hl19 with rfl | ⟨w, rfl, hw9⟩ <;> first | rfl | (cases w <;> first | rfl | (simp [Value.category] at hw9; done))) k_) ?_
      show OwnFin p e below s _ _ _ (T25.setTop (mkF m 504 #[iv wa, iv wb, iv wc, iv wd, iv (Int32.ofNat n), iv (Int32.ofNat s0), iv fl, iv (Int32.ofNat w), iv (Int32.ofNat s0), iv (Int32.ofNat s1), iv (Int32.ofNat s2), rv b1, iv dr, iv (Int32.ofNat rr), rv b5, rv b9, rv b16, iv o19, rv b20, iv o25, l20, .unset, .unset] []))
      refine own_go (fun t_ k_ => XS.aload X25.here hx rfl (hb hby at_504) rfl rfl k_) ?_
      show OwnFin p e below s _ _ _ (T25.setTop (mkF m 506 #[iv wa, iv wb, iv wc, iv wd, iv (Int32.ofNat n), iv (Int32.ofNat s0), iv fl, iv (Int32.ofNat w), iv (Int32.ofNat s0), iv (Int32.ofNat s1), iv (Int32.ofNat s2), rv b1, iv dr, iv (Int32.ofNat rr), rv b5, rv b9, rv b16, iv o19, rv b20, iv o25, l20, .unset, .unset] [(.ref b16)]))
      obtain ⟨v26, T26, L26, X26, hQ26, st26⟩ := own_callV X25 hx hZ (y := (⟨"com/example/nearside/nearside/slotted/delay/FairBack", "next", "()I"⟩ : MethodName)) (z := (⟨"com/example/nearside/nearside/slotted/delay/FairBack", "next", "()I"⟩ : MethodName)) hown (hw _ (List.mem_of_getElem? (i := 50) rfl)) (hw _ (List.mem_of_getElem? (i := 51) rfl)) (notFace_of_selects (args := #[]) (mvT hZ (hw _ (List.mem_of_getElem? (i := 53) rfl)))) (hw _ (List.mem_of_getElem? (i := 53) rfl)) (hw _ (List.mem_of_getElem? (i := 52) rfl)) (hw _ (List.mem_of_getElem? (i := 8) rfl)) (hw _ (List.mem_of_getElem? (i := 54) rfl)) (by decide) (W := 0) (rm7 l Z a0 hw [] b16 aK aT aO n nk25 ra25 re (own_fin n s0 s1 s2 q0 q1 q2) x gT T25.heap n0 Z25 (by omega) hk25 hre hr25 hTx Eq25 Fq25_keys Fq25_retaken Fq25_offeredFrom Fq25_sorted Fq25_nextKey Fq25_retakenAt Fq25_retakenEnd H4_25 H5_25 ne_b16_aK ne_b16_aT ne_aK_aT g_b16) (by decide) (by decide) Eq25 (g := (mkF m 506 #[iv wa, iv wb, iv wc, iv wd, iv (Int32.ofNat n), iv (Int32.ofNat s0), iv fl, iv (Int32.ofNat w), iv (Int32.ofNat s0), iv (Int32.ofNat s1), iv (Int32.ofNat s2), rv b1, iv dr, iv (Int32.ofNat rr), rv b5, rv b9, rv b16, iv o19, rv b20, iv o25, l20, .unset, .unset] [(.ref b16)])) rfl (by rw [hml]; rfl) (argsL := []) (rest := []) (lenOf pd_0_6 rfl) rfl (by show 2 * 0 + _ ≤ _; exact Nat.le_of_eq rfl) (hb hby at_506) rfl rfl (by decide) (by decide)
      obtain ⟨o26, nk26, ra26, hx26, hk26, hr26, rfl, Nq26, Kq26, Eq26, Fq26_keys, Fq26_retaken, Fq26_offeredFrom, Fq26_sorted, Fq26_nextKey, Fq26_retakenAt, Fq26_retakenEnd⟩ := hQ26
      have N26 := Fr.app N25 Nq26
      have H0_26 := H0_25.keep Kq26 (ninS ne_b1_b16 nin0)
      have H1_26 := H1_25.keep Kq26 (ninS ne_b5_b16 nin0)
      have H2_26 := H2_25.keep Kq26 (ninS ne_b9_b16 nin0)
      have Eq25_26 := Eq25.keep Kq26
      have H4_26 := H4_25.keep Kq26 (ninS (Ne.symm ne_b16_aK) nin0)
      have H5_26 := H5_25.keep Kq26 (ninS (Ne.symm ne_b16_aT) nin0)
      have H13_26 := H13_25.keep Kq26 (ninS (Ne.symm ne_b16_b20) nin0)
      have Z26 : n0 ≤ T26.heap.size := Nat.le_trans Z25 Kq26.1
      refine own_go st26 ?_
      show OwnFin p e below s _ _ _ (T26.setTop (mkF m 509 #[iv wa, iv wb, iv wc, iv wd, iv (Int32.ofNat n), iv (Int32.ofNat s0), iv fl, iv (Int32.ofNat w), iv (Int32.ofNat s0), iv (Int32.ofNat s1), iv (Int32.ofNat s2), rv b1, iv dr, iv (Int32.ofNat rr), rv b5, rv b9, rv b16, iv o19, rv b20, iv o25, l20, .unset, .unset] [(.int o26)]))
      refine own_go (fun t_ k_ => XS.istore X26.here hx rfl (hb hby at_509) rfl (l' := #[iv wa, iv wb, iv wc, iv wd, iv (Int32.ofNat n), iv (Int32.ofNat s0), iv fl, iv (Int32.ofNat w), iv (Int32.ofNat s0), iv (Int32.ofNat s1), iv (Int32.ofNat s2), rv b1, iv dr, iv (Int32.ofNat rr), rv b5, rv b9, rv b16, iv o19, rv b20, iv o25, iv o26, .unset, .unset]) (by rcases hl20 with rfl | ⟨w, rfl, hw9⟩ <;> first | rfl | (cases w <;> first | rfl | (simp [Value.category] at hw9; done))) k_) ?_
      show OwnFin p e below s _ _ _ (T26.setTop (mkF m 511 #[iv wa, iv wb, iv wc, iv wd, iv (Int32.ofNat n), iv (Int32.ofNat s0), iv fl, iv (Int32.ofNat w), iv (Int32.ofNat s0), iv (Int32.ofNat s1), iv (Int32.ofNat s2), rv b1, iv dr, iv (Int32.ofNat rr), rv b5, rv b9, rv b16, iv o19, rv b20, iv o25, iv o26, .unset, .unset] []))
      refine own_go (fun t_ k_ => XS.aload X26.here hx rfl (hb hby at_511) rfl rfl k_) ?_
      show OwnFin p e below s _ _ _ (T26.setTop (mkF m 513 #[iv wa, iv wb, iv wc, iv wd, iv (Int32.ofNat n), iv (Int32.ofNat s0), iv fl, iv (Int32.ofNat w), iv (Int32.ofNat s0), iv (Int32.ofNat s1), iv (Int32.ofNat s2), rv b1, iv dr, iv (Int32.ofNat rr), rv b5, rv b9, rv b16, iv o19, rv b20, iv o25, iv o26, .unset, .unset] [(.ref b16)]))
      obtain ⟨v27, T27, L27, X27, hQ27, st27⟩ := own_callV X26 hx hZ (y := (⟨"com/example/nearside/nearside/slotted/delay/FairBack", "next", "()I"⟩ : MethodName)) (z := (⟨"com/example/nearside/nearside/slotted/delay/FairBack", "next", "()I"⟩ : MethodName)) hown (hw _ (List.mem_of_getElem? (i := 50) rfl)) (hw _ (List.mem_of_getElem? (i := 51) rfl)) (notFace_of_selects (args := #[]) (mvT hZ (hw _ (List.mem_of_getElem? (i := 53) rfl)))) (hw _ (List.mem_of_getElem? (i := 53) rfl)) (hw _ (List.mem_of_getElem? (i := 52) rfl)) (hw _ (List.mem_of_getElem? (i := 8) rfl)) (hw _ (List.mem_of_getElem? (i := 54) rfl)) (by decide) (W := 0) (rm7 l Z a0 hw [] b16 aK aT aO n nk26 ra26 re (own_fin n s0 s1 s2 q0 q1 q2) x gT T26.heap n0 Z26 (by omega) hk26 hre hr26 hTx Eq26 Fq26_keys Fq26_retaken Fq26_offeredFrom Fq26_sorted Fq26_nextKey Fq26_retakenAt Fq26_retakenEnd H4_26 H5_26 ne_b16_aK ne_b16_aT ne_aK_aT g_b16) (by decide) (by decide) Eq26 (g := (mkF m 513 #[iv wa, iv wb, iv wc, iv wd, iv (Int32.ofNat n), iv (Int32.ofNat s0), iv fl, iv (Int32.ofNat w), iv (Int32.ofNat s0), iv (Int32.ofNat s1), iv (Int32.ofNat s2), rv b1, iv dr, iv (Int32.ofNat rr), rv b5, rv b9, rv b16, iv o19, rv b20, iv o25, iv o26, .unset, .unset] [(.ref b16)])) rfl (by rw [hml]; rfl) (argsL := []) (rest := []) (lenOf pd_0_6 rfl) rfl (by show 2 * 0 + _ ≤ _; exact Nat.le_of_eq rfl) (hb hby at_513) rfl rfl (by decide) (by decide)
      obtain ⟨o27, nk27, ra27, hx27, hk27, hr27, rfl, Nq27, Kq27, Eq27, Fq27_keys, Fq27_retaken, Fq27_offeredFrom, Fq27_sorted, Fq27_nextKey, Fq27_retakenAt, Fq27_retakenEnd⟩ := hQ27
      have N27 := Fr.app N26 Nq27
      have H0_27 := H0_26.keep Kq27 (ninS ne_b1_b16 nin0)
      have H1_27 := H1_26.keep Kq27 (ninS ne_b5_b16 nin0)
      have H2_27 := H2_26.keep Kq27 (ninS ne_b9_b16 nin0)
      have Eq26_27 := Eq26.keep Kq27
      have H4_27 := H4_26.keep Kq27 (ninS (Ne.symm ne_b16_aK) nin0)
      have H5_27 := H5_26.keep Kq27 (ninS (Ne.symm ne_b16_aT) nin0)
      have H13_27 := H13_26.keep Kq27 (ninS (Ne.symm ne_b16_b20) nin0)
      have Z27 : n0 ≤ T27.heap.size := Nat.le_trans Z26 Kq27.1
      refine own_go st27 ?_
      show OwnFin p e below s _ _ _ (T27.setTop (mkF m 516 #[iv wa, iv wb, iv wc, iv wd, iv (Int32.ofNat n), iv (Int32.ofNat s0), iv fl, iv (Int32.ofNat w), iv (Int32.ofNat s0), iv (Int32.ofNat s1), iv (Int32.ofNat s2), rv b1, iv dr, iv (Int32.ofNat rr), rv b5, rv b9, rv b16, iv o19, rv b20, iv o25, iv o26, .unset, .unset] [(.int o27)]))
      refine own_go (fun t_ k_ => XS.istore X27.here hx rfl (hb hby at_516) rfl (l' := #[iv wa, iv wb, iv wc, iv wd, iv (Int32.ofNat n), iv (Int32.ofNat s0), iv fl, iv (Int32.ofNat w), iv (Int32.ofNat s0), iv (Int32.ofNat s1), iv (Int32.ofNat s2), rv b1, iv dr, iv (Int32.ofNat rr), rv b5, rv b9, rv b16, iv o19, rv b20, iv o25, iv o26, iv o27, .unset]) rfl k_) ?_
      show OwnFin p e below s _ _ _ (T27.setTop (mkF m 518 #[iv wa, iv wb, iv wc, iv wd, iv (Int32.ofNat n), iv (Int32.ofNat s0), iv fl, iv (Int32.ofNat w), iv (Int32.ofNat s0), iv (Int32.ofNat s1), iv (Int32.ofNat s2), rv b1, iv dr, iv (Int32.ofNat rr), rv b5, rv b9, rv b16, iv o19, rv b20, iv o25, iv o26, iv o27, .unset] []))
      refine own_go (fun t_ k_ => XS.aload X27.here hx rfl (hb hby at_518) rfl rfl k_) ?_
      show OwnFin p e below s _ _ _ (T27.setTop (mkF m 520 #[iv wa, iv wb, iv wc, iv wd, iv (Int32.ofNat n), iv (Int32.ofNat s0), iv fl, iv (Int32.ofNat w), iv (Int32.ofNat s0), iv (Int32.ofNat s1), iv (Int32.ofNat s2), rv b1, iv dr, iv (Int32.ofNat rr), rv b5, rv b9, rv b16, iv o19, rv b20, iv o25, iv o26, iv o27, .unset] [(.ref b16)]))
      obtain ⟨v28, T28, L28, X28, hQ28, st28⟩ := own_callV X27 hx hZ (y := (⟨"com/example/nearside/nearside/slotted/delay/FairBack", "next", "()I"⟩ : MethodName)) (z := (⟨"com/example/nearside/nearside/slotted/delay/FairBack", "next", "()I"⟩ : MethodName)) hown (hw _ (List.mem_of_getElem? (i := 50) rfl)) (hw _ (List.mem_of_getElem? (i := 51) rfl)) (notFace_of_selects (args := #[]) (mvT hZ (hw _ (List.mem_of_getElem? (i := 53) rfl)))) (hw _ (List.mem_of_getElem? (i := 53) rfl)) (hw _ (List.mem_of_getElem? (i := 52) rfl)) (hw _ (List.mem_of_getElem? (i := 8) rfl)) (hw _ (List.mem_of_getElem? (i := 54) rfl)) (by decide) (W := 0) (rm7 l Z a0 hw [] b16 aK aT aO n nk27 ra27 re (own_fin n s0 s1 s2 q0 q1 q2) x gT T27.heap n0 Z27 (by omega) hk27 hre hr27 hTx Eq27 Fq27_keys Fq27_retaken Fq27_offeredFrom Fq27_sorted Fq27_nextKey Fq27_retakenAt Fq27_retakenEnd H4_27 H5_27 ne_b16_aK ne_b16_aT ne_aK_aT g_b16) (by decide) (by decide) Eq27 (g := (mkF m 520 #[iv wa, iv wb, iv wc, iv wd, iv (Int32.ofNat n), iv (Int32.ofNat s0), iv fl, iv (Int32.ofNat w), iv (Int32.ofNat s0), iv (Int32.ofNat s1), iv (Int32.ofNat s2), rv b1, iv dr, iv (Int32.ofNat rr), rv b5, rv b9, rv b16, iv o19, rv b20, iv o25, iv o26, iv o27, .unset] [(.ref b16)])) rfl (by rw [hml]; rfl) (argsL := []) (rest := []) (lenOf pd_0_6 rfl) rfl (by show 2 * 0 + _ ≤ _; exact Nat.le_of_eq rfl) (hb hby at_520) rfl rfl (by decide) (by decide)
      obtain ⟨o28, nk28, ra28, hx28, hk28, hr28, rfl, Nq28, Kq28, Eq28, Fq28_keys, Fq28_retaken, Fq28_offeredFrom, Fq28_sorted, Fq28_nextKey, Fq28_retakenAt, Fq28_retakenEnd⟩ := hQ28
      have N28 := Fr.app N27 Nq28
      have H0_28 := H0_27.keep Kq28 (ninS ne_b1_b16 nin0)
      have H1_28 := H1_27.keep Kq28 (ninS ne_b5_b16 nin0)
      have H2_28 := H2_27.keep Kq28 (ninS ne_b9_b16 nin0)
      have Eq27_28 := Eq27.keep Kq28
      have H4_28 := H4_27.keep Kq28 (ninS (Ne.symm ne_b16_aK) nin0)
      have H5_28 := H5_27.keep Kq28 (ninS (Ne.symm ne_b16_aT) nin0)
      have H13_28 := H13_27.keep Kq28 (ninS (Ne.symm ne_b16_b20) nin0)
      have Z28 : n0 ≤ T28.heap.size := Nat.le_trans Z27 Kq28.1
      refine own_go st28 ?_
      show OwnFin p e below s _ _ _ (T28.setTop (mkF m 523 #[iv wa, iv wb, iv wc, iv wd, iv (Int32.ofNat n), iv (Int32.ofNat s0), iv fl, iv (Int32.ofNat w), iv (Int32.ofNat s0), iv (Int32.ofNat s1), iv (Int32.ofNat s2), rv b1, iv dr, iv (Int32.ofNat rr), rv b5, rv b9, rv b16, iv o19, rv b20, iv o25, iv o26, iv o27, .unset] [(.int o28)]))
      refine own_go (fun t_ k_ => XS.istore X28.here hx rfl (hb hby at_523) rfl (l' := #[iv wa, iv wb, iv wc, iv wd, iv (Int32.ofNat n), iv (Int32.ofNat s0), iv fl, iv (Int32.ofNat w), iv (Int32.ofNat s0), iv (Int32.ofNat s1), iv (Int32.ofNat s2), rv b1, iv dr, iv (Int32.ofNat rr), rv b5, rv b9, rv b16, iv o19, rv b20, iv o25, iv o26, iv o27, iv o28]) rfl k_) ?_
      show OwnFin p e below s _ _ _ (T28.setTop (mkF m 525 #[iv wa, iv wb, iv wc, iv wd, iv (Int32.ofNat n), iv (Int32.ofNat s0), iv fl, iv (Int32.ofNat w), iv (Int32.ofNat s0), iv (Int32.ofNat s1), iv (Int32.ofNat s2), rv b1, iv dr, iv (Int32.ofNat rr), rv b5, rv b9, rv b16, iv o19, rv b20, iv o25, iv o26, iv o27, iv o28] []))
      have hC := own_chk4 hchk hx25 hx26 hx27 hx28
      refine own_go (fun t_ k_ => XS.iload X28.here hx rfl (hb hby at_525) rfl k_) ?_
      show OwnFin p e below s _ _ _ (T28.setTop (mkF m 527 #[iv wa, iv wb, iv wc, iv wd, iv (Int32.ofNat n), iv (Int32.ofNat s0), iv fl, iv (Int32.ofNat w), iv (Int32.ofNat s0), iv (Int32.ofNat s1), iv (Int32.ofNat s2), rv b1, iv dr, iv (Int32.ofNat rr), rv b5, rv b9, rv b16, iv o19, rv b20, iv o25, iv o26, iv o27, iv o28] [(.int o25)]))
      refine own_go (fun t_ k_ => XS.aload X28.here hx rfl (hb hby at_527) rfl rfl k_) ?_
      show OwnFin p e below s _ _ _ (T28.setTop (mkF m 529 #[iv wa, iv wb, iv wc, iv wd, iv (Int32.ofNat n), iv (Int32.ofNat s0), iv fl, iv (Int32.ofNat w), iv (Int32.ofNat s0), iv (Int32.ofNat s1), iv (Int32.ofNat s2), rv b1, iv dr, iv (Int32.ofNat rr), rv b5, rv b9, rv b16, iv o19, rv b20, iv o25, iv o26, iv o27, iv o28] [(.ref b20), (.int o25)]))
      refine own_go (fun t_ k_ => XS.iconst X28.here hx rfl (hb hby at_529) k_) ?_
      show OwnFin p e below s _ _ _ (T28.setTop (mkF m 530 #[iv wa, iv wb, iv wc, iv wd, iv (Int32.ofNat n), iv (Int32.ofNat s0), iv fl, iv (Int32.ofNat w), iv (Int32.ofNat s0), iv (Int32.ofNat s1), iv (Int32.ofNat s2), rv b1, iv dr, iv (Int32.ofNat rr), rv b5, rv b9, rv b16, iv o19, rv b20, iv o25, iv o26, iv o27, iv o28] [(.int (0 : Int32)), (.ref b20), (.int o25)]))
      refine own_go (own_iaload X28 hx hZ rfl H13_28 (i := 0) (by decide) (by decide) (g := (mkF m 530 #[iv wa, iv wb, iv wc, iv wd, iv (Int32.ofNat n), iv (Int32.ofNat s0), iv fl, iv (Int32.ofNat w), iv (Int32.ofNat s0), iv (Int32.ofNat s1), iv (Int32.ofNat s2), rv b1, iv dr, iv (Int32.ofNat rr), rv b5, rv b9, rv b16, iv o19, rv b20, iv o25, iv o26, iv o27, iv o28] [(.int (0 : Int32)), (.ref b20), (.int o25)])) rfl rfl (hb hby at_530)) ?_
      show OwnFin p e below s _ _ _ (T28.setTop (mkF m 531 #[iv wa, iv wb, iv wc, iv wd, iv (Int32.ofNat n), iv (Int32.ofNat s0), iv fl, iv (Int32.ofNat w), iv (Int32.ofNat s0), iv (Int32.ofNat s1), iv (Int32.ofNat s2), rv b1, iv dr, iv (Int32.ofNat rr), rv b5, rv b9, rv b16, iv o19, rv b20, iv o25, iv o26, iv o27, iv o28] [(.int (mf 0)), (.int o25)]))
      have hc531 : o25 = (mf 0) := hC.1
      refine own_go (fun t_ k_ => XS.icmpNo X28.here hx rfl (hb hby at_531) rfl (teq hc531).2 k_) ?_
      show OwnFin p e below s _ _ _ (T28.setTop (mkF m 534 #[iv wa, iv wb, iv wc, iv wd, iv (Int32.ofNat n), iv (Int32.ofNat s0), iv fl, iv (Int32.ofNat w), iv (Int32.ofNat s0), iv (Int32.ofNat s1), iv (Int32.ofNat s2), rv b1, iv dr, iv (Int32.ofNat rr), rv b5, rv b9, rv b16, iv o19, rv b20, iv o25, iv o26, iv o27, iv o28] []))
      refine own_go (fun t_ k_ => XS.iload X28.here hx rfl (hb hby at_534) rfl k_) ?_
      show OwnFin p e below s _ _ _ (T28.setTop (mkF m 536 #[iv wa, iv wb, iv wc, iv wd, iv (Int32.ofNat n), iv (Int32.ofNat s0), iv fl, iv (Int32.ofNat w), iv (Int32.ofNat s0), iv (Int32.ofNat s1), iv (Int32.ofNat s2), rv b1, iv dr, iv (Int32.ofNat rr), rv b5, rv b9, rv b16, iv o19, rv b20, iv o25, iv o26, iv o27, iv o28] [(.int o26)]))
      refine own_go (fun t_ k_ => XS.aload X28.here hx rfl (hb hby at_536) rfl rfl k_) ?_
      show OwnFin p e below s _ _ _ (T28.setTop (mkF m 538 #[iv wa, iv wb, iv wc, iv wd, iv (Int32.ofNat n), iv (Int32.ofNat s0), iv fl, iv (Int32.ofNat w), iv (Int32.ofNat s0), iv (Int32.ofNat s1), iv (Int32.ofNat s2), rv b1, iv dr, iv (Int32.ofNat rr), rv b5, rv b9, rv b16, iv o19, rv b20, iv o25, iv o26, iv o27, iv o28] [(.ref b20), (.int o26)]))
      refine own_go (fun t_ k_ => XS.iconst X28.here hx rfl (hb hby at_538) k_) ?_
      show OwnFin p e below s _ _ _ (T28.setTop (mkF m 539 #[iv wa, iv wb, iv wc, iv wd, iv (Int32.ofNat n), iv (Int32.ofNat s0), iv fl, iv (Int32.ofNat w), iv (Int32.ofNat s0), iv (Int32.ofNat s1), iv (Int32.ofNat s2), rv b1, iv dr, iv (Int32.ofNat rr), rv b5, rv b9, rv b16, iv o19, rv b20, iv o25, iv o26, iv o27, iv o28] [(.int (1 : Int32)), (.ref b20), (.int o26)]))
      refine own_go (own_iaload X28 hx hZ rfl H13_28 (i := 1) (by decide) (by decide) (g := (mkF m 539 #[iv wa, iv wb, iv wc, iv wd, iv (Int32.ofNat n), iv (Int32.ofNat s0), iv fl, iv (Int32.ofNat w), iv (Int32.ofNat s0), iv (Int32.ofNat s1), iv (Int32.ofNat s2), rv b1, iv dr, iv (Int32.ofNat rr), rv b5, rv b9, rv b16, iv o19, rv b20, iv o25, iv o26, iv o27, iv o28] [(.int (1 : Int32)), (.ref b20), (.int o26)])) rfl rfl (hb hby at_539)) ?_
      show OwnFin p e below s _ _ _ (T28.setTop (mkF m 540 #[iv wa, iv wb, iv wc, iv wd, iv (Int32.ofNat n), iv (Int32.ofNat s0), iv fl, iv (Int32.ofNat w), iv (Int32.ofNat s0), iv (Int32.ofNat s1), iv (Int32.ofNat s2), rv b1, iv dr, iv (Int32.ofNat rr), rv b5, rv b9, rv b16, iv o19, rv b20, iv o25, iv o26, iv o27, iv o28] [(.int (mf 1)), (.int o26)]))
      have hc540 : o26 = (mf 1) := hC.2.1
      refine own_go (fun t_ k_ => XS.icmpNo X28.here hx rfl (hb hby at_540) rfl (teq hc540).2 k_) ?_
      show OwnFin p e below s _ _ _ (T28.setTop (mkF m 543 #[iv wa, iv wb, iv wc, iv wd, iv (Int32.ofNat n), iv (Int32.ofNat s0), iv fl, iv (Int32.ofNat w), iv (Int32.ofNat s0), iv (Int32.ofNat s1), iv (Int32.ofNat s2), rv b1, iv dr, iv (Int32.ofNat rr), rv b5, rv b9, rv b16, iv o19, rv b20, iv o25, iv o26, iv o27, iv o28] []))
      refine own_go (fun t_ k_ => XS.iload X28.here hx rfl (hb hby at_543) rfl k_) ?_
      show OwnFin p e below s _ _ _ (T28.setTop (mkF m 545 #[iv wa, iv wb, iv wc, iv wd, iv (Int32.ofNat n), iv (Int32.ofNat s0), iv fl, iv (Int32.ofNat w), iv (Int32.ofNat s0), iv (Int32.ofNat s1), iv (Int32.ofNat s2), rv b1, iv dr, iv (Int32.ofNat rr), rv b5, rv b9, rv b16, iv o19, rv b20, iv o25, iv o26, iv o27, iv o28] [(.int o27)]))
      refine own_go (fun t_ k_ => XS.aload X28.here hx rfl (hb hby at_545) rfl rfl k_) ?_
      show OwnFin p e below s _ _ _ (T28.setTop (mkF m 547 #[iv wa, iv wb, iv wc, iv wd, iv (Int32.ofNat n), iv (Int32.ofNat s0), iv fl, iv (Int32.ofNat w), iv (Int32.ofNat s0), iv (Int32.ofNat s1), iv (Int32.ofNat s2), rv b1, iv dr, iv (Int32.ofNat rr), rv b5, rv b9, rv b16, iv o19, rv b20, iv o25, iv o26, iv o27, iv o28] [(.ref b20), (.int o27)]))
      refine own_go (fun t_ k_ => XS.iconst X28.here hx rfl (hb hby at_547) k_) ?_
      show OwnFin p e below s _ _ _ (T28.setTop (mkF m 548 #[iv wa, iv wb, iv wc, iv wd, iv (Int32.ofNat n), iv (Int32.ofNat s0), iv fl, iv (Int32.ofNat w), iv (Int32.ofNat s0), iv (Int32.ofNat s1), iv (Int32.ofNat s2), rv b1, iv dr, iv (Int32.ofNat rr), rv b5, rv b9, rv b16, iv o19, rv b20, iv o25, iv o26, iv o27, iv o28] [(.int (2 : Int32)), (.ref b20), (.int o27)]))
      refine own_go (own_iaload X28 hx hZ rfl H13_28 (i := 2) (by decide) (by decide) (g := (mkF m 548 #[iv wa, iv wb, iv wc, iv wd, iv (Int32.ofNat n), iv (Int32.ofNat s0), iv fl, iv (Int32.ofNat w), iv (Int32.ofNat s0), iv (Int32.ofNat s1), iv (Int32.ofNat s2), rv b1, iv dr, iv (Int32.ofNat rr), rv b5, rv b9, rv b16, iv o19, rv b20, iv o25, iv o26, iv o27, iv o28] [(.int (2 : Int32)), (.ref b20), (.int o27)])) rfl rfl (hb hby at_548)) ?_
      show OwnFin p e below s _ _ _ (T28.setTop (mkF m 549 #[iv wa, iv wb, iv wc, iv wd, iv (Int32.ofNat n), iv (Int32.ofNat s0), iv fl, iv (Int32.ofNat w), iv (Int32.ofNat s0), iv (Int32.ofNat s1), iv (Int32.ofNat s2), rv b1, iv dr, iv (Int32.ofNat rr), rv b5, rv b9, rv b16, iv o19, rv b20, iv o25, iv o26, iv o27, iv o28] [(.int (mf 2)), (.int o27)]))
      have hc549 : o27 = (mf 2) := hC.2.2.1
      refine own_go (fun t_ k_ => XS.icmpNo X28.here hx rfl (hb hby at_549) rfl (teq hc549).2 k_) ?_
      show OwnFin p e below s _ _ _ (T28.setTop (mkF m 552 #[iv wa, iv wb, iv wc, iv wd, iv (Int32.ofNat n), iv (Int32.ofNat s0), iv fl, iv (Int32.ofNat w), iv (Int32.ofNat s0), iv (Int32.ofNat s1), iv (Int32.ofNat s2), rv b1, iv dr, iv (Int32.ofNat rr), rv b5, rv b9, rv b16, iv o19, rv b20, iv o25, iv o26, iv o27, iv o28] []))
      refine own_go (fun t_ k_ => XS.iload X28.here hx rfl (hb hby at_552) rfl k_) ?_
      show OwnFin p e below s _ _ _ (T28.setTop (mkF m 554 #[iv wa, iv wb, iv wc, iv wd, iv (Int32.ofNat n), iv (Int32.ofNat s0), iv fl, iv (Int32.ofNat w), iv (Int32.ofNat s0), iv (Int32.ofNat s1), iv (Int32.ofNat s2), rv b1, iv dr, iv (Int32.ofNat rr), rv b5, rv b9, rv b16, iv o19, rv b20, iv o25, iv o26, iv o27, iv o28] [(.int o28)]))
      refine own_go (fun t_ k_ => XS.aload X28.here hx rfl (hb hby at_554) rfl rfl k_) ?_
      show OwnFin p e below s _ _ _ (T28.setTop (mkF m 556 #[iv wa, iv wb, iv wc, iv wd, iv (Int32.ofNat n), iv (Int32.ofNat s0), iv fl, iv (Int32.ofNat w), iv (Int32.ofNat s0), iv (Int32.ofNat s1), iv (Int32.ofNat s2), rv b1, iv dr, iv (Int32.ofNat rr), rv b5, rv b9, rv b16, iv o19, rv b20, iv o25, iv o26, iv o27, iv o28] [(.ref b20), (.int o28)]))
      refine own_go (fun t_ k_ => XS.iconst X28.here hx rfl (hb hby at_556) k_) ?_
      show OwnFin p e below s _ _ _ (T28.setTop (mkF m 557 #[iv wa, iv wb, iv wc, iv wd, iv (Int32.ofNat n), iv (Int32.ofNat s0), iv fl, iv (Int32.ofNat w), iv (Int32.ofNat s0), iv (Int32.ofNat s1), iv (Int32.ofNat s2), rv b1, iv dr, iv (Int32.ofNat rr), rv b5, rv b9, rv b16, iv o19, rv b20, iv o25, iv o26, iv o27, iv o28] [(.int (3 : Int32)), (.ref b20), (.int o28)]))
      refine own_go (own_iaload X28 hx hZ rfl H13_28 (i := 3) (by decide) (by decide) (g := (mkF m 557 #[iv wa, iv wb, iv wc, iv wd, iv (Int32.ofNat n), iv (Int32.ofNat s0), iv fl, iv (Int32.ofNat w), iv (Int32.ofNat s0), iv (Int32.ofNat s1), iv (Int32.ofNat s2), rv b1, iv dr, iv (Int32.ofNat rr), rv b5, rv b9, rv b16, iv o19, rv b20, iv o25, iv o26, iv o27, iv o28] [(.int (3 : Int32)), (.ref b20), (.int o28)])) rfl rfl (hb hby at_557)) ?_
      show OwnFin p e below s _ _ _ (T28.setTop (mkF m 558 #[iv wa, iv wb, iv wc, iv wd, iv (Int32.ofNat n), iv (Int32.ofNat s0), iv fl, iv (Int32.ofNat w), iv (Int32.ofNat s0), iv (Int32.ofNat s1), iv (Int32.ofNat s2), rv b1, iv dr, iv (Int32.ofNat rr), rv b5, rv b9, rv b16, iv o19, rv b20, iv o25, iv o26, iv o27, iv o28] [(.int (mf 3)), (.int o28)]))
      have hc558 : o28 = (mf 3) := hC.2.2.2
      refine own_go (fun t_ k_ => XS.icmpNo X28.here hx rfl (hb hby at_558) rfl (teq hc558).2 k_) ?_
      show OwnFin p e below s _ _ _ (T28.setTop (mkF m 561 #[iv wa, iv wb, iv wc, iv wd, iv (Int32.ofNat n), iv (Int32.ofNat s0), iv fl, iv (Int32.ofNat w), iv (Int32.ofNat s0), iv (Int32.ofNat s1), iv (Int32.ofNat s2), rv b1, iv dr, iv (Int32.ofNat rr), rv b5, rv b9, rv b16, iv o19, rv b20, iv o25, iv o26, iv o27, iv o28] []))
      refine own_go (fun t_ k_ => XS.iconst X28.here hx rfl (hb hby at_561) k_) ?_
      show OwnFin p e below s _ _ _ (T28.setTop (mkF m 562 #[iv wa, iv wb, iv wc, iv wd, iv (Int32.ofNat n), iv (Int32.ofNat s0), iv fl, iv (Int32.ofNat w), iv (Int32.ofNat s0), iv (Int32.ofNat s1), iv (Int32.ofNat s2), rv b1, iv dr, iv (Int32.ofNat rr), rv b5, rv b9, rv b16, iv o19, rv b20, iv o25, iv o26, iv o27, iv o28] [(.int (1 : Int32))]))
      refine own_go (fun t_ k_ => XS.goto X28.here hx rfl (pc0 := 562) (pc' := 566) rfl (hb hby at_562) (by decide) (by decide) k_) ?_
      show OwnFin p e below s _ _ _ (T28.setTop (mkF m 566 #[iv wa, iv wb, iv wc, iv wd, iv (Int32.ofNat n), iv (Int32.ofNat s0), iv fl, iv (Int32.ofNat w), iv (Int32.ofNat s0), iv (Int32.ofNat s1), iv (Int32.ofNat s2), rv b1, iv dr, iv (Int32.ofNat rr), rv b5, rv b9, rv b16, iv o19, rv b20, iv o25, iv o26, iv o27, iv o28] [(.int (1 : Int32))]))
      refine own_ret X28 (v := some (.int (1 : Int32))) hlk (fun hh => by rw [hret] at hh; cases hh) (fun fs hr => retN X28 hx (t := .boolean) hret (by simp) (hb hby at_566) hr) (by decide) (by decide) ?_
      exact ⟨rfl, N28⟩
    refine own_go (fun t_ k_ => XS.iload X24.here hx rfl (hb hby at_330) rfl k_) ?_
    show OwnFin p e below s _ _ _ (T24.setTop (mkF m 332 #[iv wa, iv wb, iv wc, iv wd, iv (Int32.ofNat n), iv (Int32.ofNat s0), iv fl, iv (Int32.ofNat w), iv (Int32.ofNat s0), iv (Int32.ofNat s1), iv (Int32.ofNat s2), rv b1, iv dr, iv (Int32.ofNat rr), rv b5, rv b9, rv b16, iv o19, rv b20, .unset, .unset, .unset, .unset] [(.int dr)]))
    by_cases hc332 : dr = (0 : Int32)
    · refine own_go (fun t_ k_ => XS.ifYes X24.here hx rfl (pc0 := 332) (pc' := 497) rfl (hb hby at_332) rfl ((if0 _ _).trans (teq hc332).1) (by decide) (by decide) k_) ?_
      show OwnFin p e below s _ _ _ (T24.setTop (mkF m 497 #[iv wa, iv wb, iv wc, iv wd, iv (Int32.ofNat n), iv (Int32.ofNat s0), iv fl, iv (Int32.ofNat w), iv (Int32.ofNat s0), iv (Int32.ofNat s1), iv (Int32.ofNat s2), rv b1, iv dr, iv (Int32.ofNat rr), rv b5, rv b9, rv b16, iv o19, rv b20, .unset, .unset, .unset, .unset] []))
      have V_m : OwnArr Z h24 b20 .int 4 (fun k => .int ((own_mv (own_e n s0 s1 s2 q0 q1 q2 1) (own_e n s0 s1 s2 q0 q1 q2 2) (-1) (-1)) k)) := A24.congr (own_4c rfl rfl rfl rfl)
      exact tl2 _ 0 0 _ _ _ T24 _ _ X24 e24 N24 Z24 H0_24 H1_24 H2_24 Eq19_24 Vq18K_24 Vq18T_24 Fq19_keys_24 Fq19_retaken_24 Fq19_offeredFrom_24 Fq19_sorted_24 Fq19_nextKey_24 Fq19_retakenAt_24 Fq19_retakenEnd_24 V_m (by decide) (fun q => absurd q (by decide)) hE.2.1 One.u One.u
    · refine own_go (fun t_ k_ => XS.ifNo X24.here hx rfl (hb hby at_332) rfl ((if0 _ _).trans (feq hc332).1) k_) ?_
      show OwnFin p e below s _ _ _ (T24.setTop (mkF m 335 #[iv wa, iv wb, iv wc, iv wd, iv (Int32.ofNat n), iv (Int32.ofNat s0), iv fl, iv (Int32.ofNat w), iv (Int32.ofNat s0), iv (Int32.ofNat s1), iv (Int32.ofNat s2), rv b1, iv dr, iv (Int32.ofNat rr), rv b5, rv b9, rv b16, iv o19, rv b20, .unset, .unset, .unset, .unset] []))
      refine own_go (fun t_ k_ => XS.iload X24.here hx rfl (hb hby at_335) rfl k_) ?_
      show OwnFin p e below s _ _ _ (T24.setTop (mkF m 337 #[iv wa, iv wb, iv wc, iv wd, iv (Int32.ofNat n), iv (Int32.ofNat s0), iv fl, iv (Int32.ofNat w), iv (Int32.ofNat s0), iv (Int32.ofNat s1), iv (Int32.ofNat s2), rv b1, iv dr, iv (Int32.ofNat rr), rv b5, rv b9, rv b16, iv o19, rv b20, .unset, .unset, .unset, .unset] [(.int o19)]))
      refine own_go (fun t_ k_ => XS.iconst X24.here hx rfl (hb hby at_337) k_) ?_
      show OwnFin p e below s _ _ _ (T24.setTop (mkF m 338 #[iv wa, iv wb, iv wc, iv wd, iv (Int32.ofNat n), iv (Int32.ofNat s0), iv fl, iv (Int32.ofNat w), iv (Int32.ofNat s0), iv (Int32.ofNat s1), iv (Int32.ofNat s2), rv b1, iv dr, iv (Int32.ofNat rr), rv b5, rv b9, rv b16, iv o19, rv b20, .unset, .unset, .unset, .unset] [(.int (-1 : Int32)), (.int o19)]))
      by_cases hc338 : o19 = (-1 : Int32)
      · refine own_go (fun t_ k_ => XS.icmpYes X24.here hx rfl (pc0 := 338) (pc' := 497) rfl (hb hby at_338) rfl (teq hc338).1 (by decide) (by decide) k_) ?_
        show OwnFin p e below s _ _ _ (T24.setTop (mkF m 497 #[iv wa, iv wb, iv wc, iv wd, iv (Int32.ofNat n), iv (Int32.ofNat s0), iv fl, iv (Int32.ofNat w), iv (Int32.ofNat s0), iv (Int32.ofNat s1), iv (Int32.ofNat s2), rv b1, iv dr, iv (Int32.ofNat rr), rv b5, rv b9, rv b16, iv o19, rv b20, .unset, .unset, .unset, .unset] []))
        have V_m : OwnArr Z h24 b20 .int 4 (fun k => .int ((own_mv (own_e n s0 s1 s2 q0 q1 q2 1) (own_e n s0 s1 s2 q0 q1 q2 2) (-1) (-1)) k)) := A24.congr (own_4c rfl rfl rfl rfl)
        exact tl2 _ 0 0 _ _ _ T24 _ _ X24 e24 N24 Z24 H0_24 H1_24 H2_24 Eq19_24 Vq18K_24 Vq18T_24 Fq19_keys_24 Fq19_retaken_24 Fq19_offeredFrom_24 Fq19_sorted_24 Fq19_nextKey_24 Fq19_retakenAt_24 Fq19_retakenEnd_24 V_m (by decide) (fun q => absurd q (by decide)) hE.2.1 One.u One.u
      · refine own_go (fun t_ k_ => XS.icmpNo X24.here hx rfl (hb hby at_338) rfl (feq hc338).1 k_) ?_
        show OwnFin p e below s _ _ _ (T24.setTop (mkF m 341 #[iv wa, iv wb, iv wc, iv wd, iv (Int32.ofNat n), iv (Int32.ofNat s0), iv fl, iv (Int32.ofNat w), iv (Int32.ofNat s0), iv (Int32.ofNat s1), iv (Int32.ofNat s2), rv b1, iv dr, iv (Int32.ofNat rr), rv b5, rv b9, rv b16, iv o19, rv b20, .unset, .unset, .unset, .unset] []))
        have hR := hE.2.2 hc338
        have Fra : Fld Z h24 b16 "com/example/nearside/nearside/slotted/delay/FairBack" "retakenAt" "I" (.int (0 : Int32)) := by have q := Fq19_retakenAt_24; rw [hra0] at q; exact q
        refine own_go (fun t_ k_ => XS.aload X24.here hx rfl (hb hby at_341) rfl rfl k_) ?_
        show OwnFin p e below s _ _ _ (T24.setTop (mkF m 343 #[iv wa, iv wb, iv wc, iv wd, iv (Int32.ofNat n), iv (Int32.ofNat s0), iv fl, iv (Int32.ofNat w), iv (Int32.ofNat s0), iv (Int32.ofNat s1), iv (Int32.ofNat s2), rv b1, iv dr, iv (Int32.ofNat rr), rv b5, rv b9, rv b16, iv o19, rv b20, .unset, .unset, .unset, .unset] [(.ref b16)]))
        refine own_go (fun t_ k_ => XS.iload X24.here hx rfl (hb hby at_343) rfl k_) ?_
        show OwnFin p e below s _ _ _ (T24.setTop (mkF m 345 #[iv wa, iv wb, iv wc, iv wd, iv (Int32.ofNat n), iv (Int32.ofNat s0), iv fl, iv (Int32.ofNat w), iv (Int32.ofNat s0), iv (Int32.ofNat s1), iv (Int32.ofNat s2), rv b1, iv dr, iv (Int32.ofNat rr), rv b5, rv b9, rv b16, iv o19, rv b20, .unset, .unset, .unset, .unset] [(.int o19), (.ref b16)]))
        refine own_go (fun t_ k_ => XS.iconst X24.here hx rfl (hb hby at_345) k_) ?_
        show OwnFin p e below s _ _ _ (T24.setTop (mkF m 346 #[iv wa, iv wb, iv wc, iv wd, iv (Int32.ofNat n), iv (Int32.ofNat s0), iv fl, iv (Int32.ofNat w), iv (Int32.ofNat s0), iv (Int32.ofNat s1), iv (Int32.ofNat s2), rv b1, iv dr, iv (Int32.ofNat rr), rv b5, rv b9, rv b16, iv o19, rv b20, .unset, .unset, .unset, .unset] [(.int (0 : Int32)), (.int o19), (.ref b16)]))
        refine own_go (fun t_ k_ => XS.iload X24.here hx rfl (hb hby at_346) rfl k_) ?_
        show OwnFin p e below s _ _ _ (T24.setTop (mkF m 348 #[iv wa, iv wb, iv wc, iv wd, iv (Int32.ofNat n), iv (Int32.ofNat s0), iv fl, iv (Int32.ofNat w), iv (Int32.ofNat s0), iv (Int32.ofNat s1), iv (Int32.ofNat s2), rv b1, iv dr, iv (Int32.ofNat rr), rv b5, rv b9, rv b16, iv o19, rv b20, .unset, .unset, .unset, .unset] [(.int (Int32.ofNat rr)), (.int (0 : Int32)), (.int o19), (.ref b16)]))
        obtain ⟨v29, T29, L29, X29, hQ29, st29⟩ := own_callV X24 hx hZ (y := (⟨"com/example/nearside/nearside/slotted/delay/FairBack", "retake", "(III)V"⟩ : MethodName)) (z := (⟨"com/example/nearside/nearside/slotted/delay/FairBack", "retake", "(III)V"⟩ : MethodName)) hown (hw _ (List.mem_of_getElem? (i := 70) rfl)) (hw _ (List.mem_of_getElem? (i := 71) rfl)) (notFace_of_selects (args := #[]) (mvT hZ (hw _ (List.mem_of_getElem? (i := 73) rfl)))) (hw _ (List.mem_of_getElem? (i := 73) rfl)) (hw _ (List.mem_of_getElem? (i := 72) rfl)) (hw _ (List.mem_of_getElem? (i := 8) rfl)) (hw _ (List.mem_of_getElem? (i := 74) rfl)) (by decide) (W := 0) (rm12 l Z a0 hw [] b16 o19 (0 : Int32) (Int32.ofNat rr) aK aT aO o19.toNatClampNeg _ _ h24 n0 Z24 (own_isN2 hR.1).1 (own_isN2 hR.1).2 Eq19_24 Fq19_keys_24 Fq19_retaken_24 Fq19_offeredFrom_24 Fq19_sorted_24 Fq19_nextKey_24 Fra Fq19_retakenEnd_24 Vq18T_24 Vq18O_24 ne_b16_aT ne_b16_aO ne_aT_aO g_b16 g_aT g_aO) (by decide) (by decide) Eq19_24 (g := (mkF m 348 #[iv wa, iv wb, iv wc, iv wd, iv (Int32.ofNat n), iv (Int32.ofNat s0), iv fl, iv (Int32.ofNat w), iv (Int32.ofNat s0), iv (Int32.ofNat s1), iv (Int32.ofNat s2), rv b1, iv dr, iv (Int32.ofNat rr), rv b5, rv b9, rv b16, iv o19, rv b20, .unset, .unset, .unset, .unset] [(.int (Int32.ofNat rr)), (.int (0 : Int32)), (.int o19), (.ref b16)])) rfl (by rw [hml]; rfl) (argsL := [(.int o19), (.int (0 : Int32)), (.int (Int32.ofNat rr))]) (rest := []) (lenOf pd_0_5 rfl) rfl (by show 2 * 0 + _ ≤ _; exact Nat.le_of_eq rfl) (hb hby at_348) e24 rfl (by decide) (by decide)
        obtain ⟨rfl, Nq29, Kq29, Eq29, Fq29_keys, Fq29_retaken, Fq29_offeredFrom, Fq29_sorted, Fq29_nextKey, Fq29_retakenAt, Fq29_retakenEnd, Vq29T⟩ := hQ29
        have N29 := Fr.app N24 Nq29
        have H0_29 := H0_24.keep Kq29 (ninS ne_b1_b16 (ninS ne_b1_aT (ninS ne_b1_aO nin0)))
        have H1_29 := H1_24.keep Kq29 (ninS ne_b5_b16 (ninS ne_b5_aT (ninS ne_b5_aO nin0)))
        have H2_29 := H2_24.keep Kq29 (ninS ne_b9_b16 (ninS ne_b9_aT (ninS ne_b9_aO nin0)))
        have Eq19_29 := Eq19_24.keep Kq29
        have Vq18K_29 := Vq18K_24.keep Kq29 (ninS (Ne.symm ne_b16_aK) (ninS ne_aK_aT (ninS ne_aK_aO nin0)))
        have V_b20_29 := A24.keep Kq29 (ninS (Ne.symm ne_b16_b20) (ninS (Ne.symm ne_aT_b20) (ninS (Ne.symm ne_aO_b20) nin0)))
        have Z29 : n0 ≤ T29.heap.size := Nat.le_trans Z24 Kq29.1
        refine own_go st29 ?_
        show OwnFin p e below s _ _ _ (T29.setTop (mkF m 351 #[iv wa, iv wb, iv wc, iv wd, iv (Int32.ofNat n), iv (Int32.ofNat s0), iv fl, iv (Int32.ofNat w), iv (Int32.ofNat s0), iv (Int32.ofNat s1), iv (Int32.ofNat s2), rv b1, iv dr, iv (Int32.ofNat rr), rv b5, rv b9, rv b16, iv o19, rv b20, .unset, .unset, .unset, .unset] []))
        refine own_go (fun t_ k_ => XS.iload X29.here hx rfl (hb hby at_351) rfl k_) ?_
        show OwnFin p e below s _ _ _ (T29.setTop (mkF m 353 #[iv wa, iv wb, iv wc, iv wd, iv (Int32.ofNat n), iv (Int32.ofNat s0), iv fl, iv (Int32.ofNat w), iv (Int32.ofNat s0), iv (Int32.ofNat s1), iv (Int32.ofNat s2), rv b1, iv dr, iv (Int32.ofNat rr), rv b5, rv b9, rv b16, iv o19, rv b20, .unset, .unset, .unset, .unset] [(.int (Int32.ofNat rr))]))
        refine own_go (fun t_ k_ => XS.iconst X29.here hx rfl (hb hby at_353) k_) ?_
        show OwnFin p e below s _ _ _ (T29.setTop (mkF m 354 #[iv wa, iv wb, iv wc, iv wd, iv (Int32.ofNat n), iv (Int32.ofNat s0), iv fl, iv (Int32.ofNat w), iv (Int32.ofNat s0), iv (Int32.ofNat s1), iv (Int32.ofNat s2), rv b1, iv dr, iv (Int32.ofNat rr), rv b5, rv b9, rv b16, iv o19, rv b20, .unset, .unset, .unset, .unset] [(.int (4 : Int32)), (.int (Int32.ofNat rr))]))
        refine own_go (fun t_ k_ => XS.imul X29.here hx rfl (hb hby at_354) rfl k_) ?_
        show OwnFin p e below s _ _ _ (T29.setTop (mkF m 355 #[iv wa, iv wb, iv wc, iv wd, iv (Int32.ofNat n), iv (Int32.ofNat s0), iv fl, iv (Int32.ofNat w), iv (Int32.ofNat s0), iv (Int32.ofNat s1), iv (Int32.ofNat s2), rv b1, iv dr, iv (Int32.ofNat rr), rv b5, rv b9, rv b16, iv o19, rv b20, .unset, .unset, .unset, .unset] [(.int ((Int32.ofNat rr) * (4 : Int32)))]))
        refine own_go (fun t_ k_ => XS.iload X29.here hx rfl (hb hby at_355) rfl k_) ?_
        show OwnFin p e below s _ _ _ (T29.setTop (mkF m 357 #[iv wa, iv wb, iv wc, iv wd, iv (Int32.ofNat n), iv (Int32.ofNat s0), iv fl, iv (Int32.ofNat w), iv (Int32.ofNat s0), iv (Int32.ofNat s1), iv (Int32.ofNat s2), rv b1, iv dr, iv (Int32.ofNat rr), rv b5, rv b9, rv b16, iv o19, rv b20, .unset, .unset, .unset, .unset] [(.int o19), (.int ((Int32.ofNat rr) * (4 : Int32)))]))
        refine own_go (fun t_ k_ => XS.iadd X29.here hx rfl (hb hby at_357) rfl k_) ?_
        show OwnFin p e below s _ _ _ (T29.setTop (mkF m 358 #[iv wa, iv wb, iv wc, iv wd, iv (Int32.ofNat n), iv (Int32.ofNat s0), iv fl, iv (Int32.ofNat w), iv (Int32.ofNat s0), iv (Int32.ofNat s1), iv (Int32.ofNat s2), rv b1, iv dr, iv (Int32.ofNat rr), rv b5, rv b9, rv b16, iv o19, rv b20, .unset, .unset, .unset, .unset] [(.int (((Int32.ofNat rr) * (4 : Int32)) + o19))]))
        refine own_go (fun t_ k_ => XS.istore X29.here hx rfl (hb hby at_358) rfl (l' := #[iv wa, iv wb, iv wc, iv wd, iv (Int32.ofNat n), iv (Int32.ofNat s0), iv fl, iv (Int32.ofNat w), iv (Int32.ofNat s0), iv (Int32.ofNat s1), iv (Int32.ofNat s2), rv b1, iv dr, iv (Int32.ofNat rr), rv b5, rv b9, rv b16, iv o19, rv b20, iv (((Int32.ofNat rr) * (4 : Int32)) + o19), .unset, .unset, .unset]) rfl k_) ?_
        show OwnFin p e below s _ _ _ (T29.setTop (mkF m 360 #[iv wa, iv wb, iv wc, iv wd, iv (Int32.ofNat n), iv (Int32.ofNat s0), iv fl, iv (Int32.ofNat w), iv (Int32.ofNat s0), iv (Int32.ofNat s1), iv (Int32.ofNat s2), rv b1, iv dr, iv (Int32.ofNat rr), rv b5, rv b9, rv b16, iv o19, rv b20, iv (((Int32.ofNat rr) * (4 : Int32)) + o19), .unset, .unset, .unset] []))
        refine own_go (fun t_ k_ => XS.iconst X29.here hx rfl (hb hby at_360) k_) ?_
        show OwnFin p e below s _ _ _ (T29.setTop (mkF m 361 #[iv wa, iv wb, iv wc, iv wd, iv (Int32.ofNat n), iv (Int32.ofNat s0), iv fl, iv (Int32.ofNat w), iv (Int32.ofNat s0), iv (Int32.ofNat s1), iv (Int32.ofNat s2), rv b1, iv dr, iv (Int32.ofNat rr), rv b5, rv b9, rv b16, iv o19, rv b20, iv (((Int32.ofNat rr) * (4 : Int32)) + o19), .unset, .unset, .unset] [(.int (0 : Int32))]))
        refine own_go (fun t_ k_ => XS.istore X29.here hx rfl (hb hby at_361) rfl (l' := #[iv wa, iv wb, iv wc, iv wd, iv (Int32.ofNat n), iv (Int32.ofNat s0), iv fl, iv (Int32.ofNat w), iv (Int32.ofNat s0), iv (Int32.ofNat s1), iv (Int32.ofNat s2), rv b1, iv dr, iv (Int32.ofNat rr), rv b5, rv b9, rv b16, iv o19, rv b20, iv (((Int32.ofNat rr) * (4 : Int32)) + o19), iv (0 : Int32), .unset, .unset]) rfl k_) ?_
        show OwnFin p e below s _ _ _ (T29.setTop (mkF m 363 #[iv wa, iv wb, iv wc, iv wd, iv (Int32.ofNat n), iv (Int32.ofNat s0), iv fl, iv (Int32.ofNat w), iv (Int32.ofNat s0), iv (Int32.ofNat s1), iv (Int32.ofNat s2), rv b1, iv dr, iv (Int32.ofNat rr), rv b5, rv b9, rv b16, iv o19, rv b20, iv (((Int32.ofNat rr) * (4 : Int32)) + o19), iv (0 : Int32), .unset, .unset] []))
        refine own_go (fun t_ k_ => XS.iload X29.here hx rfl (hb hby at_363) rfl k_) ?_
        show OwnFin p e below s _ _ _ (T29.setTop (mkF m 365 #[iv wa, iv wb, iv wc, iv wd, iv (Int32.ofNat n), iv (Int32.ofNat s0), iv fl, iv (Int32.ofNat w), iv (Int32.ofNat s0), iv (Int32.ofNat s1), iv (Int32.ofNat s2), rv b1, iv dr, iv (Int32.ofNat rr), rv b5, rv b9, rv b16, iv o19, rv b20, iv (((Int32.ofNat rr) * (4 : Int32)) + o19), iv (0 : Int32), .unset, .unset] [(.int (Int32.ofNat n))]))
        refine own_go (fun t_ k_ => XS.iconst X29.here hx rfl (hb hby at_365) k_) ?_
        show OwnFin p e below s _ _ _ (T29.setTop (mkF m 366 #[iv wa, iv wb, iv wc, iv wd, iv (Int32.ofNat n), iv (Int32.ofNat s0), iv fl, iv (Int32.ofNat w), iv (Int32.ofNat s0), iv (Int32.ofNat s1), iv (Int32.ofNat s2), rv b1, iv dr, iv (Int32.ofNat rr), rv b5, rv b9, rv b16, iv o19, rv b20, iv (((Int32.ofNat rr) * (4 : Int32)) + o19), iv (0 : Int32), .unset, .unset] [(.int (1 : Int32)), (.int (Int32.ofNat n))]))
        by_cases hc366 : (1 : Int32) < (Int32.ofNat n)
        · refine own_go (fun t_ k_ => XS.icmpNo X29.here hx rfl (hb hby at_366) rfl (tlt hc366).2.2.2 k_) ?_
          show OwnFin p e below s _ _ _ (T29.setTop (mkF m 369 #[iv wa, iv wb, iv wc, iv wd, iv (Int32.ofNat n), iv (Int32.ofNat s0), iv fl, iv (Int32.ofNat w), iv (Int32.ofNat s0), iv (Int32.ofNat s1), iv (Int32.ofNat s2), rv b1, iv dr, iv (Int32.ofNat rr), rv b5, rv b9, rv b16, iv o19, rv b20, iv (((Int32.ofNat rr) * (4 : Int32)) + o19), iv (0 : Int32), .unset, .unset] []))
          have h1n : 1 < n := by have q := hc366; rw [show (1 : Int32) = Int32.ofNat 1 from rfl, own_ltN (by decide) (by omega)] at q; exact q
          refine own_go (fun t_ k_ => XS.aload X29.here hx rfl (hb hby at_369) rfl rfl k_) ?_
          show OwnFin p e below s _ _ _ (T29.setTop (mkF m 371 #[iv wa, iv wb, iv wc, iv wd, iv (Int32.ofNat n), iv (Int32.ofNat s0), iv fl, iv (Int32.ofNat w), iv (Int32.ofNat s0), iv (Int32.ofNat s1), iv (Int32.ofNat s2), rv b1, iv dr, iv (Int32.ofNat rr), rv b5, rv b9, rv b16, iv o19, rv b20, iv (((Int32.ofNat rr) * (4 : Int32)) + o19), iv (0 : Int32), .unset, .unset] [(.ref b1)]))
          refine own_go (fun t_ k_ => XS.aload X29.here hx rfl (hb hby at_371) rfl rfl k_) ?_
          show OwnFin p e below s _ _ _ (T29.setTop (mkF m 373 #[iv wa, iv wb, iv wc, iv wd, iv (Int32.ofNat n), iv (Int32.ofNat s0), iv fl, iv (Int32.ofNat w), iv (Int32.ofNat s0), iv (Int32.ofNat s1), iv (Int32.ofNat s2), rv b1, iv dr, iv (Int32.ofNat rr), rv b5, rv b9, rv b16, iv o19, rv b20, iv (((Int32.ofNat rr) * (4 : Int32)) + o19), iv (0 : Int32), .unset, .unset] [(.ref b9), (.ref b1)]))
          refine own_go (fun t_ k_ => XS.iconst X29.here hx rfl (hb hby at_373) k_) ?_
          show OwnFin p e below s _ _ _ (T29.setTop (mkF m 374 #[iv wa, iv wb, iv wc, iv wd, iv (Int32.ofNat n), iv (Int32.ofNat s0), iv fl, iv (Int32.ofNat w), iv (Int32.ofNat s0), iv (Int32.ofNat s1), iv (Int32.ofNat s2), rv b1, iv dr, iv (Int32.ofNat rr), rv b5, rv b9, rv b16, iv o19, rv b20, iv (((Int32.ofNat rr) * (4 : Int32)) + o19), iv (0 : Int32), .unset, .unset] [(.int (1 : Int32)), (.ref b9), (.ref b1)]))
          refine own_go (own_iaload X29 hx hZ rfl H2_29 (i := 1) (by decide) (by decide) (g := (mkF m 374 #[iv wa, iv wb, iv wc, iv wd, iv (Int32.ofNat n), iv (Int32.ofNat s0), iv fl, iv (Int32.ofNat w), iv (Int32.ofNat s0), iv (Int32.ofNat s1), iv (Int32.ofNat s2), rv b1, iv dr, iv (Int32.ofNat rr), rv b5, rv b9, rv b16, iv o19, rv b20, iv (((Int32.ofNat rr) * (4 : Int32)) + o19), iv (0 : Int32), .unset, .unset] [(.int (1 : Int32)), (.ref b9), (.ref b1)])) rfl rfl (hb hby at_374)) ?_
          show OwnFin p e below s _ _ _ (T29.setTop (mkF m 375 #[iv wa, iv wb, iv wc, iv wd, iv (Int32.ofNat n), iv (Int32.ofNat s0), iv fl, iv (Int32.ofNat w), iv (Int32.ofNat s0), iv (Int32.ofNat s1), iv (Int32.ofNat s2), rv b1, iv dr, iv (Int32.ofNat rr), rv b5, rv b9, rv b16, iv o19, rv b20, iv (((Int32.ofNat rr) * (4 : Int32)) + o19), iv (0 : Int32), .unset, .unset] [(.int (own_e n s0 s1 s2 q0 q1 q2 1)), (.ref b1)]))
          obtain ⟨v30, T30, L30, X30, hQ30, st30⟩ := own_callS X29 hx hZ (y := (⟨"com/example/nearside/nearside/slotted/delay/FairBackNextPinLaw", "key", "([II)I"⟩ : MethodName)) hown (hw _ (List.mem_of_getElem? (i := 55) rfl)) (hw _ (List.mem_of_getElem? (i := 56) rfl)) (hw _ (List.mem_of_getElem? (i := 4) rfl)) (hw _ (List.mem_of_getElem? (i := 57) rfl)) (by decide) (W := 0) (rm8 l Z a0 hw [] b1 (own_e n s0 s1 s2 q0 q1 q2 1) (own_e n s0 s1 s2 q0 q1 q2 1).toNatClampNeg _ T29.heap n0 Z29 (own_isN2 (hR.2.1 h1n)).1 (own_isN2 (hR.2.1 h1n)).2 H0_29) (by decide) (by decide) (g := (mkF m 375 #[iv wa, iv wb, iv wc, iv wd, iv (Int32.ofNat n), iv (Int32.ofNat s0), iv fl, iv (Int32.ofNat w), iv (Int32.ofNat s0), iv (Int32.ofNat s1), iv (Int32.ofNat s2), rv b1, iv dr, iv (Int32.ofNat rr), rv b5, rv b9, rv b16, iv o19, rv b20, iv (((Int32.ofNat rr) * (4 : Int32)) + o19), iv (0 : Int32), .unset, .unset] [(.int (own_e n s0 s1 s2 q0 q1 q2 1)), (.ref b1)])) rfl (by rw [hml]; rfl) (argsL := [(.ref b1), (.int (own_e n s0 s1 s2 q0 q1 q2 1))]) (rest := []) (lenOf pd_0_7 rfl) rfl (by show 2 * 0 + _ ≤ _; exact Nat.le_of_eq rfl) (hb hby at_375) rfl rfl (by decide) (by decide)
          obtain ⟨rfl, Nq30, e30⟩ := hQ30
          have N30 := Fr.app N29 Nq30
          refine own_go st30 ?_
          show OwnFin p e below s _ _ _ (T30.setTop (mkF m 378 #[iv wa, iv wb, iv wc, iv wd, iv (Int32.ofNat n), iv (Int32.ofNat s0), iv fl, iv (Int32.ofNat w), iv (Int32.ofNat s0), iv (Int32.ofNat s1), iv (Int32.ofNat s2), rv b1, iv dr, iv (Int32.ofNat rr), rv b5, rv b9, rv b16, iv o19, rv b20, iv (((Int32.ofNat rr) * (4 : Int32)) + o19), iv (0 : Int32), .unset, .unset] [(.int ((own_rn q0 q1 q2 (own_e n s0 s1 s2 q0 q1 q2 1).toNatClampNeg) * (4 : Int32) + (own_e n s0 s1 s2 q0 q1 q2 1)))]))
          refine own_go (fun t_ k_ => XS.iload X30.here hx rfl (hb hby at_378) rfl k_) ?_
          show OwnFin p e below s _ _ _ (T30.setTop (mkF m 380 #[iv wa, iv wb, iv wc, iv wd, iv (Int32.ofNat n), iv (Int32.ofNat s0), iv fl, iv (Int32.ofNat w), iv (Int32.ofNat s0), iv (Int32.ofNat s1), iv (Int32.ofNat s2), rv b1, iv dr, iv (Int32.ofNat rr), rv b5, rv b9, rv b16, iv o19, rv b20, iv (((Int32.ofNat rr) * (4 : Int32)) + o19), iv (0 : Int32), .unset, .unset] [(.int (((Int32.ofNat rr) * (4 : Int32)) + o19)), (.int ((own_rn q0 q1 q2 (own_e n s0 s1 s2 q0 q1 q2 1).toNatClampNeg) * (4 : Int32) + (own_e n s0 s1 s2 q0 q1 q2 1)))]))
          by_cases hc380 : ((own_rn q0 q1 q2 (own_e n s0 s1 s2 q0 q1 q2 1).toNatClampNeg) * (4 : Int32) + (own_e n s0 s1 s2 q0 q1 q2 1)) < (((Int32.ofNat rr) * (4 : Int32)) + o19)
          · refine own_go (fun t_ k_ => XS.icmpNo X30.here hx rfl (hb hby at_380) rfl (tlt hc380).2.1 k_) ?_
            show OwnFin p e below s _ _ _ (T30.setTop (mkF m 383 #[iv wa, iv wb, iv wc, iv wd, iv (Int32.ofNat n), iv (Int32.ofNat s0), iv fl, iv (Int32.ofNat w), iv (Int32.ofNat s0), iv (Int32.ofNat s1), iv (Int32.ofNat s2), rv b1, iv dr, iv (Int32.ofNat rr), rv b5, rv b9, rv b16, iv o19, rv b20, iv (((Int32.ofNat rr) * (4 : Int32)) + o19), iv (0 : Int32), .unset, .unset] []))
            refine own_go (fun t_ k_ => XS.iinc X30.here hx rfl (hb hby at_383) rfl (l' := #[iv wa, iv wb, iv wc, iv wd, iv (Int32.ofNat n), iv (Int32.ofNat s0), iv fl, iv (Int32.ofNat w), iv (Int32.ofNat s0), iv (Int32.ofNat s1), iv (Int32.ofNat s2), rv b1, iv dr, iv (Int32.ofNat rr), rv b5, rv b9, rv b16, iv o19, rv b20, iv (((Int32.ofNat rr) * (4 : Int32)) + o19), iv (1 : Int32), .unset, .unset]) rfl k_) ?_
            show OwnFin p e below s _ _ _ (T30.setTop (mkF m 386 #[iv wa, iv wb, iv wc, iv wd, iv (Int32.ofNat n), iv (Int32.ofNat s0), iv fl, iv (Int32.ofNat w), iv (Int32.ofNat s0), iv (Int32.ofNat s1), iv (Int32.ofNat s2), rv b1, iv dr, iv (Int32.ofNat rr), rv b5, rv b9, rv b16, iv o19, rv b20, iv (((Int32.ofNat rr) * (4 : Int32)) + o19), iv (1 : Int32), .unset, .unset] []))
            refine own_go (fun t_ k_ => XS.iload X30.here hx rfl (hb hby at_386) rfl k_) ?_
            show OwnFin p e below s _ _ _ (T30.setTop (mkF m 388 #[iv wa, iv wb, iv wc, iv wd, iv (Int32.ofNat n), iv (Int32.ofNat s0), iv fl, iv (Int32.ofNat w), iv (Int32.ofNat s0), iv (Int32.ofNat s1), iv (Int32.ofNat s2), rv b1, iv dr, iv (Int32.ofNat rr), rv b5, rv b9, rv b16, iv o19, rv b20, iv (((Int32.ofNat rr) * (4 : Int32)) + o19), iv (1 : Int32), .unset, .unset] [(.int (Int32.ofNat n))]))
            refine own_go (fun t_ k_ => XS.iconst X30.here hx rfl (hb hby at_388) k_) ?_
            show OwnFin p e below s _ _ _ (T30.setTop (mkF m 389 #[iv wa, iv wb, iv wc, iv wd, iv (Int32.ofNat n), iv (Int32.ofNat s0), iv fl, iv (Int32.ofNat w), iv (Int32.ofNat s0), iv (Int32.ofNat s1), iv (Int32.ofNat s2), rv b1, iv dr, iv (Int32.ofNat rr), rv b5, rv b9, rv b16, iv o19, rv b20, iv (((Int32.ofNat rr) * (4 : Int32)) + o19), iv (1 : Int32), .unset, .unset] [(.int (2 : Int32)), (.int (Int32.ofNat n))]))
            by_cases hc389 : (2 : Int32) < (Int32.ofNat n)
            · refine own_go (fun t_ k_ => XS.icmpNo X30.here hx rfl (hb hby at_389) rfl (tlt hc389).2.2.2 k_) ?_
              show OwnFin p e below s _ _ _ (T30.setTop (mkF m 392 #[iv wa, iv wb, iv wc, iv wd, iv (Int32.ofNat n), iv (Int32.ofNat s0), iv fl, iv (Int32.ofNat w), iv (Int32.ofNat s0), iv (Int32.ofNat s1), iv (Int32.ofNat s2), rv b1, iv dr, iv (Int32.ofNat rr), rv b5, rv b9, rv b16, iv o19, rv b20, iv (((Int32.ofNat rr) * (4 : Int32)) + o19), iv (1 : Int32), .unset, .unset] []))
              have h2n : 2 < n := by have q := hc389; rw [show (2 : Int32) = Int32.ofNat 2 from rfl, own_ltN (by decide) (by omega)] at q; exact q
              refine own_go (fun t_ k_ => XS.aload X30.here hx rfl (hb hby at_392) rfl rfl k_) ?_
              show OwnFin p e below s _ _ _ (T30.setTop (mkF m 394 #[iv wa, iv wb, iv wc, iv wd, iv (Int32.ofNat n), iv (Int32.ofNat s0), iv fl, iv (Int32.ofNat w), iv (Int32.ofNat s0), iv (Int32.ofNat s1), iv (Int32.ofNat s2), rv b1, iv dr, iv (Int32.ofNat rr), rv b5, rv b9, rv b16, iv o19, rv b20, iv (((Int32.ofNat rr) * (4 : Int32)) + o19), iv (1 : Int32), .unset, .unset] [(.ref b1)]))
              refine own_go (fun t_ k_ => XS.aload X30.here hx rfl (hb hby at_394) rfl rfl k_) ?_
              show OwnFin p e below s _ _ _ (T30.setTop (mkF m 396 #[iv wa, iv wb, iv wc, iv wd, iv (Int32.ofNat n), iv (Int32.ofNat s0), iv fl, iv (Int32.ofNat w), iv (Int32.ofNat s0), iv (Int32.ofNat s1), iv (Int32.ofNat s2), rv b1, iv dr, iv (Int32.ofNat rr), rv b5, rv b9, rv b16, iv o19, rv b20, iv (((Int32.ofNat rr) * (4 : Int32)) + o19), iv (1 : Int32), .unset, .unset] [(.ref b9), (.ref b1)]))
              refine own_go (fun t_ k_ => XS.iconst X30.here hx rfl (hb hby at_396) k_) ?_
              show OwnFin p e below s _ _ _ (T30.setTop (mkF m 397 #[iv wa, iv wb, iv wc, iv wd, iv (Int32.ofNat n), iv (Int32.ofNat s0), iv fl, iv (Int32.ofNat w), iv (Int32.ofNat s0), iv (Int32.ofNat s1), iv (Int32.ofNat s2), rv b1, iv dr, iv (Int32.ofNat rr), rv b5, rv b9, rv b16, iv o19, rv b20, iv (((Int32.ofNat rr) * (4 : Int32)) + o19), iv (1 : Int32), .unset, .unset] [(.int (2 : Int32)), (.ref b9), (.ref b1)]))
              refine own_go (own_iaload X30 hx hZ e30 H2_29 (i := 2) (by decide) (by decide) (g := (mkF m 397 #[iv wa, iv wb, iv wc, iv wd, iv (Int32.ofNat n), iv (Int32.ofNat s0), iv fl, iv (Int32.ofNat w), iv (Int32.ofNat s0), iv (Int32.ofNat s1), iv (Int32.ofNat s2), rv b1, iv dr, iv (Int32.ofNat rr), rv b5, rv b9, rv b16, iv o19, rv b20, iv (((Int32.ofNat rr) * (4 : Int32)) + o19), iv (1 : Int32), .unset, .unset] [(.int (2 : Int32)), (.ref b9), (.ref b1)])) rfl rfl (hb hby at_397)) ?_
              show OwnFin p e below s _ _ _ (T30.setTop (mkF m 398 #[iv wa, iv wb, iv wc, iv wd, iv (Int32.ofNat n), iv (Int32.ofNat s0), iv fl, iv (Int32.ofNat w), iv (Int32.ofNat s0), iv (Int32.ofNat s1), iv (Int32.ofNat s2), rv b1, iv dr, iv (Int32.ofNat rr), rv b5, rv b9, rv b16, iv o19, rv b20, iv (((Int32.ofNat rr) * (4 : Int32)) + o19), iv (1 : Int32), .unset, .unset] [(.int (own_e n s0 s1 s2 q0 q1 q2 2)), (.ref b1)]))
              obtain ⟨v31, T31, L31, X31, hQ31, st31⟩ := own_callS X30 hx hZ (y := (⟨"com/example/nearside/nearside/slotted/delay/FairBackNextPinLaw", "key", "([II)I"⟩ : MethodName)) hown (hw _ (List.mem_of_getElem? (i := 55) rfl)) (hw _ (List.mem_of_getElem? (i := 56) rfl)) (hw _ (List.mem_of_getElem? (i := 4) rfl)) (hw _ (List.mem_of_getElem? (i := 57) rfl)) (by decide) (W := 0) (rm8 l Z a0 hw [] b1 (own_e n s0 s1 s2 q0 q1 q2 2) (own_e n s0 s1 s2 q0 q1 q2 2).toNatClampNeg _ T29.heap n0 Z29 (own_isN2 (hR.2.2.1 h2n)).1 (own_isN2 (hR.2.2.1 h2n)).2 H0_29) (by decide) (by decide) (g := (mkF m 398 #[iv wa, iv wb, iv wc, iv wd, iv (Int32.ofNat n), iv (Int32.ofNat s0), iv fl, iv (Int32.ofNat w), iv (Int32.ofNat s0), iv (Int32.ofNat s1), iv (Int32.ofNat s2), rv b1, iv dr, iv (Int32.ofNat rr), rv b5, rv b9, rv b16, iv o19, rv b20, iv (((Int32.ofNat rr) * (4 : Int32)) + o19), iv (1 : Int32), .unset, .unset] [(.int (own_e n s0 s1 s2 q0 q1 q2 2)), (.ref b1)])) rfl (by rw [hml]; rfl) (argsL := [(.ref b1), (.int (own_e n s0 s1 s2 q0 q1 q2 2))]) (rest := []) (lenOf pd_0_7 rfl) rfl (by show 2 * 0 + _ ≤ _; exact Nat.le_of_eq rfl) (hb hby at_398) e30 rfl (by decide) (by decide)
              obtain ⟨rfl, Nq31, e31⟩ := hQ31
              have N31 := Fr.app N30 Nq31
              refine own_go st31 ?_
              show OwnFin p e below s _ _ _ (T31.setTop (mkF m 401 #[iv wa, iv wb, iv wc, iv wd, iv (Int32.ofNat n), iv (Int32.ofNat s0), iv fl, iv (Int32.ofNat w), iv (Int32.ofNat s0), iv (Int32.ofNat s1), iv (Int32.ofNat s2), rv b1, iv dr, iv (Int32.ofNat rr), rv b5, rv b9, rv b16, iv o19, rv b20, iv (((Int32.ofNat rr) * (4 : Int32)) + o19), iv (1 : Int32), .unset, .unset] [(.int ((own_rn q0 q1 q2 (own_e n s0 s1 s2 q0 q1 q2 2).toNatClampNeg) * (4 : Int32) + (own_e n s0 s1 s2 q0 q1 q2 2)))]))
              refine own_go (fun t_ k_ => XS.iload X31.here hx rfl (hb hby at_401) rfl k_) ?_
              show OwnFin p e below s _ _ _ (T31.setTop (mkF m 403 #[iv wa, iv wb, iv wc, iv wd, iv (Int32.ofNat n), iv (Int32.ofNat s0), iv fl, iv (Int32.ofNat w), iv (Int32.ofNat s0), iv (Int32.ofNat s1), iv (Int32.ofNat s2), rv b1, iv dr, iv (Int32.ofNat rr), rv b5, rv b9, rv b16, iv o19, rv b20, iv (((Int32.ofNat rr) * (4 : Int32)) + o19), iv (1 : Int32), .unset, .unset] [(.int (((Int32.ofNat rr) * (4 : Int32)) + o19)), (.int ((own_rn q0 q1 q2 (own_e n s0 s1 s2 q0 q1 q2 2).toNatClampNeg) * (4 : Int32) + (own_e n s0 s1 s2 q0 q1 q2 2)))]))
              by_cases hc403 : ((own_rn q0 q1 q2 (own_e n s0 s1 s2 q0 q1 q2 2).toNatClampNeg) * (4 : Int32) + (own_e n s0 s1 s2 q0 q1 q2 2)) < (((Int32.ofNat rr) * (4 : Int32)) + o19)
              · refine own_go (fun t_ k_ => XS.icmpNo X31.here hx rfl (hb hby at_403) rfl (tlt hc403).2.1 k_) ?_
                show OwnFin p e below s _ _ _ (T31.setTop (mkF m 406 #[iv wa, iv wb, iv wc, iv wd, iv (Int32.ofNat n), iv (Int32.ofNat s0), iv fl, iv (Int32.ofNat w), iv (Int32.ofNat s0), iv (Int32.ofNat s1), iv (Int32.ofNat s2), rv b1, iv dr, iv (Int32.ofNat rr), rv b5, rv b9, rv b16, iv o19, rv b20, iv (((Int32.ofNat rr) * (4 : Int32)) + o19), iv (1 : Int32), .unset, .unset] []))
                refine own_go (fun t_ k_ => XS.iinc X31.here hx rfl (hb hby at_406) rfl (l' := #[iv wa, iv wb, iv wc, iv wd, iv (Int32.ofNat n), iv (Int32.ofNat s0), iv fl, iv (Int32.ofNat w), iv (Int32.ofNat s0), iv (Int32.ofNat s1), iv (Int32.ofNat s2), rv b1, iv dr, iv (Int32.ofNat rr), rv b5, rv b9, rv b16, iv o19, rv b20, iv (((Int32.ofNat rr) * (4 : Int32)) + o19), iv (2 : Int32), .unset, .unset]) rfl k_) ?_
                show OwnFin p e below s _ _ _ (T31.setTop (mkF m 409 #[iv wa, iv wb, iv wc, iv wd, iv (Int32.ofNat n), iv (Int32.ofNat s0), iv fl, iv (Int32.ofNat w), iv (Int32.ofNat s0), iv (Int32.ofNat s1), iv (Int32.ofNat s2), rv b1, iv dr, iv (Int32.ofNat rr), rv b5, rv b9, rv b16, iv o19, rv b20, iv (((Int32.ofNat rr) * (4 : Int32)) + o19), iv (2 : Int32), .unset, .unset] []))
                refine own_go (fun t_ k_ => XS.iload X31.here hx rfl (hb hby at_409) rfl k_) ?_
                show OwnFin p e below s _ _ _ (T31.setTop (mkF m 411 #[iv wa, iv wb, iv wc, iv wd, iv (Int32.ofNat n), iv (Int32.ofNat s0), iv fl, iv (Int32.ofNat w), iv (Int32.ofNat s0), iv (Int32.ofNat s1), iv (Int32.ofNat s2), rv b1, iv dr, iv (Int32.ofNat rr), rv b5, rv b9, rv b16, iv o19, rv b20, iv (((Int32.ofNat rr) * (4 : Int32)) + o19), iv (2 : Int32), .unset, .unset] [(.int (2 : Int32))]))
                refine own_go (fun t_ k_ => XS.ifYes X31.here hx rfl (pc0 := 411) (pc' := 439) rfl (hb hby at_411) rfl ((if0 _ _).trans (feq (by decide)).2) (by decide) (by decide) k_) ?_
                show OwnFin p e below s _ _ _ (T31.setTop (mkF m 439 #[iv wa, iv wb, iv wc, iv wd, iv (Int32.ofNat n), iv (Int32.ofNat s0), iv fl, iv (Int32.ofNat w), iv (Int32.ofNat s0), iv (Int32.ofNat s1), iv (Int32.ofNat s2), rv b1, iv dr, iv (Int32.ofNat rr), rv b5, rv b9, rv b16, iv o19, rv b20, iv (((Int32.ofNat rr) * (4 : Int32)) + o19), iv (2 : Int32), .unset, .unset] []))
                refine own_go (fun t_ k_ => XS.iload X31.here hx rfl (hb hby at_439) rfl k_) ?_
                show OwnFin p e below s _ _ _ (T31.setTop (mkF m 441 #[iv wa, iv wb, iv wc, iv wd, iv (Int32.ofNat n), iv (Int32.ofNat s0), iv fl, iv (Int32.ofNat w), iv (Int32.ofNat s0), iv (Int32.ofNat s1), iv (Int32.ofNat s2), rv b1, iv dr, iv (Int32.ofNat rr), rv b5, rv b9, rv b16, iv o19, rv b20, iv (((Int32.ofNat rr) * (4 : Int32)) + o19), iv (2 : Int32), .unset, .unset] [(.int (2 : Int32))]))
                refine own_go (fun t_ k_ => XS.iconst X31.here hx rfl (hb hby at_441) k_) ?_
                show OwnFin p e below s _ _ _ (T31.setTop (mkF m 442 #[iv wa, iv wb, iv wc, iv wd, iv (Int32.ofNat n), iv (Int32.ofNat s0), iv fl, iv (Int32.ofNat w), iv (Int32.ofNat s0), iv (Int32.ofNat s1), iv (Int32.ofNat s2), rv b1, iv dr, iv (Int32.ofNat rr), rv b5, rv b9, rv b16, iv o19, rv b20, iv (((Int32.ofNat rr) * (4 : Int32)) + o19), iv (2 : Int32), .unset, .unset] [(.int (1 : Int32)), (.int (2 : Int32))]))
                refine own_go (fun t_ k_ => XS.icmpYes X31.here hx rfl (pc0 := 442) (pc' := 470) rfl (hb hby at_442) rfl (feq (by decide)).2 (by decide) (by decide) k_) ?_
                show OwnFin p e below s _ _ _ (T31.setTop (mkF m 470 #[iv wa, iv wb, iv wc, iv wd, iv (Int32.ofNat n), iv (Int32.ofNat s0), iv fl, iv (Int32.ofNat w), iv (Int32.ofNat s0), iv (Int32.ofNat s1), iv (Int32.ofNat s2), rv b1, iv dr, iv (Int32.ofNat rr), rv b5, rv b9, rv b16, iv o19, rv b20, iv (((Int32.ofNat rr) * (4 : Int32)) + o19), iv (2 : Int32), .unset, .unset] []))
                refine own_go (fun t_ k_ => XS.aload X31.here hx rfl (hb hby at_470) rfl rfl k_) ?_
                show OwnFin p e below s _ _ _ (T31.setTop (mkF m 472 #[iv wa, iv wb, iv wc, iv wd, iv (Int32.ofNat n), iv (Int32.ofNat s0), iv fl, iv (Int32.ofNat w), iv (Int32.ofNat s0), iv (Int32.ofNat s1), iv (Int32.ofNat s2), rv b1, iv dr, iv (Int32.ofNat rr), rv b5, rv b9, rv b16, iv o19, rv b20, iv (((Int32.ofNat rr) * (4 : Int32)) + o19), iv (2 : Int32), .unset, .unset] [(.ref b20)]))
                refine own_go (fun t_ k_ => XS.iconst X31.here hx rfl (hb hby at_472) k_) ?_
                show OwnFin p e below s _ _ _ (T31.setTop (mkF m 473 #[iv wa, iv wb, iv wc, iv wd, iv (Int32.ofNat n), iv (Int32.ofNat s0), iv fl, iv (Int32.ofNat w), iv (Int32.ofNat s0), iv (Int32.ofNat s1), iv (Int32.ofNat s2), rv b1, iv dr, iv (Int32.ofNat rr), rv b5, rv b9, rv b16, iv o19, rv b20, iv (((Int32.ofNat rr) * (4 : Int32)) + o19), iv (2 : Int32), .unset, .unset] [(.int (0 : Int32)), (.ref b20)]))
                refine own_go (fun t_ k_ => XS.aload X31.here hx rfl (hb hby at_473) rfl rfl k_) ?_
                show OwnFin p e below s _ _ _ (T31.setTop (mkF m 475 #[iv wa, iv wb, iv wc, iv wd, iv (Int32.ofNat n), iv (Int32.ofNat s0), iv fl, iv (Int32.ofNat w), iv (Int32.ofNat s0), iv (Int32.ofNat s1), iv (Int32.ofNat s2), rv b1, iv dr, iv (Int32.ofNat rr), rv b5, rv b9, rv b16, iv o19, rv b20, iv (((Int32.ofNat rr) * (4 : Int32)) + o19), iv (2 : Int32), .unset, .unset] [(.ref b9), (.int (0 : Int32)), (.ref b20)]))
                refine own_go (fun t_ k_ => XS.iconst X31.here hx rfl (hb hby at_475) k_) ?_
                show OwnFin p e below s _ _ _ (T31.setTop (mkF m 476 #[iv wa, iv wb, iv wc, iv wd, iv (Int32.ofNat n), iv (Int32.ofNat s0), iv fl, iv (Int32.ofNat w), iv (Int32.ofNat s0), iv (Int32.ofNat s1), iv (Int32.ofNat s2), rv b1, iv dr, iv (Int32.ofNat rr), rv b5, rv b9, rv b16, iv o19, rv b20, iv (((Int32.ofNat rr) * (4 : Int32)) + o19), iv (2 : Int32), .unset, .unset] [(.int (1 : Int32)), (.ref b9), (.int (0 : Int32)), (.ref b20)]))
                refine own_go (own_iaload X31 hx hZ e31 H2_29 (i := 1) (by decide) (by decide) (g := (mkF m 476 #[iv wa, iv wb, iv wc, iv wd, iv (Int32.ofNat n), iv (Int32.ofNat s0), iv fl, iv (Int32.ofNat w), iv (Int32.ofNat s0), iv (Int32.ofNat s1), iv (Int32.ofNat s2), rv b1, iv dr, iv (Int32.ofNat rr), rv b5, rv b9, rv b16, iv o19, rv b20, iv (((Int32.ofNat rr) * (4 : Int32)) + o19), iv (2 : Int32), .unset, .unset] [(.int (1 : Int32)), (.ref b9), (.int (0 : Int32)), (.ref b20)])) rfl rfl (hb hby at_476)) ?_
                show OwnFin p e below s _ _ _ (T31.setTop (mkF m 477 #[iv wa, iv wb, iv wc, iv wd, iv (Int32.ofNat n), iv (Int32.ofNat s0), iv fl, iv (Int32.ofNat w), iv (Int32.ofNat s0), iv (Int32.ofNat s1), iv (Int32.ofNat s2), rv b1, iv dr, iv (Int32.ofNat rr), rv b5, rv b9, rv b16, iv o19, rv b20, iv (((Int32.ofNat rr) * (4 : Int32)) + o19), iv (2 : Int32), .unset, .unset] [(.int (own_e n s0 s1 s2 q0 q1 q2 1)), (.int (0 : Int32)), (.ref b20)]))
                obtain ⟨T32, h32, X32, e32, W32, A32, st32⟩ := own_iastore X31 hx hZ e31 V_b20_29 (i := 0) (by decide) (by decide) (g := (mkF m 477 #[iv wa, iv wb, iv wc, iv wd, iv (Int32.ofNat n), iv (Int32.ofNat s0), iv fl, iv (Int32.ofNat w), iv (Int32.ofNat s0), iv (Int32.ofNat s1), iv (Int32.ofNat s2), rv b1, iv dr, iv (Int32.ofNat rr), rv b5, rv b9, rv b16, iv o19, rv b20, iv (((Int32.ofNat rr) * (4 : Int32)) + o19), iv (2 : Int32), .unset, .unset] [(.int (own_e n s0 s1 s2 q0 q1 q2 1)), (.int (0 : Int32)), (.ref b20)])) rfl rfl (hb hby at_477)
                have H0_32 := H0_29.other W32 ne_b1_b20
                have H1_32 := H1_29.other W32 ne_b5_b20
                have H2_32 := H2_29.other W32 ne_b9_b20
                have Eq29_32 := Eq29.wr W32
                have Vq18K_32 := Vq18K_29.other W32 ne_aK_b20
                have Fq29_keys_32 := Fq29_keys.other W32 (Or.inl ne_b16_b20)
                have Fq29_retaken_32 := Fq29_retaken.other W32 (Or.inl ne_b16_b20)
                have Fq29_offeredFrom_32 := Fq29_offeredFrom.other W32 (Or.inl ne_b16_b20)
                have Fq29_sorted_32 := Fq29_sorted.other W32 (Or.inl ne_b16_b20)
                have Fq29_nextKey_32 := Fq29_nextKey.other W32 (Or.inl ne_b16_b20)
                have Fq29_retakenAt_32 := Fq29_retakenAt.other W32 (Or.inl ne_b16_b20)
                have Fq29_retakenEnd_32 := Fq29_retakenEnd.other W32 (Or.inl ne_b16_b20)
                have Vq29T_32 := Vq29T.other W32 ne_aT_b20
                have Z32 : n0 ≤ h32.size := Nat.le_trans Z29 (Keep.of_wr W32).1
                have N32 := Fr.snoc X32 N31 g_b20
                refine own_go st32 ?_
                show OwnFin p e below s _ _ _ (T32.setTop (mkF m 478 #[iv wa, iv wb, iv wc, iv wd, iv (Int32.ofNat n), iv (Int32.ofNat s0), iv fl, iv (Int32.ofNat w), iv (Int32.ofNat s0), iv (Int32.ofNat s1), iv (Int32.ofNat s2), rv b1, iv dr, iv (Int32.ofNat rr), rv b5, rv b9, rv b16, iv o19, rv b20, iv (((Int32.ofNat rr) * (4 : Int32)) + o19), iv (2 : Int32), .unset, .unset] []))
                refine own_go (fun t_ k_ => XS.aload X32.here hx rfl (hb hby at_478) rfl rfl k_) ?_
                show OwnFin p e below s _ _ _ (T32.setTop (mkF m 480 #[iv wa, iv wb, iv wc, iv wd, iv (Int32.ofNat n), iv (Int32.ofNat s0), iv fl, iv (Int32.ofNat w), iv (Int32.ofNat s0), iv (Int32.ofNat s1), iv (Int32.ofNat s2), rv b1, iv dr, iv (Int32.ofNat rr), rv b5, rv b9, rv b16, iv o19, rv b20, iv (((Int32.ofNat rr) * (4 : Int32)) + o19), iv (2 : Int32), .unset, .unset] [(.ref b20)]))
                refine own_go (fun t_ k_ => XS.iconst X32.here hx rfl (hb hby at_480) k_) ?_
                show OwnFin p e below s _ _ _ (T32.setTop (mkF m 481 #[iv wa, iv wb, iv wc, iv wd, iv (Int32.ofNat n), iv (Int32.ofNat s0), iv fl, iv (Int32.ofNat w), iv (Int32.ofNat s0), iv (Int32.ofNat s1), iv (Int32.ofNat s2), rv b1, iv dr, iv (Int32.ofNat rr), rv b5, rv b9, rv b16, iv o19, rv b20, iv (((Int32.ofNat rr) * (4 : Int32)) + o19), iv (2 : Int32), .unset, .unset] [(.int (1 : Int32)), (.ref b20)]))
                refine own_go (fun t_ k_ => XS.aload X32.here hx rfl (hb hby at_481) rfl rfl k_) ?_
                show OwnFin p e below s _ _ _ (T32.setTop (mkF m 483 #[iv wa, iv wb, iv wc, iv wd, iv (Int32.ofNat n), iv (Int32.ofNat s0), iv fl, iv (Int32.ofNat w), iv (Int32.ofNat s0), iv (Int32.ofNat s1), iv (Int32.ofNat s2), rv b1, iv dr, iv (Int32.ofNat rr), rv b5, rv b9, rv b16, iv o19, rv b20, iv (((Int32.ofNat rr) * (4 : Int32)) + o19), iv (2 : Int32), .unset, .unset] [(.ref b9), (.int (1 : Int32)), (.ref b20)]))
                refine own_go (fun t_ k_ => XS.iconst X32.here hx rfl (hb hby at_483) k_) ?_
                show OwnFin p e below s _ _ _ (T32.setTop (mkF m 484 #[iv wa, iv wb, iv wc, iv wd, iv (Int32.ofNat n), iv (Int32.ofNat s0), iv fl, iv (Int32.ofNat w), iv (Int32.ofNat s0), iv (Int32.ofNat s1), iv (Int32.ofNat s2), rv b1, iv dr, iv (Int32.ofNat rr), rv b5, rv b9, rv b16, iv o19, rv b20, iv (((Int32.ofNat rr) * (4 : Int32)) + o19), iv (2 : Int32), .unset, .unset] [(.int (2 : Int32)), (.ref b9), (.int (1 : Int32)), (.ref b20)]))
                refine own_go (own_iaload X32 hx hZ e32 H2_32 (i := 2) (by decide) (by decide) (g := (mkF m 484 #[iv wa, iv wb, iv wc, iv wd, iv (Int32.ofNat n), iv (Int32.ofNat s0), iv fl, iv (Int32.ofNat w), iv (Int32.ofNat s0), iv (Int32.ofNat s1), iv (Int32.ofNat s2), rv b1, iv dr, iv (Int32.ofNat rr), rv b5, rv b9, rv b16, iv o19, rv b20, iv (((Int32.ofNat rr) * (4 : Int32)) + o19), iv (2 : Int32), .unset, .unset] [(.int (2 : Int32)), (.ref b9), (.int (1 : Int32)), (.ref b20)])) rfl rfl (hb hby at_484)) ?_
                show OwnFin p e below s _ _ _ (T32.setTop (mkF m 485 #[iv wa, iv wb, iv wc, iv wd, iv (Int32.ofNat n), iv (Int32.ofNat s0), iv fl, iv (Int32.ofNat w), iv (Int32.ofNat s0), iv (Int32.ofNat s1), iv (Int32.ofNat s2), rv b1, iv dr, iv (Int32.ofNat rr), rv b5, rv b9, rv b16, iv o19, rv b20, iv (((Int32.ofNat rr) * (4 : Int32)) + o19), iv (2 : Int32), .unset, .unset] [(.int (own_e n s0 s1 s2 q0 q1 q2 2)), (.int (1 : Int32)), (.ref b20)]))
                obtain ⟨T33, h33, X33, e33, W33, A33, st33⟩ := own_iastore X32 hx hZ e32 A32 (i := 1) (by decide) (by decide) (g := (mkF m 485 #[iv wa, iv wb, iv wc, iv wd, iv (Int32.ofNat n), iv (Int32.ofNat s0), iv fl, iv (Int32.ofNat w), iv (Int32.ofNat s0), iv (Int32.ofNat s1), iv (Int32.ofNat s2), rv b1, iv dr, iv (Int32.ofNat rr), rv b5, rv b9, rv b16, iv o19, rv b20, iv (((Int32.ofNat rr) * (4 : Int32)) + o19), iv (2 : Int32), .unset, .unset] [(.int (own_e n s0 s1 s2 q0 q1 q2 2)), (.int (1 : Int32)), (.ref b20)])) rfl rfl (hb hby at_485)
                have H0_33 := H0_32.other W33 ne_b1_b20
                have H1_33 := H1_32.other W33 ne_b5_b20
                have H2_33 := H2_32.other W33 ne_b9_b20
                have Eq29_33 := Eq29_32.wr W33
                have Vq18K_33 := Vq18K_32.other W33 ne_aK_b20
                have Fq29_keys_33 := Fq29_keys_32.other W33 (Or.inl ne_b16_b20)
                have Fq29_retaken_33 := Fq29_retaken_32.other W33 (Or.inl ne_b16_b20)
                have Fq29_offeredFrom_33 := Fq29_offeredFrom_32.other W33 (Or.inl ne_b16_b20)
                have Fq29_sorted_33 := Fq29_sorted_32.other W33 (Or.inl ne_b16_b20)
                have Fq29_nextKey_33 := Fq29_nextKey_32.other W33 (Or.inl ne_b16_b20)
                have Fq29_retakenAt_33 := Fq29_retakenAt_32.other W33 (Or.inl ne_b16_b20)
                have Fq29_retakenEnd_33 := Fq29_retakenEnd_32.other W33 (Or.inl ne_b16_b20)
                have Vq29T_33 := Vq29T_32.other W33 ne_aT_b20
                have Z33 : n0 ≤ h33.size := Nat.le_trans Z32 (Keep.of_wr W33).1
                have N33 := Fr.snoc X33 N32 g_b20
                refine own_go st33 ?_
                show OwnFin p e below s _ _ _ (T33.setTop (mkF m 486 #[iv wa, iv wb, iv wc, iv wd, iv (Int32.ofNat n), iv (Int32.ofNat s0), iv fl, iv (Int32.ofNat w), iv (Int32.ofNat s0), iv (Int32.ofNat s1), iv (Int32.ofNat s2), rv b1, iv dr, iv (Int32.ofNat rr), rv b5, rv b9, rv b16, iv o19, rv b20, iv (((Int32.ofNat rr) * (4 : Int32)) + o19), iv (2 : Int32), .unset, .unset] []))
                refine own_go (fun t_ k_ => XS.aload X33.here hx rfl (hb hby at_486) rfl rfl k_) ?_
                show OwnFin p e below s _ _ _ (T33.setTop (mkF m 488 #[iv wa, iv wb, iv wc, iv wd, iv (Int32.ofNat n), iv (Int32.ofNat s0), iv fl, iv (Int32.ofNat w), iv (Int32.ofNat s0), iv (Int32.ofNat s1), iv (Int32.ofNat s2), rv b1, iv dr, iv (Int32.ofNat rr), rv b5, rv b9, rv b16, iv o19, rv b20, iv (((Int32.ofNat rr) * (4 : Int32)) + o19), iv (2 : Int32), .unset, .unset] [(.ref b20)]))
                refine own_go (fun t_ k_ => XS.iconst X33.here hx rfl (hb hby at_488) k_) ?_
                show OwnFin p e below s _ _ _ (T33.setTop (mkF m 489 #[iv wa, iv wb, iv wc, iv wd, iv (Int32.ofNat n), iv (Int32.ofNat s0), iv fl, iv (Int32.ofNat w), iv (Int32.ofNat s0), iv (Int32.ofNat s1), iv (Int32.ofNat s2), rv b1, iv dr, iv (Int32.ofNat rr), rv b5, rv b9, rv b16, iv o19, rv b20, iv (((Int32.ofNat rr) * (4 : Int32)) + o19), iv (2 : Int32), .unset, .unset] [(.int (2 : Int32)), (.ref b20)]))
                refine own_go (fun t_ k_ => XS.iload X33.here hx rfl (hb hby at_489) rfl k_) ?_
                show OwnFin p e below s _ _ _ (T33.setTop (mkF m 491 #[iv wa, iv wb, iv wc, iv wd, iv (Int32.ofNat n), iv (Int32.ofNat s0), iv fl, iv (Int32.ofNat w), iv (Int32.ofNat s0), iv (Int32.ofNat s1), iv (Int32.ofNat s2), rv b1, iv dr, iv (Int32.ofNat rr), rv b5, rv b9, rv b16, iv o19, rv b20, iv (((Int32.ofNat rr) * (4 : Int32)) + o19), iv (2 : Int32), .unset, .unset] [(.int o19), (.int (2 : Int32)), (.ref b20)]))
                obtain ⟨T34, h34, X34, e34, W34, A34, st34⟩ := own_iastore X33 hx hZ e33 A33 (i := 2) (by decide) (by decide) (g := (mkF m 491 #[iv wa, iv wb, iv wc, iv wd, iv (Int32.ofNat n), iv (Int32.ofNat s0), iv fl, iv (Int32.ofNat w), iv (Int32.ofNat s0), iv (Int32.ofNat s1), iv (Int32.ofNat s2), rv b1, iv dr, iv (Int32.ofNat rr), rv b5, rv b9, rv b16, iv o19, rv b20, iv (((Int32.ofNat rr) * (4 : Int32)) + o19), iv (2 : Int32), .unset, .unset] [(.int o19), (.int (2 : Int32)), (.ref b20)])) rfl rfl (hb hby at_491)
                have H0_34 := H0_33.other W34 ne_b1_b20
                have H1_34 := H1_33.other W34 ne_b5_b20
                have H2_34 := H2_33.other W34 ne_b9_b20
                have Eq29_34 := Eq29_33.wr W34
                have Vq18K_34 := Vq18K_33.other W34 ne_aK_b20
                have Fq29_keys_34 := Fq29_keys_33.other W34 (Or.inl ne_b16_b20)
                have Fq29_retaken_34 := Fq29_retaken_33.other W34 (Or.inl ne_b16_b20)
                have Fq29_offeredFrom_34 := Fq29_offeredFrom_33.other W34 (Or.inl ne_b16_b20)
                have Fq29_sorted_34 := Fq29_sorted_33.other W34 (Or.inl ne_b16_b20)
                have Fq29_nextKey_34 := Fq29_nextKey_33.other W34 (Or.inl ne_b16_b20)
                have Fq29_retakenAt_34 := Fq29_retakenAt_33.other W34 (Or.inl ne_b16_b20)
                have Fq29_retakenEnd_34 := Fq29_retakenEnd_33.other W34 (Or.inl ne_b16_b20)
                have Vq29T_34 := Vq29T_33.other W34 ne_aT_b20
                have Z34 : n0 ≤ h34.size := Nat.le_trans Z33 (Keep.of_wr W34).1
                have N34 := Fr.snoc X34 N33 g_b20
                refine own_go st34 ?_
                show OwnFin p e below s _ _ _ (T34.setTop (mkF m 492 #[iv wa, iv wb, iv wc, iv wd, iv (Int32.ofNat n), iv (Int32.ofNat s0), iv fl, iv (Int32.ofNat w), iv (Int32.ofNat s0), iv (Int32.ofNat s1), iv (Int32.ofNat s2), rv b1, iv dr, iv (Int32.ofNat rr), rv b5, rv b9, rv b16, iv o19, rv b20, iv (((Int32.ofNat rr) * (4 : Int32)) + o19), iv (2 : Int32), .unset, .unset] []))
                refine own_go (fun t_ k_ => XS.aload X34.here hx rfl (hb hby at_492) rfl rfl k_) ?_
                show OwnFin p e below s _ _ _ (T34.setTop (mkF m 494 #[iv wa, iv wb, iv wc, iv wd, iv (Int32.ofNat n), iv (Int32.ofNat s0), iv fl, iv (Int32.ofNat w), iv (Int32.ofNat s0), iv (Int32.ofNat s1), iv (Int32.ofNat s2), rv b1, iv dr, iv (Int32.ofNat rr), rv b5, rv b9, rv b16, iv o19, rv b20, iv (((Int32.ofNat rr) * (4 : Int32)) + o19), iv (2 : Int32), .unset, .unset] [(.ref b20)]))
                refine own_go (fun t_ k_ => XS.iconst X34.here hx rfl (hb hby at_494) k_) ?_
                show OwnFin p e below s _ _ _ (T34.setTop (mkF m 495 #[iv wa, iv wb, iv wc, iv wd, iv (Int32.ofNat n), iv (Int32.ofNat s0), iv fl, iv (Int32.ofNat w), iv (Int32.ofNat s0), iv (Int32.ofNat s1), iv (Int32.ofNat s2), rv b1, iv dr, iv (Int32.ofNat rr), rv b5, rv b9, rv b16, iv o19, rv b20, iv (((Int32.ofNat rr) * (4 : Int32)) + o19), iv (2 : Int32), .unset, .unset] [(.int (3 : Int32)), (.ref b20)]))
                refine own_go (fun t_ k_ => XS.iconst X34.here hx rfl (hb hby at_495) k_) ?_
                show OwnFin p e below s _ _ _ (T34.setTop (mkF m 496 #[iv wa, iv wb, iv wc, iv wd, iv (Int32.ofNat n), iv (Int32.ofNat s0), iv fl, iv (Int32.ofNat w), iv (Int32.ofNat s0), iv (Int32.ofNat s1), iv (Int32.ofNat s2), rv b1, iv dr, iv (Int32.ofNat rr), rv b5, rv b9, rv b16, iv o19, rv b20, iv (((Int32.ofNat rr) * (4 : Int32)) + o19), iv (2 : Int32), .unset, .unset] [(.int (-1 : Int32)), (.int (3 : Int32)), (.ref b20)]))
                obtain ⟨T35, h35, X35, e35, W35, A35, st35⟩ := own_iastore X34 hx hZ e34 A34 (i := 3) (by decide) (by decide) (g := (mkF m 496 #[iv wa, iv wb, iv wc, iv wd, iv (Int32.ofNat n), iv (Int32.ofNat s0), iv fl, iv (Int32.ofNat w), iv (Int32.ofNat s0), iv (Int32.ofNat s1), iv (Int32.ofNat s2), rv b1, iv dr, iv (Int32.ofNat rr), rv b5, rv b9, rv b16, iv o19, rv b20, iv (((Int32.ofNat rr) * (4 : Int32)) + o19), iv (2 : Int32), .unset, .unset] [(.int (-1 : Int32)), (.int (3 : Int32)), (.ref b20)])) rfl rfl (hb hby at_496)
                have H0_35 := H0_34.other W35 ne_b1_b20
                have H1_35 := H1_34.other W35 ne_b5_b20
                have H2_35 := H2_34.other W35 ne_b9_b20
                have Eq29_35 := Eq29_34.wr W35
                have Vq18K_35 := Vq18K_34.other W35 ne_aK_b20
                have Fq29_keys_35 := Fq29_keys_34.other W35 (Or.inl ne_b16_b20)
                have Fq29_retaken_35 := Fq29_retaken_34.other W35 (Or.inl ne_b16_b20)
                have Fq29_offeredFrom_35 := Fq29_offeredFrom_34.other W35 (Or.inl ne_b16_b20)
                have Fq29_sorted_35 := Fq29_sorted_34.other W35 (Or.inl ne_b16_b20)
                have Fq29_nextKey_35 := Fq29_nextKey_34.other W35 (Or.inl ne_b16_b20)
                have Fq29_retakenAt_35 := Fq29_retakenAt_34.other W35 (Or.inl ne_b16_b20)
                have Fq29_retakenEnd_35 := Fq29_retakenEnd_34.other W35 (Or.inl ne_b16_b20)
                have Vq29T_35 := Vq29T_34.other W35 ne_aT_b20
                have Z35 : n0 ≤ h35.size := Nat.le_trans Z34 (Keep.of_wr W35).1
                have N35 := Fr.snoc X35 N34 g_b20
                refine own_go st35 ?_
                show OwnFin p e below s _ _ _ (T35.setTop (mkF m 497 #[iv wa, iv wb, iv wc, iv wd, iv (Int32.ofNat n), iv (Int32.ofNat s0), iv fl, iv (Int32.ofNat w), iv (Int32.ofNat s0), iv (Int32.ofNat s1), iv (Int32.ofNat s2), rv b1, iv dr, iv (Int32.ofNat rr), rv b5, rv b9, rv b16, iv o19, rv b20, iv (((Int32.ofNat rr) * (4 : Int32)) + o19), iv (2 : Int32), .unset, .unset] []))
                have hps : own_ps n (own_rn q0 q1 q2) (own_e n s0 s1 s2 q0 q1 q2 1) (own_e n s0 s1 s2 q0 q1 q2 2) (Int32.ofNat rr * 4 + o19) = 2 := by unfold own_ps; rw [if_pos ⟨h1n, hc380⟩, if_pos ⟨h2n, hc403⟩]
                have hck := hR.2.2.2 rr hrr
                rw [hps] at hck
                have V_m : OwnArr Z h35 b20 .int 4 (fun k => .int (own_mp 2 o19 (own_e n s0 s1 s2 q0 q1 q2 1) (own_e n s0 s1 s2 q0 q1 q2 2) k)) := A35.congr (own_4c rfl rfl rfl rfl)
                have hck2 := hck
                have Frb : Fld Z h35 b16 "com/example/nearside/nearside/slotted/delay/FairBack" "retakenAt" "I" (.int (Int32.ofNat ra19)) := by rw [hra0]; exact Fq29_retakenAt_35
                exact tl2 _ (own_key (Int32.ofNat rr) o19) 1 _ _ _ T35 _ _ X35 e35 N35 Z35 H0_35 H1_35 H2_35 Eq29_35 Vq18K_35 Vq29T_35 Fq29_keys_35 Fq29_retaken_35 Fq29_offeredFrom_35 Fq29_sorted_35 Fq29_nextKey_35 Frb Fq29_retakenEnd_35 V_m (by decide) (fun _ => rfl) hck2 (One.val rfl) (One.val rfl)
              · refine own_go (fun t_ k_ => XS.icmpYes X31.here hx rfl (pc0 := 403) (pc' := 409) rfl (hb hby at_403) rfl (flt hc403).2.1 (by decide) (by decide) k_) ?_
                show OwnFin p e below s _ _ _ (T31.setTop (mkF m 409 #[iv wa, iv wb, iv wc, iv wd, iv (Int32.ofNat n), iv (Int32.ofNat s0), iv fl, iv (Int32.ofNat w), iv (Int32.ofNat s0), iv (Int32.ofNat s1), iv (Int32.ofNat s2), rv b1, iv dr, iv (Int32.ofNat rr), rv b5, rv b9, rv b16, iv o19, rv b20, iv (((Int32.ofNat rr) * (4 : Int32)) + o19), iv (1 : Int32), .unset, .unset] []))
                refine own_go (fun t_ k_ => XS.iload X31.here hx rfl (hb hby at_409) rfl k_) ?_
                show OwnFin p e below s _ _ _ (T31.setTop (mkF m 411 #[iv wa, iv wb, iv wc, iv wd, iv (Int32.ofNat n), iv (Int32.ofNat s0), iv fl, iv (Int32.ofNat w), iv (Int32.ofNat s0), iv (Int32.ofNat s1), iv (Int32.ofNat s2), rv b1, iv dr, iv (Int32.ofNat rr), rv b5, rv b9, rv b16, iv o19, rv b20, iv (((Int32.ofNat rr) * (4 : Int32)) + o19), iv (1 : Int32), .unset, .unset] [(.int (1 : Int32))]))
                refine own_go (fun t_ k_ => XS.ifYes X31.here hx rfl (pc0 := 411) (pc' := 439) rfl (hb hby at_411) rfl ((if0 _ _).trans (feq (by decide)).2) (by decide) (by decide) k_) ?_
                show OwnFin p e below s _ _ _ (T31.setTop (mkF m 439 #[iv wa, iv wb, iv wc, iv wd, iv (Int32.ofNat n), iv (Int32.ofNat s0), iv fl, iv (Int32.ofNat w), iv (Int32.ofNat s0), iv (Int32.ofNat s1), iv (Int32.ofNat s2), rv b1, iv dr, iv (Int32.ofNat rr), rv b5, rv b9, rv b16, iv o19, rv b20, iv (((Int32.ofNat rr) * (4 : Int32)) + o19), iv (1 : Int32), .unset, .unset] []))
                refine own_go (fun t_ k_ => XS.iload X31.here hx rfl (hb hby at_439) rfl k_) ?_
                show OwnFin p e below s _ _ _ (T31.setTop (mkF m 441 #[iv wa, iv wb, iv wc, iv wd, iv (Int32.ofNat n), iv (Int32.ofNat s0), iv fl, iv (Int32.ofNat w), iv (Int32.ofNat s0), iv (Int32.ofNat s1), iv (Int32.ofNat s2), rv b1, iv dr, iv (Int32.ofNat rr), rv b5, rv b9, rv b16, iv o19, rv b20, iv (((Int32.ofNat rr) * (4 : Int32)) + o19), iv (1 : Int32), .unset, .unset] [(.int (1 : Int32))]))
                refine own_go (fun t_ k_ => XS.iconst X31.here hx rfl (hb hby at_441) k_) ?_
                show OwnFin p e below s _ _ _ (T31.setTop (mkF m 442 #[iv wa, iv wb, iv wc, iv wd, iv (Int32.ofNat n), iv (Int32.ofNat s0), iv fl, iv (Int32.ofNat w), iv (Int32.ofNat s0), iv (Int32.ofNat s1), iv (Int32.ofNat s2), rv b1, iv dr, iv (Int32.ofNat rr), rv b5, rv b9, rv b16, iv o19, rv b20, iv (((Int32.ofNat rr) * (4 : Int32)) + o19), iv (1 : Int32), .unset, .unset] [(.int (1 : Int32)), (.int (1 : Int32))]))
                refine own_go (fun t_ k_ => XS.icmpNo X31.here hx rfl (hb hby at_442) rfl (teq (by decide)).2 k_) ?_
                show OwnFin p e below s _ _ _ (T31.setTop (mkF m 445 #[iv wa, iv wb, iv wc, iv wd, iv (Int32.ofNat n), iv (Int32.ofNat s0), iv fl, iv (Int32.ofNat w), iv (Int32.ofNat s0), iv (Int32.ofNat s1), iv (Int32.ofNat s2), rv b1, iv dr, iv (Int32.ofNat rr), rv b5, rv b9, rv b16, iv o19, rv b20, iv (((Int32.ofNat rr) * (4 : Int32)) + o19), iv (1 : Int32), .unset, .unset] []))
                refine own_go (fun t_ k_ => XS.aload X31.here hx rfl (hb hby at_445) rfl rfl k_) ?_
                show OwnFin p e below s _ _ _ (T31.setTop (mkF m 447 #[iv wa, iv wb, iv wc, iv wd, iv (Int32.ofNat n), iv (Int32.ofNat s0), iv fl, iv (Int32.ofNat w), iv (Int32.ofNat s0), iv (Int32.ofNat s1), iv (Int32.ofNat s2), rv b1, iv dr, iv (Int32.ofNat rr), rv b5, rv b9, rv b16, iv o19, rv b20, iv (((Int32.ofNat rr) * (4 : Int32)) + o19), iv (1 : Int32), .unset, .unset] [(.ref b20)]))
                refine own_go (fun t_ k_ => XS.iconst X31.here hx rfl (hb hby at_447) k_) ?_
                show OwnFin p e below s _ _ _ (T31.setTop (mkF m 448 #[iv wa, iv wb, iv wc, iv wd, iv (Int32.ofNat n), iv (Int32.ofNat s0), iv fl, iv (Int32.ofNat w), iv (Int32.ofNat s0), iv (Int32.ofNat s1), iv (Int32.ofNat s2), rv b1, iv dr, iv (Int32.ofNat rr), rv b5, rv b9, rv b16, iv o19, rv b20, iv (((Int32.ofNat rr) * (4 : Int32)) + o19), iv (1 : Int32), .unset, .unset] [(.int (0 : Int32)), (.ref b20)]))
                refine own_go (fun t_ k_ => XS.aload X31.here hx rfl (hb hby at_448) rfl rfl k_) ?_
                show OwnFin p e below s _ _ _ (T31.setTop (mkF m 450 #[iv wa, iv wb, iv wc, iv wd, iv (Int32.ofNat n), iv (Int32.ofNat s0), iv fl, iv (Int32.ofNat w), iv (Int32.ofNat s0), iv (Int32.ofNat s1), iv (Int32.ofNat s2), rv b1, iv dr, iv (Int32.ofNat rr), rv b5, rv b9, rv b16, iv o19, rv b20, iv (((Int32.ofNat rr) * (4 : Int32)) + o19), iv (1 : Int32), .unset, .unset] [(.ref b9), (.int (0 : Int32)), (.ref b20)]))
                refine own_go (fun t_ k_ => XS.iconst X31.here hx rfl (hb hby at_450) k_) ?_
                show OwnFin p e below s _ _ _ (T31.setTop (mkF m 451 #[iv wa, iv wb, iv wc, iv wd, iv (Int32.ofNat n), iv (Int32.ofNat s0), iv fl, iv (Int32.ofNat w), iv (Int32.ofNat s0), iv (Int32.ofNat s1), iv (Int32.ofNat s2), rv b1, iv dr, iv (Int32.ofNat rr), rv b5, rv b9, rv b16, iv o19, rv b20, iv (((Int32.ofNat rr) * (4 : Int32)) + o19), iv (1 : Int32), .unset, .unset] [(.int (1 : Int32)), (.ref b9), (.int (0 : Int32)), (.ref b20)]))
                refine own_go (own_iaload X31 hx hZ e31 H2_29 (i := 1) (by decide) (by decide) (g := (mkF m 451 #[iv wa, iv wb, iv wc, iv wd, iv (Int32.ofNat n), iv (Int32.ofNat s0), iv fl, iv (Int32.ofNat w), iv (Int32.ofNat s0), iv (Int32.ofNat s1), iv (Int32.ofNat s2), rv b1, iv dr, iv (Int32.ofNat rr), rv b5, rv b9, rv b16, iv o19, rv b20, iv (((Int32.ofNat rr) * (4 : Int32)) + o19), iv (1 : Int32), .unset, .unset] [(.int (1 : Int32)), (.ref b9), (.int (0 : Int32)), (.ref b20)])) rfl rfl (hb hby at_451)) ?_
                show OwnFin p e below s _ _ _ (T31.setTop (mkF m 452 #[iv wa, iv wb, iv wc, iv wd, iv (Int32.ofNat n), iv (Int32.ofNat s0), iv fl, iv (Int32.ofNat w), iv (Int32.ofNat s0), iv (Int32.ofNat s1), iv (Int32.ofNat s2), rv b1, iv dr, iv (Int32.ofNat rr), rv b5, rv b9, rv b16, iv o19, rv b20, iv (((Int32.ofNat rr) * (4 : Int32)) + o19), iv (1 : Int32), .unset, .unset] [(.int (own_e n s0 s1 s2 q0 q1 q2 1)), (.int (0 : Int32)), (.ref b20)]))
                obtain ⟨T36, h36, X36, e36, W36, A36, st36⟩ := own_iastore X31 hx hZ e31 V_b20_29 (i := 0) (by decide) (by decide) (g := (mkF m 452 #[iv wa, iv wb, iv wc, iv wd, iv (Int32.ofNat n), iv (Int32.ofNat s0), iv fl, iv (Int32.ofNat w), iv (Int32.ofNat s0), iv (Int32.ofNat s1), iv (Int32.ofNat s2), rv b1, iv dr, iv (Int32.ofNat rr), rv b5, rv b9, rv b16, iv o19, rv b20, iv (((Int32.ofNat rr) * (4 : Int32)) + o19), iv (1 : Int32), .unset, .unset] [(.int (own_e n s0 s1 s2 q0 q1 q2 1)), (.int (0 : Int32)), (.ref b20)])) rfl rfl (hb hby at_452)
                have H0_36 := H0_29.other W36 ne_b1_b20
                have H1_36 := H1_29.other W36 ne_b5_b20
                have H2_36 := H2_29.other W36 ne_b9_b20
                have Eq29_36 := Eq29.wr W36
                have Vq18K_36 := Vq18K_29.other W36 ne_aK_b20
                have Fq29_keys_36 := Fq29_keys.other W36 (Or.inl ne_b16_b20)
                have Fq29_retaken_36 := Fq29_retaken.other W36 (Or.inl ne_b16_b20)
                have Fq29_offeredFrom_36 := Fq29_offeredFrom.other W36 (Or.inl ne_b16_b20)
                have Fq29_sorted_36 := Fq29_sorted.other W36 (Or.inl ne_b16_b20)
                have Fq29_nextKey_36 := Fq29_nextKey.other W36 (Or.inl ne_b16_b20)
                have Fq29_retakenAt_36 := Fq29_retakenAt.other W36 (Or.inl ne_b16_b20)
                have Fq29_retakenEnd_36 := Fq29_retakenEnd.other W36 (Or.inl ne_b16_b20)
                have Vq29T_36 := Vq29T.other W36 ne_aT_b20
                have Z36 : n0 ≤ h36.size := Nat.le_trans Z29 (Keep.of_wr W36).1
                have N36 := Fr.snoc X36 N31 g_b20
                refine own_go st36 ?_
                show OwnFin p e below s _ _ _ (T36.setTop (mkF m 453 #[iv wa, iv wb, iv wc, iv wd, iv (Int32.ofNat n), iv (Int32.ofNat s0), iv fl, iv (Int32.ofNat w), iv (Int32.ofNat s0), iv (Int32.ofNat s1), iv (Int32.ofNat s2), rv b1, iv dr, iv (Int32.ofNat rr), rv b5, rv b9, rv b16, iv o19, rv b20, iv (((Int32.ofNat rr) * (4 : Int32)) + o19), iv (1 : Int32), .unset, .unset] []))
                refine own_go (fun t_ k_ => XS.aload X36.here hx rfl (hb hby at_453) rfl rfl k_) ?_
                show OwnFin p e below s _ _ _ (T36.setTop (mkF m 455 #[iv wa, iv wb, iv wc, iv wd, iv (Int32.ofNat n), iv (Int32.ofNat s0), iv fl, iv (Int32.ofNat w), iv (Int32.ofNat s0), iv (Int32.ofNat s1), iv (Int32.ofNat s2), rv b1, iv dr, iv (Int32.ofNat rr), rv b5, rv b9, rv b16, iv o19, rv b20, iv (((Int32.ofNat rr) * (4 : Int32)) + o19), iv (1 : Int32), .unset, .unset] [(.ref b20)]))
                refine own_go (fun t_ k_ => XS.iconst X36.here hx rfl (hb hby at_455) k_) ?_
                show OwnFin p e below s _ _ _ (T36.setTop (mkF m 456 #[iv wa, iv wb, iv wc, iv wd, iv (Int32.ofNat n), iv (Int32.ofNat s0), iv fl, iv (Int32.ofNat w), iv (Int32.ofNat s0), iv (Int32.ofNat s1), iv (Int32.ofNat s2), rv b1, iv dr, iv (Int32.ofNat rr), rv b5, rv b9, rv b16, iv o19, rv b20, iv (((Int32.ofNat rr) * (4 : Int32)) + o19), iv (1 : Int32), .unset, .unset] [(.int (1 : Int32)), (.ref b20)]))
                refine own_go (fun t_ k_ => XS.iload X36.here hx rfl (hb hby at_456) rfl k_) ?_
                show OwnFin p e below s _ _ _ (T36.setTop (mkF m 458 #[iv wa, iv wb, iv wc, iv wd, iv (Int32.ofNat n), iv (Int32.ofNat s0), iv fl, iv (Int32.ofNat w), iv (Int32.ofNat s0), iv (Int32.ofNat s1), iv (Int32.ofNat s2), rv b1, iv dr, iv (Int32.ofNat rr), rv b5, rv b9, rv b16, iv o19, rv b20, iv (((Int32.ofNat rr) * (4 : Int32)) + o19), iv (1 : Int32), .unset, .unset] [(.int o19), (.int (1 : Int32)), (.ref b20)]))
                obtain ⟨T37, h37, X37, e37, W37, A37, st37⟩ := own_iastore X36 hx hZ e36 A36 (i := 1) (by decide) (by decide) (g := (mkF m 458 #[iv wa, iv wb, iv wc, iv wd, iv (Int32.ofNat n), iv (Int32.ofNat s0), iv fl, iv (Int32.ofNat w), iv (Int32.ofNat s0), iv (Int32.ofNat s1), iv (Int32.ofNat s2), rv b1, iv dr, iv (Int32.ofNat rr), rv b5, rv b9, rv b16, iv o19, rv b20, iv (((Int32.ofNat rr) * (4 : Int32)) + o19), iv (1 : Int32), .unset, .unset] [(.int o19), (.int (1 : Int32)), (.ref b20)])) rfl rfl (hb hby at_458)
                have H0_37 := H0_36.other W37 ne_b1_b20
                have H1_37 := H1_36.other W37 ne_b5_b20
                have H2_37 := H2_36.other W37 ne_b9_b20
                have Eq29_37 := Eq29_36.wr W37
                have Vq18K_37 := Vq18K_36.other W37 ne_aK_b20
                have Fq29_keys_37 := Fq29_keys_36.other W37 (Or.inl ne_b16_b20)
                have Fq29_retaken_37 := Fq29_retaken_36.other W37 (Or.inl ne_b16_b20)
                have Fq29_offeredFrom_37 := Fq29_offeredFrom_36.other W37 (Or.inl ne_b16_b20)
                have Fq29_sorted_37 := Fq29_sorted_36.other W37 (Or.inl ne_b16_b20)
                have Fq29_nextKey_37 := Fq29_nextKey_36.other W37 (Or.inl ne_b16_b20)
                have Fq29_retakenAt_37 := Fq29_retakenAt_36.other W37 (Or.inl ne_b16_b20)
                have Fq29_retakenEnd_37 := Fq29_retakenEnd_36.other W37 (Or.inl ne_b16_b20)
                have Vq29T_37 := Vq29T_36.other W37 ne_aT_b20
                have Z37 : n0 ≤ h37.size := Nat.le_trans Z36 (Keep.of_wr W37).1
                have N37 := Fr.snoc X37 N36 g_b20
                refine own_go st37 ?_
                show OwnFin p e below s _ _ _ (T37.setTop (mkF m 459 #[iv wa, iv wb, iv wc, iv wd, iv (Int32.ofNat n), iv (Int32.ofNat s0), iv fl, iv (Int32.ofNat w), iv (Int32.ofNat s0), iv (Int32.ofNat s1), iv (Int32.ofNat s2), rv b1, iv dr, iv (Int32.ofNat rr), rv b5, rv b9, rv b16, iv o19, rv b20, iv (((Int32.ofNat rr) * (4 : Int32)) + o19), iv (1 : Int32), .unset, .unset] []))
                refine own_go (fun t_ k_ => XS.aload X37.here hx rfl (hb hby at_459) rfl rfl k_) ?_
                show OwnFin p e below s _ _ _ (T37.setTop (mkF m 461 #[iv wa, iv wb, iv wc, iv wd, iv (Int32.ofNat n), iv (Int32.ofNat s0), iv fl, iv (Int32.ofNat w), iv (Int32.ofNat s0), iv (Int32.ofNat s1), iv (Int32.ofNat s2), rv b1, iv dr, iv (Int32.ofNat rr), rv b5, rv b9, rv b16, iv o19, rv b20, iv (((Int32.ofNat rr) * (4 : Int32)) + o19), iv (1 : Int32), .unset, .unset] [(.ref b20)]))
                refine own_go (fun t_ k_ => XS.iconst X37.here hx rfl (hb hby at_461) k_) ?_
                show OwnFin p e below s _ _ _ (T37.setTop (mkF m 462 #[iv wa, iv wb, iv wc, iv wd, iv (Int32.ofNat n), iv (Int32.ofNat s0), iv fl, iv (Int32.ofNat w), iv (Int32.ofNat s0), iv (Int32.ofNat s1), iv (Int32.ofNat s2), rv b1, iv dr, iv (Int32.ofNat rr), rv b5, rv b9, rv b16, iv o19, rv b20, iv (((Int32.ofNat rr) * (4 : Int32)) + o19), iv (1 : Int32), .unset, .unset] [(.int (2 : Int32)), (.ref b20)]))
                refine own_go (fun t_ k_ => XS.aload X37.here hx rfl (hb hby at_462) rfl rfl k_) ?_
                show OwnFin p e below s _ _ _ (T37.setTop (mkF m 464 #[iv wa, iv wb, iv wc, iv wd, iv (Int32.ofNat n), iv (Int32.ofNat s0), iv fl, iv (Int32.ofNat w), iv (Int32.ofNat s0), iv (Int32.ofNat s1), iv (Int32.ofNat s2), rv b1, iv dr, iv (Int32.ofNat rr), rv b5, rv b9, rv b16, iv o19, rv b20, iv (((Int32.ofNat rr) * (4 : Int32)) + o19), iv (1 : Int32), .unset, .unset] [(.ref b9), (.int (2 : Int32)), (.ref b20)]))
                refine own_go (fun t_ k_ => XS.iconst X37.here hx rfl (hb hby at_464) k_) ?_
                show OwnFin p e below s _ _ _ (T37.setTop (mkF m 465 #[iv wa, iv wb, iv wc, iv wd, iv (Int32.ofNat n), iv (Int32.ofNat s0), iv fl, iv (Int32.ofNat w), iv (Int32.ofNat s0), iv (Int32.ofNat s1), iv (Int32.ofNat s2), rv b1, iv dr, iv (Int32.ofNat rr), rv b5, rv b9, rv b16, iv o19, rv b20, iv (((Int32.ofNat rr) * (4 : Int32)) + o19), iv (1 : Int32), .unset, .unset] [(.int (2 : Int32)), (.ref b9), (.int (2 : Int32)), (.ref b20)]))
                refine own_go (own_iaload X37 hx hZ e37 H2_37 (i := 2) (by decide) (by decide) (g := (mkF m 465 #[iv wa, iv wb, iv wc, iv wd, iv (Int32.ofNat n), iv (Int32.ofNat s0), iv fl, iv (Int32.ofNat w), iv (Int32.ofNat s0), iv (Int32.ofNat s1), iv (Int32.ofNat s2), rv b1, iv dr, iv (Int32.ofNat rr), rv b5, rv b9, rv b16, iv o19, rv b20, iv (((Int32.ofNat rr) * (4 : Int32)) + o19), iv (1 : Int32), .unset, .unset] [(.int (2 : Int32)), (.ref b9), (.int (2 : Int32)), (.ref b20)])) rfl rfl (hb hby at_465)) ?_
                show OwnFin p e below s _ _ _ (T37.setTop (mkF m 466 #[iv wa, iv wb, iv wc, iv wd, iv (Int32.ofNat n), iv (Int32.ofNat s0), iv fl, iv (Int32.ofNat w), iv (Int32.ofNat s0), iv (Int32.ofNat s1), iv (Int32.ofNat s2), rv b1, iv dr, iv (Int32.ofNat rr), rv b5, rv b9, rv b16, iv o19, rv b20, iv (((Int32.ofNat rr) * (4 : Int32)) + o19), iv (1 : Int32), .unset, .unset] [(.int (own_e n s0 s1 s2 q0 q1 q2 2)), (.int (2 : Int32)), (.ref b20)]))
                obtain ⟨T38, h38, X38, e38, W38, A38, st38⟩ := own_iastore X37 hx hZ e37 A37 (i := 2) (by decide) (by decide) (g := (mkF m 466 #[iv wa, iv wb, iv wc, iv wd, iv (Int32.ofNat n), iv (Int32.ofNat s0), iv fl, iv (Int32.ofNat w), iv (Int32.ofNat s0), iv (Int32.ofNat s1), iv (Int32.ofNat s2), rv b1, iv dr, iv (Int32.ofNat rr), rv b5, rv b9, rv b16, iv o19, rv b20, iv (((Int32.ofNat rr) * (4 : Int32)) + o19), iv (1 : Int32), .unset, .unset] [(.int (own_e n s0 s1 s2 q0 q1 q2 2)), (.int (2 : Int32)), (.ref b20)])) rfl rfl (hb hby at_466)
                have H0_38 := H0_37.other W38 ne_b1_b20
                have H1_38 := H1_37.other W38 ne_b5_b20
                have H2_38 := H2_37.other W38 ne_b9_b20
                have Eq29_38 := Eq29_37.wr W38
                have Vq18K_38 := Vq18K_37.other W38 ne_aK_b20
                have Fq29_keys_38 := Fq29_keys_37.other W38 (Or.inl ne_b16_b20)
                have Fq29_retaken_38 := Fq29_retaken_37.other W38 (Or.inl ne_b16_b20)
                have Fq29_offeredFrom_38 := Fq29_offeredFrom_37.other W38 (Or.inl ne_b16_b20)
                have Fq29_sorted_38 := Fq29_sorted_37.other W38 (Or.inl ne_b16_b20)
                have Fq29_nextKey_38 := Fq29_nextKey_37.other W38 (Or.inl ne_b16_b20)
                have Fq29_retakenAt_38 := Fq29_retakenAt_37.other W38 (Or.inl ne_b16_b20)
                have Fq29_retakenEnd_38 := Fq29_retakenEnd_37.other W38 (Or.inl ne_b16_b20)
                have Vq29T_38 := Vq29T_37.other W38 ne_aT_b20
                have Z38 : n0 ≤ h38.size := Nat.le_trans Z37 (Keep.of_wr W38).1
                have N38 := Fr.snoc X38 N37 g_b20
                refine own_go st38 ?_
                show OwnFin p e below s _ _ _ (T38.setTop (mkF m 467 #[iv wa, iv wb, iv wc, iv wd, iv (Int32.ofNat n), iv (Int32.ofNat s0), iv fl, iv (Int32.ofNat w), iv (Int32.ofNat s0), iv (Int32.ofNat s1), iv (Int32.ofNat s2), rv b1, iv dr, iv (Int32.ofNat rr), rv b5, rv b9, rv b16, iv o19, rv b20, iv (((Int32.ofNat rr) * (4 : Int32)) + o19), iv (1 : Int32), .unset, .unset] []))
                refine own_go (fun t_ k_ => XS.goto X38.here hx rfl (pc0 := 467) (pc' := 492) rfl (hb hby at_467) (by decide) (by decide) k_) ?_
                show OwnFin p e below s _ _ _ (T38.setTop (mkF m 492 #[iv wa, iv wb, iv wc, iv wd, iv (Int32.ofNat n), iv (Int32.ofNat s0), iv fl, iv (Int32.ofNat w), iv (Int32.ofNat s0), iv (Int32.ofNat s1), iv (Int32.ofNat s2), rv b1, iv dr, iv (Int32.ofNat rr), rv b5, rv b9, rv b16, iv o19, rv b20, iv (((Int32.ofNat rr) * (4 : Int32)) + o19), iv (1 : Int32), .unset, .unset] []))
                refine own_go (fun t_ k_ => XS.aload X38.here hx rfl (hb hby at_492) rfl rfl k_) ?_
                show OwnFin p e below s _ _ _ (T38.setTop (mkF m 494 #[iv wa, iv wb, iv wc, iv wd, iv (Int32.ofNat n), iv (Int32.ofNat s0), iv fl, iv (Int32.ofNat w), iv (Int32.ofNat s0), iv (Int32.ofNat s1), iv (Int32.ofNat s2), rv b1, iv dr, iv (Int32.ofNat rr), rv b5, rv b9, rv b16, iv o19, rv b20, iv (((Int32.ofNat rr) * (4 : Int32)) + o19), iv (1 : Int32), .unset, .unset] [(.ref b20)]))
                refine own_go (fun t_ k_ => XS.iconst X38.here hx rfl (hb hby at_494) k_) ?_
                show OwnFin p e below s _ _ _ (T38.setTop (mkF m 495 #[iv wa, iv wb, iv wc, iv wd, iv (Int32.ofNat n), iv (Int32.ofNat s0), iv fl, iv (Int32.ofNat w), iv (Int32.ofNat s0), iv (Int32.ofNat s1), iv (Int32.ofNat s2), rv b1, iv dr, iv (Int32.ofNat rr), rv b5, rv b9, rv b16, iv o19, rv b20, iv (((Int32.ofNat rr) * (4 : Int32)) + o19), iv (1 : Int32), .unset, .unset] [(.int (3 : Int32)), (.ref b20)]))
                refine own_go (fun t_ k_ => XS.iconst X38.here hx rfl (hb hby at_495) k_) ?_
                show OwnFin p e below s _ _ _ (T38.setTop (mkF m 496 #[iv wa, iv wb, iv wc, iv wd, iv (Int32.ofNat n), iv (Int32.ofNat s0), iv fl, iv (Int32.ofNat w), iv (Int32.ofNat s0), iv (Int32.ofNat s1), iv (Int32.ofNat s2), rv b1, iv dr, iv (Int32.ofNat rr), rv b5, rv b9, rv b16, iv o19, rv b20, iv (((Int32.ofNat rr) * (4 : Int32)) + o19), iv (1 : Int32), .unset, .unset] [(.int (-1 : Int32)), (.int (3 : Int32)), (.ref b20)]))
                obtain ⟨T39, h39, X39, e39, W39, A39, st39⟩ := own_iastore X38 hx hZ e38 A38 (i := 3) (by decide) (by decide) (g := (mkF m 496 #[iv wa, iv wb, iv wc, iv wd, iv (Int32.ofNat n), iv (Int32.ofNat s0), iv fl, iv (Int32.ofNat w), iv (Int32.ofNat s0), iv (Int32.ofNat s1), iv (Int32.ofNat s2), rv b1, iv dr, iv (Int32.ofNat rr), rv b5, rv b9, rv b16, iv o19, rv b20, iv (((Int32.ofNat rr) * (4 : Int32)) + o19), iv (1 : Int32), .unset, .unset] [(.int (-1 : Int32)), (.int (3 : Int32)), (.ref b20)])) rfl rfl (hb hby at_496)
                have H0_39 := H0_38.other W39 ne_b1_b20
                have H1_39 := H1_38.other W39 ne_b5_b20
                have H2_39 := H2_38.other W39 ne_b9_b20
                have Eq29_39 := Eq29_38.wr W39
                have Vq18K_39 := Vq18K_38.other W39 ne_aK_b20
                have Fq29_keys_39 := Fq29_keys_38.other W39 (Or.inl ne_b16_b20)
                have Fq29_retaken_39 := Fq29_retaken_38.other W39 (Or.inl ne_b16_b20)
                have Fq29_offeredFrom_39 := Fq29_offeredFrom_38.other W39 (Or.inl ne_b16_b20)
                have Fq29_sorted_39 := Fq29_sorted_38.other W39 (Or.inl ne_b16_b20)
                have Fq29_nextKey_39 := Fq29_nextKey_38.other W39 (Or.inl ne_b16_b20)
                have Fq29_retakenAt_39 := Fq29_retakenAt_38.other W39 (Or.inl ne_b16_b20)
                have Fq29_retakenEnd_39 := Fq29_retakenEnd_38.other W39 (Or.inl ne_b16_b20)
                have Vq29T_39 := Vq29T_38.other W39 ne_aT_b20
                have Z39 : n0 ≤ h39.size := Nat.le_trans Z38 (Keep.of_wr W39).1
                have N39 := Fr.snoc X39 N38 g_b20
                refine own_go st39 ?_
                show OwnFin p e below s _ _ _ (T39.setTop (mkF m 497 #[iv wa, iv wb, iv wc, iv wd, iv (Int32.ofNat n), iv (Int32.ofNat s0), iv fl, iv (Int32.ofNat w), iv (Int32.ofNat s0), iv (Int32.ofNat s1), iv (Int32.ofNat s2), rv b1, iv dr, iv (Int32.ofNat rr), rv b5, rv b9, rv b16, iv o19, rv b20, iv (((Int32.ofNat rr) * (4 : Int32)) + o19), iv (1 : Int32), .unset, .unset] []))
                have hps : own_ps n (own_rn q0 q1 q2) (own_e n s0 s1 s2 q0 q1 q2 1) (own_e n s0 s1 s2 q0 q1 q2 2) (Int32.ofNat rr * 4 + o19) = 1 := by unfold own_ps; rw [if_pos ⟨h1n, hc380⟩, if_neg (fun q => hc403 q.2)]
                have hck := hR.2.2.2 rr hrr
                rw [hps] at hck
                have V_m : OwnArr Z h39 b20 .int 4 (fun k => .int (own_mp 1 o19 (own_e n s0 s1 s2 q0 q1 q2 1) (own_e n s0 s1 s2 q0 q1 q2 2) k)) := A39.congr (own_4c rfl rfl rfl rfl)
                have hck2 := hck
                have Frb : Fld Z h39 b16 "com/example/nearside/nearside/slotted/delay/FairBack" "retakenAt" "I" (.int (Int32.ofNat ra19)) := by rw [hra0]; exact Fq29_retakenAt_39
                exact tl2 _ (own_key (Int32.ofNat rr) o19) 1 _ _ _ T39 _ _ X39 e39 N39 Z39 H0_39 H1_39 H2_39 Eq29_39 Vq18K_39 Vq29T_39 Fq29_keys_39 Fq29_retaken_39 Fq29_offeredFrom_39 Fq29_sorted_39 Fq29_nextKey_39 Frb Fq29_retakenEnd_39 V_m (by decide) (fun _ => rfl) hck2 (One.val rfl) (One.val rfl)
            · refine own_go (fun t_ k_ => XS.icmpYes X30.here hx rfl (pc0 := 389) (pc' := 409) rfl (hb hby at_389) rfl (flt hc389).2.2.2 (by decide) (by decide) k_) ?_
              show OwnFin p e below s _ _ _ (T30.setTop (mkF m 409 #[iv wa, iv wb, iv wc, iv wd, iv (Int32.ofNat n), iv (Int32.ofNat s0), iv fl, iv (Int32.ofNat w), iv (Int32.ofNat s0), iv (Int32.ofNat s1), iv (Int32.ofNat s2), rv b1, iv dr, iv (Int32.ofNat rr), rv b5, rv b9, rv b16, iv o19, rv b20, iv (((Int32.ofNat rr) * (4 : Int32)) + o19), iv (1 : Int32), .unset, .unset] []))
              refine own_go (fun t_ k_ => XS.iload X30.here hx rfl (hb hby at_409) rfl k_) ?_
              show OwnFin p e below s _ _ _ (T30.setTop (mkF m 411 #[iv wa, iv wb, iv wc, iv wd, iv (Int32.ofNat n), iv (Int32.ofNat s0), iv fl, iv (Int32.ofNat w), iv (Int32.ofNat s0), iv (Int32.ofNat s1), iv (Int32.ofNat s2), rv b1, iv dr, iv (Int32.ofNat rr), rv b5, rv b9, rv b16, iv o19, rv b20, iv (((Int32.ofNat rr) * (4 : Int32)) + o19), iv (1 : Int32), .unset, .unset] [(.int (1 : Int32))]))
              refine own_go (fun t_ k_ => XS.ifYes X30.here hx rfl (pc0 := 411) (pc' := 439) rfl (hb hby at_411) rfl ((if0 _ _).trans (feq (by decide)).2) (by decide) (by decide) k_) ?_
              show OwnFin p e below s _ _ _ (T30.setTop (mkF m 439 #[iv wa, iv wb, iv wc, iv wd, iv (Int32.ofNat n), iv (Int32.ofNat s0), iv fl, iv (Int32.ofNat w), iv (Int32.ofNat s0), iv (Int32.ofNat s1), iv (Int32.ofNat s2), rv b1, iv dr, iv (Int32.ofNat rr), rv b5, rv b9, rv b16, iv o19, rv b20, iv (((Int32.ofNat rr) * (4 : Int32)) + o19), iv (1 : Int32), .unset, .unset] []))
              refine own_go (fun t_ k_ => XS.iload X30.here hx rfl (hb hby at_439) rfl k_) ?_
              show OwnFin p e below s _ _ _ (T30.setTop (mkF m 441 #[iv wa, iv wb, iv wc, iv wd, iv (Int32.ofNat n), iv (Int32.ofNat s0), iv fl, iv (Int32.ofNat w), iv (Int32.ofNat s0), iv (Int32.ofNat s1), iv (Int32.ofNat s2), rv b1, iv dr, iv (Int32.ofNat rr), rv b5, rv b9, rv b16, iv o19, rv b20, iv (((Int32.ofNat rr) * (4 : Int32)) + o19), iv (1 : Int32), .unset, .unset] [(.int (1 : Int32))]))
              refine own_go (fun t_ k_ => XS.iconst X30.here hx rfl (hb hby at_441) k_) ?_
              show OwnFin p e below s _ _ _ (T30.setTop (mkF m 442 #[iv wa, iv wb, iv wc, iv wd, iv (Int32.ofNat n), iv (Int32.ofNat s0), iv fl, iv (Int32.ofNat w), iv (Int32.ofNat s0), iv (Int32.ofNat s1), iv (Int32.ofNat s2), rv b1, iv dr, iv (Int32.ofNat rr), rv b5, rv b9, rv b16, iv o19, rv b20, iv (((Int32.ofNat rr) * (4 : Int32)) + o19), iv (1 : Int32), .unset, .unset] [(.int (1 : Int32)), (.int (1 : Int32))]))
              refine own_go (fun t_ k_ => XS.icmpNo X30.here hx rfl (hb hby at_442) rfl (teq (by decide)).2 k_) ?_
              show OwnFin p e below s _ _ _ (T30.setTop (mkF m 445 #[iv wa, iv wb, iv wc, iv wd, iv (Int32.ofNat n), iv (Int32.ofNat s0), iv fl, iv (Int32.ofNat w), iv (Int32.ofNat s0), iv (Int32.ofNat s1), iv (Int32.ofNat s2), rv b1, iv dr, iv (Int32.ofNat rr), rv b5, rv b9, rv b16, iv o19, rv b20, iv (((Int32.ofNat rr) * (4 : Int32)) + o19), iv (1 : Int32), .unset, .unset] []))
              refine own_go (fun t_ k_ => XS.aload X30.here hx rfl (hb hby at_445) rfl rfl k_) ?_
              show OwnFin p e below s _ _ _ (T30.setTop (mkF m 447 #[iv wa, iv wb, iv wc, iv wd, iv (Int32.ofNat n), iv (Int32.ofNat s0), iv fl, iv (Int32.ofNat w), iv (Int32.ofNat s0), iv (Int32.ofNat s1), iv (Int32.ofNat s2), rv b1, iv dr, iv (Int32.ofNat rr), rv b5, rv b9, rv b16, iv o19, rv b20, iv (((Int32.ofNat rr) * (4 : Int32)) + o19), iv (1 : Int32), .unset, .unset] [(.ref b20)]))
              refine own_go (fun t_ k_ => XS.iconst X30.here hx rfl (hb hby at_447) k_) ?_
              show OwnFin p e below s _ _ _ (T30.setTop (mkF m 448 #[iv wa, iv wb, iv wc, iv wd, iv (Int32.ofNat n), iv (Int32.ofNat s0), iv fl, iv (Int32.ofNat w), iv (Int32.ofNat s0), iv (Int32.ofNat s1), iv (Int32.ofNat s2), rv b1, iv dr, iv (Int32.ofNat rr), rv b5, rv b9, rv b16, iv o19, rv b20, iv (((Int32.ofNat rr) * (4 : Int32)) + o19), iv (1 : Int32), .unset, .unset] [(.int (0 : Int32)), (.ref b20)]))
              refine own_go (fun t_ k_ => XS.aload X30.here hx rfl (hb hby at_448) rfl rfl k_) ?_
              show OwnFin p e below s _ _ _ (T30.setTop (mkF m 450 #[iv wa, iv wb, iv wc, iv wd, iv (Int32.ofNat n), iv (Int32.ofNat s0), iv fl, iv (Int32.ofNat w), iv (Int32.ofNat s0), iv (Int32.ofNat s1), iv (Int32.ofNat s2), rv b1, iv dr, iv (Int32.ofNat rr), rv b5, rv b9, rv b16, iv o19, rv b20, iv (((Int32.ofNat rr) * (4 : Int32)) + o19), iv (1 : Int32), .unset, .unset] [(.ref b9), (.int (0 : Int32)), (.ref b20)]))
              refine own_go (fun t_ k_ => XS.iconst X30.here hx rfl (hb hby at_450) k_) ?_
              show OwnFin p e below s _ _ _ (T30.setTop (mkF m 451 #[iv wa, iv wb, iv wc, iv wd, iv (Int32.ofNat n), iv (Int32.ofNat s0), iv fl, iv (Int32.ofNat w), iv (Int32.ofNat s0), iv (Int32.ofNat s1), iv (Int32.ofNat s2), rv b1, iv dr, iv (Int32.ofNat rr), rv b5, rv b9, rv b16, iv o19, rv b20, iv (((Int32.ofNat rr) * (4 : Int32)) + o19), iv (1 : Int32), .unset, .unset] [(.int (1 : Int32)), (.ref b9), (.int (0 : Int32)), (.ref b20)]))
              refine own_go (own_iaload X30 hx hZ e30 H2_29 (i := 1) (by decide) (by decide) (g := (mkF m 451 #[iv wa, iv wb, iv wc, iv wd, iv (Int32.ofNat n), iv (Int32.ofNat s0), iv fl, iv (Int32.ofNat w), iv (Int32.ofNat s0), iv (Int32.ofNat s1), iv (Int32.ofNat s2), rv b1, iv dr, iv (Int32.ofNat rr), rv b5, rv b9, rv b16, iv o19, rv b20, iv (((Int32.ofNat rr) * (4 : Int32)) + o19), iv (1 : Int32), .unset, .unset] [(.int (1 : Int32)), (.ref b9), (.int (0 : Int32)), (.ref b20)])) rfl rfl (hb hby at_451)) ?_
              show OwnFin p e below s _ _ _ (T30.setTop (mkF m 452 #[iv wa, iv wb, iv wc, iv wd, iv (Int32.ofNat n), iv (Int32.ofNat s0), iv fl, iv (Int32.ofNat w), iv (Int32.ofNat s0), iv (Int32.ofNat s1), iv (Int32.ofNat s2), rv b1, iv dr, iv (Int32.ofNat rr), rv b5, rv b9, rv b16, iv o19, rv b20, iv (((Int32.ofNat rr) * (4 : Int32)) + o19), iv (1 : Int32), .unset, .unset] [(.int (own_e n s0 s1 s2 q0 q1 q2 1)), (.int (0 : Int32)), (.ref b20)]))
              obtain ⟨T40, h40, X40, e40, W40, A40, st40⟩ := own_iastore X30 hx hZ e30 V_b20_29 (i := 0) (by decide) (by decide) (g := (mkF m 452 #[iv wa, iv wb, iv wc, iv wd, iv (Int32.ofNat n), iv (Int32.ofNat s0), iv fl, iv (Int32.ofNat w), iv (Int32.ofNat s0), iv (Int32.ofNat s1), iv (Int32.ofNat s2), rv b1, iv dr, iv (Int32.ofNat rr), rv b5, rv b9, rv b16, iv o19, rv b20, iv (((Int32.ofNat rr) * (4 : Int32)) + o19), iv (1 : Int32), .unset, .unset] [(.int (own_e n s0 s1 s2 q0 q1 q2 1)), (.int (0 : Int32)), (.ref b20)])) rfl rfl (hb hby at_452)
              have H0_40 := H0_29.other W40 ne_b1_b20
              have H1_40 := H1_29.other W40 ne_b5_b20
              have H2_40 := H2_29.other W40 ne_b9_b20
              have Eq29_40 := Eq29.wr W40
              have Vq18K_40 := Vq18K_29.other W40 ne_aK_b20
              have Fq29_keys_40 := Fq29_keys.other W40 (Or.inl ne_b16_b20)
              have Fq29_retaken_40 := Fq29_retaken.other W40 (Or.inl ne_b16_b20)
              have Fq29_offeredFrom_40 := Fq29_offeredFrom.other W40 (Or.inl ne_b16_b20)
              have Fq29_sorted_40 := Fq29_sorted.other W40 (Or.inl ne_b16_b20)
              have Fq29_nextKey_40 := Fq29_nextKey.other W40 (Or.inl ne_b16_b20)
              have Fq29_retakenAt_40 := Fq29_retakenAt.other W40 (Or.inl ne_b16_b20)
              have Fq29_retakenEnd_40 := Fq29_retakenEnd.other W40 (Or.inl ne_b16_b20)
              have Vq29T_40 := Vq29T.other W40 ne_aT_b20
              have Z40 : n0 ≤ h40.size := Nat.le_trans Z29 (Keep.of_wr W40).1
              have N40 := Fr.snoc X40 N30 g_b20
              refine own_go st40 ?_
              show OwnFin p e below s _ _ _ (T40.setTop (mkF m 453 #[iv wa, iv wb, iv wc, iv wd, iv (Int32.ofNat n), iv (Int32.ofNat s0), iv fl, iv (Int32.ofNat w), iv (Int32.ofNat s0), iv (Int32.ofNat s1), iv (Int32.ofNat s2), rv b1, iv dr, iv (Int32.ofNat rr), rv b5, rv b9, rv b16, iv o19, rv b20, iv (((Int32.ofNat rr) * (4 : Int32)) + o19), iv (1 : Int32), .unset, .unset] []))
              refine own_go (fun t_ k_ => XS.aload X40.here hx rfl (hb hby at_453) rfl rfl k_) ?_
              show OwnFin p e below s _ _ _ (T40.setTop (mkF m 455 #[iv wa, iv wb, iv wc, iv wd, iv (Int32.ofNat n), iv (Int32.ofNat s0), iv fl, iv (Int32.ofNat w), iv (Int32.ofNat s0), iv (Int32.ofNat s1), iv (Int32.ofNat s2), rv b1, iv dr, iv (Int32.ofNat rr), rv b5, rv b9, rv b16, iv o19, rv b20, iv (((Int32.ofNat rr) * (4 : Int32)) + o19), iv (1 : Int32), .unset, .unset] [(.ref b20)]))
              refine own_go (fun t_ k_ => XS.iconst X40.here hx rfl (hb hby at_455) k_) ?_
              show OwnFin p e below s _ _ _ (T40.setTop (mkF m 456 #[iv wa, iv wb, iv wc, iv wd, iv (Int32.ofNat n), iv (Int32.ofNat s0), iv fl, iv (Int32.ofNat w), iv (Int32.ofNat s0), iv (Int32.ofNat s1), iv (Int32.ofNat s2), rv b1, iv dr, iv (Int32.ofNat rr), rv b5, rv b9, rv b16, iv o19, rv b20, iv (((Int32.ofNat rr) * (4 : Int32)) + o19), iv (1 : Int32), .unset, .unset] [(.int (1 : Int32)), (.ref b20)]))
              refine own_go (fun t_ k_ => XS.iload X40.here hx rfl (hb hby at_456) rfl k_) ?_
              show OwnFin p e below s _ _ _ (T40.setTop (mkF m 458 #[iv wa, iv wb, iv wc, iv wd, iv (Int32.ofNat n), iv (Int32.ofNat s0), iv fl, iv (Int32.ofNat w), iv (Int32.ofNat s0), iv (Int32.ofNat s1), iv (Int32.ofNat s2), rv b1, iv dr, iv (Int32.ofNat rr), rv b5, rv b9, rv b16, iv o19, rv b20, iv (((Int32.ofNat rr) * (4 : Int32)) + o19), iv (1 : Int32), .unset, .unset] [(.int o19), (.int (1 : Int32)), (.ref b20)]))
              obtain ⟨T41, h41, X41, e41, W41, A41, st41⟩ := own_iastore X40 hx hZ e40 A40 (i := 1) (by decide) (by decide) (g := (mkF m 458 #[iv wa, iv wb, iv wc, iv wd, iv (Int32.ofNat n), iv (Int32.ofNat s0), iv fl, iv (Int32.ofNat w), iv (Int32.ofNat s0), iv (Int32.ofNat s1), iv (Int32.ofNat s2), rv b1, iv dr, iv (Int32.ofNat rr), rv b5, rv b9, rv b16, iv o19, rv b20, iv (((Int32.ofNat rr) * (4 : Int32)) + o19), iv (1 : Int32), .unset, .unset] [(.int o19), (.int (1 : Int32)), (.ref b20)])) rfl rfl (hb hby at_458)
              have H0_41 := H0_40.other W41 ne_b1_b20
              have H1_41 := H1_40.other W41 ne_b5_b20
              have H2_41 := H2_40.other W41 ne_b9_b20
              have Eq29_41 := Eq29_40.wr W41
              have Vq18K_41 := Vq18K_40.other W41 ne_aK_b20
              have Fq29_keys_41 := Fq29_keys_40.other W41 (Or.inl ne_b16_b20)
              have Fq29_retaken_41 := Fq29_retaken_40.other W41 (Or.inl ne_b16_b20)
              have Fq29_offeredFrom_41 := Fq29_offeredFrom_40.other W41 (Or.inl ne_b16_b20)
              have Fq29_sorted_41 := Fq29_sorted_40.other W41 (Or.inl ne_b16_b20)
              have Fq29_nextKey_41 := Fq29_nextKey_40.other W41 (Or.inl ne_b16_b20)
              have Fq29_retakenAt_41 := Fq29_retakenAt_40.other W41 (Or.inl ne_b16_b20)
              have Fq29_retakenEnd_41 := Fq29_retakenEnd_40.other W41 (Or.inl ne_b16_b20)
              have Vq29T_41 := Vq29T_40.other W41 ne_aT_b20
              have Z41 : n0 ≤ h41.size := Nat.le_trans Z40 (Keep.of_wr W41).1
              have N41 := Fr.snoc X41 N40 g_b20
              refine own_go st41 ?_
              show OwnFin p e below s _ _ _ (T41.setTop (mkF m 459 #[iv wa, iv wb, iv wc, iv wd, iv (Int32.ofNat n), iv (Int32.ofNat s0), iv fl, iv (Int32.ofNat w), iv (Int32.ofNat s0), iv (Int32.ofNat s1), iv (Int32.ofNat s2), rv b1, iv dr, iv (Int32.ofNat rr), rv b5, rv b9, rv b16, iv o19, rv b20, iv (((Int32.ofNat rr) * (4 : Int32)) + o19), iv (1 : Int32), .unset, .unset] []))
              refine own_go (fun t_ k_ => XS.aload X41.here hx rfl (hb hby at_459) rfl rfl k_) ?_
              show OwnFin p e below s _ _ _ (T41.setTop (mkF m 461 #[iv wa, iv wb, iv wc, iv wd, iv (Int32.ofNat n), iv (Int32.ofNat s0), iv fl, iv (Int32.ofNat w), iv (Int32.ofNat s0), iv (Int32.ofNat s1), iv (Int32.ofNat s2), rv b1, iv dr, iv (Int32.ofNat rr), rv b5, rv b9, rv b16, iv o19, rv b20, iv (((Int32.ofNat rr) * (4 : Int32)) + o19), iv (1 : Int32), .unset, .unset] [(.ref b20)]))
              refine own_go (fun t_ k_ => XS.iconst X41.here hx rfl (hb hby at_461) k_) ?_
              show OwnFin p e below s _ _ _ (T41.setTop (mkF m 462 #[iv wa, iv wb, iv wc, iv wd, iv (Int32.ofNat n), iv (Int32.ofNat s0), iv fl, iv (Int32.ofNat w), iv (Int32.ofNat s0), iv (Int32.ofNat s1), iv (Int32.ofNat s2), rv b1, iv dr, iv (Int32.ofNat rr), rv b5, rv b9, rv b16, iv o19, rv b20, iv (((Int32.ofNat rr) * (4 : Int32)) + o19), iv (1 : Int32), .unset, .unset] [(.int (2 : Int32)), (.ref b20)]))
              refine own_go (fun t_ k_ => XS.aload X41.here hx rfl (hb hby at_462) rfl rfl k_) ?_
              show OwnFin p e below s _ _ _ (T41.setTop (mkF m 464 #[iv wa, iv wb, iv wc, iv wd, iv (Int32.ofNat n), iv (Int32.ofNat s0), iv fl, iv (Int32.ofNat w), iv (Int32.ofNat s0), iv (Int32.ofNat s1), iv (Int32.ofNat s2), rv b1, iv dr, iv (Int32.ofNat rr), rv b5, rv b9, rv b16, iv o19, rv b20, iv (((Int32.ofNat rr) * (4 : Int32)) + o19), iv (1 : Int32), .unset, .unset] [(.ref b9), (.int (2 : Int32)), (.ref b20)]))
              refine own_go (fun t_ k_ => XS.iconst X41.here hx rfl (hb hby at_464) k_) ?_
              show OwnFin p e below s _ _ _ (T41.setTop (mkF m 465 #[iv wa, iv wb, iv wc, iv wd, iv (Int32.ofNat n), iv (Int32.ofNat s0), iv fl, iv (Int32.ofNat w), iv (Int32.ofNat s0), iv (Int32.ofNat s1), iv (Int32.ofNat s2), rv b1, iv dr, iv (Int32.ofNat rr), rv b5, rv b9, rv b16, iv o19, rv b20, iv (((Int32.ofNat rr) * (4 : Int32)) + o19), iv (1 : Int32), .unset, .unset] [(.int (2 : Int32)), (.ref b9), (.int (2 : Int32)), (.ref b20)]))
              refine own_go (own_iaload X41 hx hZ e41 H2_41 (i := 2) (by decide) (by decide) (g := (mkF m 465 #[iv wa, iv wb, iv wc, iv wd, iv (Int32.ofNat n), iv (Int32.ofNat s0), iv fl, iv (Int32.ofNat w), iv (Int32.ofNat s0), iv (Int32.ofNat s1), iv (Int32.ofNat s2), rv b1, iv dr, iv (Int32.ofNat rr), rv b5, rv b9, rv b16, iv o19, rv b20, iv (((Int32.ofNat rr) * (4 : Int32)) + o19), iv (1 : Int32), .unset, .unset] [(.int (2 : Int32)), (.ref b9), (.int (2 : Int32)), (.ref b20)])) rfl rfl (hb hby at_465)) ?_
              show OwnFin p e below s _ _ _ (T41.setTop (mkF m 466 #[iv wa, iv wb, iv wc, iv wd, iv (Int32.ofNat n), iv (Int32.ofNat s0), iv fl, iv (Int32.ofNat w), iv (Int32.ofNat s0), iv (Int32.ofNat s1), iv (Int32.ofNat s2), rv b1, iv dr, iv (Int32.ofNat rr), rv b5, rv b9, rv b16, iv o19, rv b20, iv (((Int32.ofNat rr) * (4 : Int32)) + o19), iv (1 : Int32), .unset, .unset] [(.int (own_e n s0 s1 s2 q0 q1 q2 2)), (.int (2 : Int32)), (.ref b20)]))
              obtain ⟨T42, h42, X42, e42, W42, A42, st42⟩ := own_iastore X41 hx hZ e41 A41 (i := 2) (by decide) (by decide) (g := (mkF m 466 #[iv wa, iv wb, iv wc, iv wd, iv (Int32.ofNat n), iv (Int32.ofNat s0), iv fl, iv (Int32.ofNat w), iv (Int32.ofNat s0), iv (Int32.ofNat s1), iv (Int32.ofNat s2), rv b1, iv dr, iv (Int32.ofNat rr), rv b5, rv b9, rv b16, iv o19, rv b20, iv (((Int32.ofNat rr) * (4 : Int32)) + o19), iv (1 : Int32), .unset, .unset] [(.int (own_e n s0 s1 s2 q0 q1 q2 2)), (.int (2 : Int32)), (.ref b20)])) rfl rfl (hb hby at_466)
              have H0_42 := H0_41.other W42 ne_b1_b20
              have H1_42 := H1_41.other W42 ne_b5_b20
              have H2_42 := H2_41.other W42 ne_b9_b20
              have Eq29_42 := Eq29_41.wr W42
              have Vq18K_42 := Vq18K_41.other W42 ne_aK_b20
              have Fq29_keys_42 := Fq29_keys_41.other W42 (Or.inl ne_b16_b20)
              have Fq29_retaken_42 := Fq29_retaken_41.other W42 (Or.inl ne_b16_b20)
              have Fq29_offeredFrom_42 := Fq29_offeredFrom_41.other W42 (Or.inl ne_b16_b20)
              have Fq29_sorted_42 := Fq29_sorted_41.other W42 (Or.inl ne_b16_b20)
              have Fq29_nextKey_42 := Fq29_nextKey_41.other W42 (Or.inl ne_b16_b20)
              have Fq29_retakenAt_42 := Fq29_retakenAt_41.other W42 (Or.inl ne_b16_b20)
              have Fq29_retakenEnd_42 := Fq29_retakenEnd_41.other W42 (Or.inl ne_b16_b20)
              have Vq29T_42 := Vq29T_41.other W42 ne_aT_b20
              have Z42 : n0 ≤ h42.size := Nat.le_trans Z41 (Keep.of_wr W42).1
              have N42 := Fr.snoc X42 N41 g_b20
              refine own_go st42 ?_
              show OwnFin p e below s _ _ _ (T42.setTop (mkF m 467 #[iv wa, iv wb, iv wc, iv wd, iv (Int32.ofNat n), iv (Int32.ofNat s0), iv fl, iv (Int32.ofNat w), iv (Int32.ofNat s0), iv (Int32.ofNat s1), iv (Int32.ofNat s2), rv b1, iv dr, iv (Int32.ofNat rr), rv b5, rv b9, rv b16, iv o19, rv b20, iv (((Int32.ofNat rr) * (4 : Int32)) + o19), iv (1 : Int32), .unset, .unset] []))
              refine own_go (fun t_ k_ => XS.goto X42.here hx rfl (pc0 := 467) (pc' := 492) rfl (hb hby at_467) (by decide) (by decide) k_) ?_
              show OwnFin p e below s _ _ _ (T42.setTop (mkF m 492 #[iv wa, iv wb, iv wc, iv wd, iv (Int32.ofNat n), iv (Int32.ofNat s0), iv fl, iv (Int32.ofNat w), iv (Int32.ofNat s0), iv (Int32.ofNat s1), iv (Int32.ofNat s2), rv b1, iv dr, iv (Int32.ofNat rr), rv b5, rv b9, rv b16, iv o19, rv b20, iv (((Int32.ofNat rr) * (4 : Int32)) + o19), iv (1 : Int32), .unset, .unset] []))
              refine own_go (fun t_ k_ => XS.aload X42.here hx rfl (hb hby at_492) rfl rfl k_) ?_
              show OwnFin p e below s _ _ _ (T42.setTop (mkF m 494 #[iv wa, iv wb, iv wc, iv wd, iv (Int32.ofNat n), iv (Int32.ofNat s0), iv fl, iv (Int32.ofNat w), iv (Int32.ofNat s0), iv (Int32.ofNat s1), iv (Int32.ofNat s2), rv b1, iv dr, iv (Int32.ofNat rr), rv b5, rv b9, rv b16, iv o19, rv b20, iv (((Int32.ofNat rr) * (4 : Int32)) + o19), iv (1 : Int32), .unset, .unset] [(.ref b20)]))
              refine own_go (fun t_ k_ => XS.iconst X42.here hx rfl (hb hby at_494) k_) ?_
              show OwnFin p e below s _ _ _ (T42.setTop (mkF m 495 #[iv wa, iv wb, iv wc, iv wd, iv (Int32.ofNat n), iv (Int32.ofNat s0), iv fl, iv (Int32.ofNat w), iv (Int32.ofNat s0), iv (Int32.ofNat s1), iv (Int32.ofNat s2), rv b1, iv dr, iv (Int32.ofNat rr), rv b5, rv b9, rv b16, iv o19, rv b20, iv (((Int32.ofNat rr) * (4 : Int32)) + o19), iv (1 : Int32), .unset, .unset] [(.int (3 : Int32)), (.ref b20)]))
              refine own_go (fun t_ k_ => XS.iconst X42.here hx rfl (hb hby at_495) k_) ?_
              show OwnFin p e below s _ _ _ (T42.setTop (mkF m 496 #[iv wa, iv wb, iv wc, iv wd, iv (Int32.ofNat n), iv (Int32.ofNat s0), iv fl, iv (Int32.ofNat w), iv (Int32.ofNat s0), iv (Int32.ofNat s1), iv (Int32.ofNat s2), rv b1, iv dr, iv (Int32.ofNat rr), rv b5, rv b9, rv b16, iv o19, rv b20, iv (((Int32.ofNat rr) * (4 : Int32)) + o19), iv (1 : Int32), .unset, .unset] [(.int (-1 : Int32)), (.int (3 : Int32)), (.ref b20)]))
              obtain ⟨T43, h43, X43, e43, W43, A43, st43⟩ := own_iastore X42 hx hZ e42 A42 (i := 3) (by decide) (by decide) (g := (mkF m 496 #[iv wa, iv wb, iv wc, iv wd, iv (Int32.ofNat n), iv (Int32.ofNat s0), iv fl, iv (Int32.ofNat w), iv (Int32.ofNat s0), iv (Int32.ofNat s1), iv (Int32.ofNat s2), rv b1, iv dr, iv (Int32.ofNat rr), rv b5, rv b9, rv b16, iv o19, rv b20, iv (((Int32.ofNat rr) * (4 : Int32)) + o19), iv (1 : Int32), .unset, .unset] [(.int (-1 : Int32)), (.int (3 : Int32)), (.ref b20)])) rfl rfl (hb hby at_496)
              have H0_43 := H0_42.other W43 ne_b1_b20
              have H1_43 := H1_42.other W43 ne_b5_b20
              have H2_43 := H2_42.other W43 ne_b9_b20
              have Eq29_43 := Eq29_42.wr W43
              have Vq18K_43 := Vq18K_42.other W43 ne_aK_b20
              have Fq29_keys_43 := Fq29_keys_42.other W43 (Or.inl ne_b16_b20)
              have Fq29_retaken_43 := Fq29_retaken_42.other W43 (Or.inl ne_b16_b20)
              have Fq29_offeredFrom_43 := Fq29_offeredFrom_42.other W43 (Or.inl ne_b16_b20)
              have Fq29_sorted_43 := Fq29_sorted_42.other W43 (Or.inl ne_b16_b20)
              have Fq29_nextKey_43 := Fq29_nextKey_42.other W43 (Or.inl ne_b16_b20)
              have Fq29_retakenAt_43 := Fq29_retakenAt_42.other W43 (Or.inl ne_b16_b20)
              have Fq29_retakenEnd_43 := Fq29_retakenEnd_42.other W43 (Or.inl ne_b16_b20)
              have Vq29T_43 := Vq29T_42.other W43 ne_aT_b20
              have Z43 : n0 ≤ h43.size := Nat.le_trans Z42 (Keep.of_wr W43).1
              have N43 := Fr.snoc X43 N42 g_b20
              refine own_go st43 ?_
              show OwnFin p e below s _ _ _ (T43.setTop (mkF m 497 #[iv wa, iv wb, iv wc, iv wd, iv (Int32.ofNat n), iv (Int32.ofNat s0), iv fl, iv (Int32.ofNat w), iv (Int32.ofNat s0), iv (Int32.ofNat s1), iv (Int32.ofNat s2), rv b1, iv dr, iv (Int32.ofNat rr), rv b5, rv b9, rv b16, iv o19, rv b20, iv (((Int32.ofNat rr) * (4 : Int32)) + o19), iv (1 : Int32), .unset, .unset] []))
              have hps : own_ps n (own_rn q0 q1 q2) (own_e n s0 s1 s2 q0 q1 q2 1) (own_e n s0 s1 s2 q0 q1 q2 2) (Int32.ofNat rr * 4 + o19) = 1 := by unfold own_ps; rw [if_pos ⟨h1n, hc380⟩, if_neg (fun q => hc389 (by rw [show (2 : Int32) = Int32.ofNat 2 from rfl, own_ltN (by decide) (by omega)]; exact q.1))]
              have hck := hR.2.2.2 rr hrr
              rw [hps] at hck
              have V_m : OwnArr Z h43 b20 .int 4 (fun k => .int (own_mp 1 o19 (own_e n s0 s1 s2 q0 q1 q2 1) (own_e n s0 s1 s2 q0 q1 q2 2) k)) := A43.congr (own_4c rfl rfl rfl rfl)
              have hck2 := hck
              have Frb : Fld Z h43 b16 "com/example/nearside/nearside/slotted/delay/FairBack" "retakenAt" "I" (.int (Int32.ofNat ra19)) := by rw [hra0]; exact Fq29_retakenAt_43
              exact tl2 _ (own_key (Int32.ofNat rr) o19) 1 _ _ _ T43 _ _ X43 e43 N43 Z43 H0_43 H1_43 H2_43 Eq29_43 Vq18K_43 Vq29T_43 Fq29_keys_43 Fq29_retaken_43 Fq29_offeredFrom_43 Fq29_sorted_43 Fq29_nextKey_43 Frb Fq29_retakenEnd_43 V_m (by decide) (fun _ => rfl) hck2 (One.val rfl) (One.val rfl)
          · refine own_go (fun t_ k_ => XS.icmpYes X30.here hx rfl (pc0 := 380) (pc' := 386) rfl (hb hby at_380) rfl (flt hc380).2.1 (by decide) (by decide) k_) ?_
            show OwnFin p e below s _ _ _ (T30.setTop (mkF m 386 #[iv wa, iv wb, iv wc, iv wd, iv (Int32.ofNat n), iv (Int32.ofNat s0), iv fl, iv (Int32.ofNat w), iv (Int32.ofNat s0), iv (Int32.ofNat s1), iv (Int32.ofNat s2), rv b1, iv dr, iv (Int32.ofNat rr), rv b5, rv b9, rv b16, iv o19, rv b20, iv (((Int32.ofNat rr) * (4 : Int32)) + o19), iv (0 : Int32), .unset, .unset] []))
            refine own_go (fun t_ k_ => XS.iload X30.here hx rfl (hb hby at_386) rfl k_) ?_
            show OwnFin p e below s _ _ _ (T30.setTop (mkF m 388 #[iv wa, iv wb, iv wc, iv wd, iv (Int32.ofNat n), iv (Int32.ofNat s0), iv fl, iv (Int32.ofNat w), iv (Int32.ofNat s0), iv (Int32.ofNat s1), iv (Int32.ofNat s2), rv b1, iv dr, iv (Int32.ofNat rr), rv b5, rv b9, rv b16, iv o19, rv b20, iv (((Int32.ofNat rr) * (4 : Int32)) + o19), iv (0 : Int32), .unset, .unset] [(.int (Int32.ofNat n))]))
            refine own_go (fun t_ k_ => XS.iconst X30.here hx rfl (hb hby at_388) k_) ?_
            show OwnFin p e below s _ _ _ (T30.setTop (mkF m 389 #[iv wa, iv wb, iv wc, iv wd, iv (Int32.ofNat n), iv (Int32.ofNat s0), iv fl, iv (Int32.ofNat w), iv (Int32.ofNat s0), iv (Int32.ofNat s1), iv (Int32.ofNat s2), rv b1, iv dr, iv (Int32.ofNat rr), rv b5, rv b9, rv b16, iv o19, rv b20, iv (((Int32.ofNat rr) * (4 : Int32)) + o19), iv (0 : Int32), .unset, .unset] [(.int (2 : Int32)), (.int (Int32.ofNat n))]))
            by_cases hc389 : (2 : Int32) < (Int32.ofNat n)
            · refine own_go (fun t_ k_ => XS.icmpNo X30.here hx rfl (hb hby at_389) rfl (tlt hc389).2.2.2 k_) ?_
              show OwnFin p e below s _ _ _ (T30.setTop (mkF m 392 #[iv wa, iv wb, iv wc, iv wd, iv (Int32.ofNat n), iv (Int32.ofNat s0), iv fl, iv (Int32.ofNat w), iv (Int32.ofNat s0), iv (Int32.ofNat s1), iv (Int32.ofNat s2), rv b1, iv dr, iv (Int32.ofNat rr), rv b5, rv b9, rv b16, iv o19, rv b20, iv (((Int32.ofNat rr) * (4 : Int32)) + o19), iv (0 : Int32), .unset, .unset] []))
              have h2n : 2 < n := by have q := hc389; rw [show (2 : Int32) = Int32.ofNat 2 from rfl, own_ltN (by decide) (by omega)] at q; exact q
              refine own_go (fun t_ k_ => XS.aload X30.here hx rfl (hb hby at_392) rfl rfl k_) ?_
              show OwnFin p e below s _ _ _ (T30.setTop (mkF m 394 #[iv wa, iv wb, iv wc, iv wd, iv (Int32.ofNat n), iv (Int32.ofNat s0), iv fl, iv (Int32.ofNat w), iv (Int32.ofNat s0), iv (Int32.ofNat s1), iv (Int32.ofNat s2), rv b1, iv dr, iv (Int32.ofNat rr), rv b5, rv b9, rv b16, iv o19, rv b20, iv (((Int32.ofNat rr) * (4 : Int32)) + o19), iv (0 : Int32), .unset, .unset] [(.ref b1)]))
              refine own_go (fun t_ k_ => XS.aload X30.here hx rfl (hb hby at_394) rfl rfl k_) ?_
              show OwnFin p e below s _ _ _ (T30.setTop (mkF m 396 #[iv wa, iv wb, iv wc, iv wd, iv (Int32.ofNat n), iv (Int32.ofNat s0), iv fl, iv (Int32.ofNat w), iv (Int32.ofNat s0), iv (Int32.ofNat s1), iv (Int32.ofNat s2), rv b1, iv dr, iv (Int32.ofNat rr), rv b5, rv b9, rv b16, iv o19, rv b20, iv (((Int32.ofNat rr) * (4 : Int32)) + o19), iv (0 : Int32), .unset, .unset] [(.ref b9), (.ref b1)]))
              refine own_go (fun t_ k_ => XS.iconst X30.here hx rfl (hb hby at_396) k_) ?_
              show OwnFin p e below s _ _ _ (T30.setTop (mkF m 397 #[iv wa, iv wb, iv wc, iv wd, iv (Int32.ofNat n), iv (Int32.ofNat s0), iv fl, iv (Int32.ofNat w), iv (Int32.ofNat s0), iv (Int32.ofNat s1), iv (Int32.ofNat s2), rv b1, iv dr, iv (Int32.ofNat rr), rv b5, rv b9, rv b16, iv o19, rv b20, iv (((Int32.ofNat rr) * (4 : Int32)) + o19), iv (0 : Int32), .unset, .unset] [(.int (2 : Int32)), (.ref b9), (.ref b1)]))
              refine own_go (own_iaload X30 hx hZ e30 H2_29 (i := 2) (by decide) (by decide) (g := (mkF m 397 #[iv wa, iv wb, iv wc, iv wd, iv (Int32.ofNat n), iv (Int32.ofNat s0), iv fl, iv (Int32.ofNat w), iv (Int32.ofNat s0), iv (Int32.ofNat s1), iv (Int32.ofNat s2), rv b1, iv dr, iv (Int32.ofNat rr), rv b5, rv b9, rv b16, iv o19, rv b20, iv (((Int32.ofNat rr) * (4 : Int32)) + o19), iv (0 : Int32), .unset, .unset] [(.int (2 : Int32)), (.ref b9), (.ref b1)])) rfl rfl (hb hby at_397)) ?_
              show OwnFin p e below s _ _ _ (T30.setTop (mkF m 398 #[iv wa, iv wb, iv wc, iv wd, iv (Int32.ofNat n), iv (Int32.ofNat s0), iv fl, iv (Int32.ofNat w), iv (Int32.ofNat s0), iv (Int32.ofNat s1), iv (Int32.ofNat s2), rv b1, iv dr, iv (Int32.ofNat rr), rv b5, rv b9, rv b16, iv o19, rv b20, iv (((Int32.ofNat rr) * (4 : Int32)) + o19), iv (0 : Int32), .unset, .unset] [(.int (own_e n s0 s1 s2 q0 q1 q2 2)), (.ref b1)]))
              obtain ⟨v44, T44, L44, X44, hQ44, st44⟩ := own_callS X30 hx hZ (y := (⟨"com/example/nearside/nearside/slotted/delay/FairBackNextPinLaw", "key", "([II)I"⟩ : MethodName)) hown (hw _ (List.mem_of_getElem? (i := 55) rfl)) (hw _ (List.mem_of_getElem? (i := 56) rfl)) (hw _ (List.mem_of_getElem? (i := 4) rfl)) (hw _ (List.mem_of_getElem? (i := 57) rfl)) (by decide) (W := 0) (rm8 l Z a0 hw [] b1 (own_e n s0 s1 s2 q0 q1 q2 2) (own_e n s0 s1 s2 q0 q1 q2 2).toNatClampNeg _ T29.heap n0 Z29 (own_isN2 (hR.2.2.1 h2n)).1 (own_isN2 (hR.2.2.1 h2n)).2 H0_29) (by decide) (by decide) (g := (mkF m 398 #[iv wa, iv wb, iv wc, iv wd, iv (Int32.ofNat n), iv (Int32.ofNat s0), iv fl, iv (Int32.ofNat w), iv (Int32.ofNat s0), iv (Int32.ofNat s1), iv (Int32.ofNat s2), rv b1, iv dr, iv (Int32.ofNat rr), rv b5, rv b9, rv b16, iv o19, rv b20, iv (((Int32.ofNat rr) * (4 : Int32)) + o19), iv (0 : Int32), .unset, .unset] [(.int (own_e n s0 s1 s2 q0 q1 q2 2)), (.ref b1)])) rfl (by rw [hml]; rfl) (argsL := [(.ref b1), (.int (own_e n s0 s1 s2 q0 q1 q2 2))]) (rest := []) (lenOf pd_0_7 rfl) rfl (by show 2 * 0 + _ ≤ _; exact Nat.le_of_eq rfl) (hb hby at_398) e30 rfl (by decide) (by decide)
              obtain ⟨rfl, Nq44, e44⟩ := hQ44
              have N44 := Fr.app N30 Nq44
              refine own_go st44 ?_
              show OwnFin p e below s _ _ _ (T44.setTop (mkF m 401 #[iv wa, iv wb, iv wc, iv wd, iv (Int32.ofNat n), iv (Int32.ofNat s0), iv fl, iv (Int32.ofNat w), iv (Int32.ofNat s0), iv (Int32.ofNat s1), iv (Int32.ofNat s2), rv b1, iv dr, iv (Int32.ofNat rr), rv b5, rv b9, rv b16, iv o19, rv b20, iv (((Int32.ofNat rr) * (4 : Int32)) + o19), iv (0 : Int32), .unset, .unset] [(.int ((own_rn q0 q1 q2 (own_e n s0 s1 s2 q0 q1 q2 2).toNatClampNeg) * (4 : Int32) + (own_e n s0 s1 s2 q0 q1 q2 2)))]))
              refine own_go (fun t_ k_ => XS.iload X44.here hx rfl (hb hby at_401) rfl k_) ?_
              show OwnFin p e below s _ _ _ (T44.setTop (mkF m 403 #[iv wa, iv wb, iv wc, iv wd, iv (Int32.ofNat n), iv (Int32.ofNat s0), iv fl, iv (Int32.ofNat w), iv (Int32.ofNat s0), iv (Int32.ofNat s1), iv (Int32.ofNat s2), rv b1, iv dr, iv (Int32.ofNat rr), rv b5, rv b9, rv b16, iv o19, rv b20, iv (((Int32.ofNat rr) * (4 : Int32)) + o19), iv (0 : Int32), .unset, .unset] [(.int (((Int32.ofNat rr) * (4 : Int32)) + o19)), (.int ((own_rn q0 q1 q2 (own_e n s0 s1 s2 q0 q1 q2 2).toNatClampNeg) * (4 : Int32) + (own_e n s0 s1 s2 q0 q1 q2 2)))]))
              by_cases hc403 : ((own_rn q0 q1 q2 (own_e n s0 s1 s2 q0 q1 q2 2).toNatClampNeg) * (4 : Int32) + (own_e n s0 s1 s2 q0 q1 q2 2)) < (((Int32.ofNat rr) * (4 : Int32)) + o19)
              · refine own_go (fun t_ k_ => XS.icmpNo X44.here hx rfl (hb hby at_403) rfl (tlt hc403).2.1 k_) ?_
                show OwnFin p e below s _ _ _ (T44.setTop (mkF m 406 #[iv wa, iv wb, iv wc, iv wd, iv (Int32.ofNat n), iv (Int32.ofNat s0), iv fl, iv (Int32.ofNat w), iv (Int32.ofNat s0), iv (Int32.ofNat s1), iv (Int32.ofNat s2), rv b1, iv dr, iv (Int32.ofNat rr), rv b5, rv b9, rv b16, iv o19, rv b20, iv (((Int32.ofNat rr) * (4 : Int32)) + o19), iv (0 : Int32), .unset, .unset] []))
                refine own_go (fun t_ k_ => XS.iinc X44.here hx rfl (hb hby at_406) rfl (l' := #[iv wa, iv wb, iv wc, iv wd, iv (Int32.ofNat n), iv (Int32.ofNat s0), iv fl, iv (Int32.ofNat w), iv (Int32.ofNat s0), iv (Int32.ofNat s1), iv (Int32.ofNat s2), rv b1, iv dr, iv (Int32.ofNat rr), rv b5, rv b9, rv b16, iv o19, rv b20, iv (((Int32.ofNat rr) * (4 : Int32)) + o19), iv (1 : Int32), .unset, .unset]) rfl k_) ?_
                show OwnFin p e below s _ _ _ (T44.setTop (mkF m 409 #[iv wa, iv wb, iv wc, iv wd, iv (Int32.ofNat n), iv (Int32.ofNat s0), iv fl, iv (Int32.ofNat w), iv (Int32.ofNat s0), iv (Int32.ofNat s1), iv (Int32.ofNat s2), rv b1, iv dr, iv (Int32.ofNat rr), rv b5, rv b9, rv b16, iv o19, rv b20, iv (((Int32.ofNat rr) * (4 : Int32)) + o19), iv (1 : Int32), .unset, .unset] []))
                refine own_go (fun t_ k_ => XS.iload X44.here hx rfl (hb hby at_409) rfl k_) ?_
                show OwnFin p e below s _ _ _ (T44.setTop (mkF m 411 #[iv wa, iv wb, iv wc, iv wd, iv (Int32.ofNat n), iv (Int32.ofNat s0), iv fl, iv (Int32.ofNat w), iv (Int32.ofNat s0), iv (Int32.ofNat s1), iv (Int32.ofNat s2), rv b1, iv dr, iv (Int32.ofNat rr), rv b5, rv b9, rv b16, iv o19, rv b20, iv (((Int32.ofNat rr) * (4 : Int32)) + o19), iv (1 : Int32), .unset, .unset] [(.int (1 : Int32))]))
                refine own_go (fun t_ k_ => XS.ifYes X44.here hx rfl (pc0 := 411) (pc' := 439) rfl (hb hby at_411) rfl ((if0 _ _).trans (feq (by decide)).2) (by decide) (by decide) k_) ?_
                show OwnFin p e below s _ _ _ (T44.setTop (mkF m 439 #[iv wa, iv wb, iv wc, iv wd, iv (Int32.ofNat n), iv (Int32.ofNat s0), iv fl, iv (Int32.ofNat w), iv (Int32.ofNat s0), iv (Int32.ofNat s1), iv (Int32.ofNat s2), rv b1, iv dr, iv (Int32.ofNat rr), rv b5, rv b9, rv b16, iv o19, rv b20, iv (((Int32.ofNat rr) * (4 : Int32)) + o19), iv (1 : Int32), .unset, .unset] []))
                refine own_go (fun t_ k_ => XS.iload X44.here hx rfl (hb hby at_439) rfl k_) ?_
                show OwnFin p e below s _ _ _ (T44.setTop (mkF m 441 #[iv wa, iv wb, iv wc, iv wd, iv (Int32.ofNat n), iv (Int32.ofNat s0), iv fl, iv (Int32.ofNat w), iv (Int32.ofNat s0), iv (Int32.ofNat s1), iv (Int32.ofNat s2), rv b1, iv dr, iv (Int32.ofNat rr), rv b5, rv b9, rv b16, iv o19, rv b20, iv (((Int32.ofNat rr) * (4 : Int32)) + o19), iv (1 : Int32), .unset, .unset] [(.int (1 : Int32))]))
                refine own_go (fun t_ k_ => XS.iconst X44.here hx rfl (hb hby at_441) k_) ?_
                show OwnFin p e below s _ _ _ (T44.setTop (mkF m 442 #[iv wa, iv wb, iv wc, iv wd, iv (Int32.ofNat n), iv (Int32.ofNat s0), iv fl, iv (Int32.ofNat w), iv (Int32.ofNat s0), iv (Int32.ofNat s1), iv (Int32.ofNat s2), rv b1, iv dr, iv (Int32.ofNat rr), rv b5, rv b9, rv b16, iv o19, rv b20, iv (((Int32.ofNat rr) * (4 : Int32)) + o19), iv (1 : Int32), .unset, .unset] [(.int (1 : Int32)), (.int (1 : Int32))]))
                refine own_go (fun t_ k_ => XS.icmpNo X44.here hx rfl (hb hby at_442) rfl (teq (by decide)).2 k_) ?_
                show OwnFin p e below s _ _ _ (T44.setTop (mkF m 445 #[iv wa, iv wb, iv wc, iv wd, iv (Int32.ofNat n), iv (Int32.ofNat s0), iv fl, iv (Int32.ofNat w), iv (Int32.ofNat s0), iv (Int32.ofNat s1), iv (Int32.ofNat s2), rv b1, iv dr, iv (Int32.ofNat rr), rv b5, rv b9, rv b16, iv o19, rv b20, iv (((Int32.ofNat rr) * (4 : Int32)) + o19), iv (1 : Int32), .unset, .unset] []))
                refine own_go (fun t_ k_ => XS.aload X44.here hx rfl (hb hby at_445) rfl rfl k_) ?_
                show OwnFin p e below s _ _ _ (T44.setTop (mkF m 447 #[iv wa, iv wb, iv wc, iv wd, iv (Int32.ofNat n), iv (Int32.ofNat s0), iv fl, iv (Int32.ofNat w), iv (Int32.ofNat s0), iv (Int32.ofNat s1), iv (Int32.ofNat s2), rv b1, iv dr, iv (Int32.ofNat rr), rv b5, rv b9, rv b16, iv o19, rv b20, iv (((Int32.ofNat rr) * (4 : Int32)) + o19), iv (1 : Int32), .unset, .unset] [(.ref b20)]))
                refine own_go (fun t_ k_ => XS.iconst X44.here hx rfl (hb hby at_447) k_) ?_
                show OwnFin p e below s _ _ _ (T44.setTop (mkF m 448 #[iv wa, iv wb, iv wc, iv wd, iv (Int32.ofNat n), iv (Int32.ofNat s0), iv fl, iv (Int32.ofNat w), iv (Int32.ofNat s0), iv (Int32.ofNat s1), iv (Int32.ofNat s2), rv b1, iv dr, iv (Int32.ofNat rr), rv b5, rv b9, rv b16, iv o19, rv b20, iv (((Int32.ofNat rr) * (4 : Int32)) + o19), iv (1 : Int32), .unset, .unset] [(.int (0 : Int32)), (.ref b20)]))
                refine own_go (fun t_ k_ => XS.aload X44.here hx rfl (hb hby at_448) rfl rfl k_) ?_
                show OwnFin p e below s _ _ _ (T44.setTop (mkF m 450 #[iv wa, iv wb, iv wc, iv wd, iv (Int32.ofNat n), iv (Int32.ofNat s0), iv fl, iv (Int32.ofNat w), iv (Int32.ofNat s0), iv (Int32.ofNat s1), iv (Int32.ofNat s2), rv b1, iv dr, iv (Int32.ofNat rr), rv b5, rv b9, rv b16, iv o19, rv b20, iv (((Int32.ofNat rr) * (4 : Int32)) + o19), iv (1 : Int32), .unset, .unset] [(.ref b9), (.int (0 : Int32)), (.ref b20)]))
                refine own_go (fun t_ k_ => XS.iconst X44.here hx rfl (hb hby at_450) k_) ?_
                show OwnFin p e below s _ _ _ (T44.setTop (mkF m 451 #[iv wa, iv wb, iv wc, iv wd, iv (Int32.ofNat n), iv (Int32.ofNat s0), iv fl, iv (Int32.ofNat w), iv (Int32.ofNat s0), iv (Int32.ofNat s1), iv (Int32.ofNat s2), rv b1, iv dr, iv (Int32.ofNat rr), rv b5, rv b9, rv b16, iv o19, rv b20, iv (((Int32.ofNat rr) * (4 : Int32)) + o19), iv (1 : Int32), .unset, .unset] [(.int (1 : Int32)), (.ref b9), (.int (0 : Int32)), (.ref b20)]))
                refine own_go (own_iaload X44 hx hZ e44 H2_29 (i := 1) (by decide) (by decide) (g := (mkF m 451 #[iv wa, iv wb, iv wc, iv wd, iv (Int32.ofNat n), iv (Int32.ofNat s0), iv fl, iv (Int32.ofNat w), iv (Int32.ofNat s0), iv (Int32.ofNat s1), iv (Int32.ofNat s2), rv b1, iv dr, iv (Int32.ofNat rr), rv b5, rv b9, rv b16, iv o19, rv b20, iv (((Int32.ofNat rr) * (4 : Int32)) + o19), iv (1 : Int32), .unset, .unset] [(.int (1 : Int32)), (.ref b9), (.int (0 : Int32)), (.ref b20)])) rfl rfl (hb hby at_451)) ?_
                show OwnFin p e below s _ _ _ (T44.setTop (mkF m 452 #[iv wa, iv wb, iv wc, iv wd, iv (Int32.ofNat n), iv (Int32.ofNat s0), iv fl, iv (Int32.ofNat w), iv (Int32.ofNat s0), iv (Int32.ofNat s1), iv (Int32.ofNat s2), rv b1, iv dr, iv (Int32.ofNat rr), rv b5, rv b9, rv b16, iv o19, rv b20, iv (((Int32.ofNat rr) * (4 : Int32)) + o19), iv (1 : Int32), .unset, .unset] [(.int (own_e n s0 s1 s2 q0 q1 q2 1)), (.int (0 : Int32)), (.ref b20)]))
                obtain ⟨T45, h45, X45, e45, W45, A45, st45⟩ := own_iastore X44 hx hZ e44 V_b20_29 (i := 0) (by decide) (by decide) (g := (mkF m 452 #[iv wa, iv wb, iv wc, iv wd, iv (Int32.ofNat n), iv (Int32.ofNat s0), iv fl, iv (Int32.ofNat w), iv (Int32.ofNat s0), iv (Int32.ofNat s1), iv (Int32.ofNat s2), rv b1, iv dr, iv (Int32.ofNat rr), rv b5, rv b9, rv b16, iv o19, rv b20, iv (((Int32.ofNat rr) * (4 : Int32)) + o19), iv (1 : Int32), .unset, .unset] [(.int (own_e n s0 s1 s2 q0 q1 q2 1)), (.int (0 : Int32)), (.ref b20)])) rfl rfl (hb hby at_452)
                have H0_45 := H0_29.other W45 ne_b1_b20
                have H1_45 := H1_29.other W45 ne_b5_b20
                have H2_45 := H2_29.other W45 ne_b9_b20
                have Eq29_45 := Eq29.wr W45
                have Vq18K_45 := Vq18K_29.other W45 ne_aK_b20
                have Fq29_keys_45 := Fq29_keys.other W45 (Or.inl ne_b16_b20)
                have Fq29_retaken_45 := Fq29_retaken.other W45 (Or.inl ne_b16_b20)
                have Fq29_offeredFrom_45 := Fq29_offeredFrom.other W45 (Or.inl ne_b16_b20)
                have Fq29_sorted_45 := Fq29_sorted.other W45 (Or.inl ne_b16_b20)
                have Fq29_nextKey_45 := Fq29_nextKey.other W45 (Or.inl ne_b16_b20)
                have Fq29_retakenAt_45 := Fq29_retakenAt.other W45 (Or.inl ne_b16_b20)
                have Fq29_retakenEnd_45 := Fq29_retakenEnd.other W45 (Or.inl ne_b16_b20)
                have Vq29T_45 := Vq29T.other W45 ne_aT_b20
                have Z45 : n0 ≤ h45.size := Nat.le_trans Z29 (Keep.of_wr W45).1
                have N45 := Fr.snoc X45 N44 g_b20
                refine own_go st45 ?_
                show OwnFin p e below s _ _ _ (T45.setTop (mkF m 453 #[iv wa, iv wb, iv wc, iv wd, iv (Int32.ofNat n), iv (Int32.ofNat s0), iv fl, iv (Int32.ofNat w), iv (Int32.ofNat s0), iv (Int32.ofNat s1), iv (Int32.ofNat s2), rv b1, iv dr, iv (Int32.ofNat rr), rv b5, rv b9, rv b16, iv o19, rv b20, iv (((Int32.ofNat rr) * (4 : Int32)) + o19), iv (1 : Int32), .unset, .unset] []))
                refine own_go (fun t_ k_ => XS.aload X45.here hx rfl (hb hby at_453) rfl rfl k_) ?_
                show OwnFin p e below s _ _ _ (T45.setTop (mkF m 455 #[iv wa, iv wb, iv wc, iv wd, iv (Int32.ofNat n), iv (Int32.ofNat s0), iv fl, iv (Int32.ofNat w), iv (Int32.ofNat s0), iv (Int32.ofNat s1), iv (Int32.ofNat s2), rv b1, iv dr, iv (Int32.ofNat rr), rv b5, rv b9, rv b16, iv o19, rv b20, iv (((Int32.ofNat rr) * (4 : Int32)) + o19), iv (1 : Int32), .unset, .unset] [(.ref b20)]))
                refine own_go (fun t_ k_ => XS.iconst X45.here hx rfl (hb hby at_455) k_) ?_
                show OwnFin p e below s _ _ _ (T45.setTop (mkF m 456 #[iv wa, iv wb, iv wc, iv wd, iv (Int32.ofNat n), iv (Int32.ofNat s0), iv fl, iv (Int32.ofNat w), iv (Int32.ofNat s0), iv (Int32.ofNat s1), iv (Int32.ofNat s2), rv b1, iv dr, iv (Int32.ofNat rr), rv b5, rv b9, rv b16, iv o19, rv b20, iv (((Int32.ofNat rr) * (4 : Int32)) + o19), iv (1 : Int32), .unset, .unset] [(.int (1 : Int32)), (.ref b20)]))
                refine own_go (fun t_ k_ => XS.iload X45.here hx rfl (hb hby at_456) rfl k_) ?_
                show OwnFin p e below s _ _ _ (T45.setTop (mkF m 458 #[iv wa, iv wb, iv wc, iv wd, iv (Int32.ofNat n), iv (Int32.ofNat s0), iv fl, iv (Int32.ofNat w), iv (Int32.ofNat s0), iv (Int32.ofNat s1), iv (Int32.ofNat s2), rv b1, iv dr, iv (Int32.ofNat rr), rv b5, rv b9, rv b16, iv o19, rv b20, iv (((Int32.ofNat rr) * (4 : Int32)) + o19), iv (1 : Int32), .unset, .unset] [(.int o19), (.int (1 : Int32)), (.ref b20)]))
                obtain ⟨T46, h46, X46, e46, W46, A46, st46⟩ := own_iastore X45 hx hZ e45 A45 (i := 1) (by decide) (by decide) (g := (mkF m 458 #[iv wa, iv wb, iv wc, iv wd, iv (Int32.ofNat n), iv (Int32.ofNat s0), iv fl, iv (Int32.ofNat w), iv (Int32.ofNat s0), iv (Int32.ofNat s1), iv (Int32.ofNat s2), rv b1, iv dr, iv (Int32.ofNat rr), rv b5, rv b9, rv b16, iv o19, rv b20, iv (((Int32.ofNat rr) * (4 : Int32)) + o19), iv (1 : Int32), .unset, .unset] [(.int o19), (.int (1 : Int32)), (.ref b20)])) rfl rfl (hb hby at_458)
                have H0_46 := H0_45.other W46 ne_b1_b20
                have H1_46 := H1_45.other W46 ne_b5_b20
                have H2_46 := H2_45.other W46 ne_b9_b20
                have Eq29_46 := Eq29_45.wr W46
                have Vq18K_46 := Vq18K_45.other W46 ne_aK_b20
                have Fq29_keys_46 := Fq29_keys_45.other W46 (Or.inl ne_b16_b20)
                have Fq29_retaken_46 := Fq29_retaken_45.other W46 (Or.inl ne_b16_b20)
                have Fq29_offeredFrom_46 := Fq29_offeredFrom_45.other W46 (Or.inl ne_b16_b20)
                have Fq29_sorted_46 := Fq29_sorted_45.other W46 (Or.inl ne_b16_b20)
                have Fq29_nextKey_46 := Fq29_nextKey_45.other W46 (Or.inl ne_b16_b20)
                have Fq29_retakenAt_46 := Fq29_retakenAt_45.other W46 (Or.inl ne_b16_b20)
                have Fq29_retakenEnd_46 := Fq29_retakenEnd_45.other W46 (Or.inl ne_b16_b20)
                have Vq29T_46 := Vq29T_45.other W46 ne_aT_b20
                have Z46 : n0 ≤ h46.size := Nat.le_trans Z45 (Keep.of_wr W46).1
                have N46 := Fr.snoc X46 N45 g_b20
                refine own_go st46 ?_
                show OwnFin p e below s _ _ _ (T46.setTop (mkF m 459 #[iv wa, iv wb, iv wc, iv wd, iv (Int32.ofNat n), iv (Int32.ofNat s0), iv fl, iv (Int32.ofNat w), iv (Int32.ofNat s0), iv (Int32.ofNat s1), iv (Int32.ofNat s2), rv b1, iv dr, iv (Int32.ofNat rr), rv b5, rv b9, rv b16, iv o19, rv b20, iv (((Int32.ofNat rr) * (4 : Int32)) + o19), iv (1 : Int32), .unset, .unset] []))
                refine own_go (fun t_ k_ => XS.aload X46.here hx rfl (hb hby at_459) rfl rfl k_) ?_
                show OwnFin p e below s _ _ _ (T46.setTop (mkF m 461 #[iv wa, iv wb, iv wc, iv wd, iv (Int32.ofNat n), iv (Int32.ofNat s0), iv fl, iv (Int32.ofNat w), iv (Int32.ofNat s0), iv (Int32.ofNat s1), iv (Int32.ofNat s2), rv b1, iv dr, iv (Int32.ofNat rr), rv b5, rv b9, rv b16, iv o19, rv b20, iv (((Int32.ofNat rr) * (4 : Int32)) + o19), iv (1 : Int32), .unset, .unset] [(.ref b20)]))
                refine own_go (fun t_ k_ => XS.iconst X46.here hx rfl (hb hby at_461) k_) ?_
                show OwnFin p e below s _ _ _ (T46.setTop (mkF m 462 #[iv wa, iv wb, iv wc, iv wd, iv (Int32.ofNat n), iv (Int32.ofNat s0), iv fl, iv (Int32.ofNat w), iv (Int32.ofNat s0), iv (Int32.ofNat s1), iv (Int32.ofNat s2), rv b1, iv dr, iv (Int32.ofNat rr), rv b5, rv b9, rv b16, iv o19, rv b20, iv (((Int32.ofNat rr) * (4 : Int32)) + o19), iv (1 : Int32), .unset, .unset] [(.int (2 : Int32)), (.ref b20)]))
                refine own_go (fun t_ k_ => XS.aload X46.here hx rfl (hb hby at_462) rfl rfl k_) ?_
                show OwnFin p e below s _ _ _ (T46.setTop (mkF m 464 #[iv wa, iv wb, iv wc, iv wd, iv (Int32.ofNat n), iv (Int32.ofNat s0), iv fl, iv (Int32.ofNat w), iv (Int32.ofNat s0), iv (Int32.ofNat s1), iv (Int32.ofNat s2), rv b1, iv dr, iv (Int32.ofNat rr), rv b5, rv b9, rv b16, iv o19, rv b20, iv (((Int32.ofNat rr) * (4 : Int32)) + o19), iv (1 : Int32), .unset, .unset] [(.ref b9), (.int (2 : Int32)), (.ref b20)]))
                refine own_go (fun t_ k_ => XS.iconst X46.here hx rfl (hb hby at_464) k_) ?_
                show OwnFin p e below s _ _ _ (T46.setTop (mkF m 465 #[iv wa, iv wb, iv wc, iv wd, iv (Int32.ofNat n), iv (Int32.ofNat s0), iv fl, iv (Int32.ofNat w), iv (Int32.ofNat s0), iv (Int32.ofNat s1), iv (Int32.ofNat s2), rv b1, iv dr, iv (Int32.ofNat rr), rv b5, rv b9, rv b16, iv o19, rv b20, iv (((Int32.ofNat rr) * (4 : Int32)) + o19), iv (1 : Int32), .unset, .unset] [(.int (2 : Int32)), (.ref b9), (.int (2 : Int32)), (.ref b20)]))
                refine own_go (own_iaload X46 hx hZ e46 H2_46 (i := 2) (by decide) (by decide) (g := (mkF m 465 #[iv wa, iv wb, iv wc, iv wd, iv (Int32.ofNat n), iv (Int32.ofNat s0), iv fl, iv (Int32.ofNat w), iv (Int32.ofNat s0), iv (Int32.ofNat s1), iv (Int32.ofNat s2), rv b1, iv dr, iv (Int32.ofNat rr), rv b5, rv b9, rv b16, iv o19, rv b20, iv (((Int32.ofNat rr) * (4 : Int32)) + o19), iv (1 : Int32), .unset, .unset] [(.int (2 : Int32)), (.ref b9), (.int (2 : Int32)), (.ref b20)])) rfl rfl (hb hby at_465)) ?_
                show OwnFin p e below s _ _ _ (T46.setTop (mkF m 466 #[iv wa, iv wb, iv wc, iv wd, iv (Int32.ofNat n), iv (Int32.ofNat s0), iv fl, iv (Int32.ofNat w), iv (Int32.ofNat s0), iv (Int32.ofNat s1), iv (Int32.ofNat s2), rv b1, iv dr, iv (Int32.ofNat rr), rv b5, rv b9, rv b16, iv o19, rv b20, iv (((Int32.ofNat rr) * (4 : Int32)) + o19), iv (1 : Int32), .unset, .unset] [(.int (own_e n s0 s1 s2 q0 q1 q2 2)), (.int (2 : Int32)), (.ref b20)]))
                obtain ⟨T47, h47, X47, e47, W47, A47, st47⟩ := own_iastore X46 hx hZ e46 A46 (i := 2) (by decide) (by decide) (g := (mkF m 466 #[iv wa, iv wb, iv wc, iv wd, iv (Int32.ofNat n), iv (Int32.ofNat s0), iv fl, iv (Int32.ofNat w), iv (Int32.ofNat s0), iv (Int32.ofNat s1), iv (Int32.ofNat s2), rv b1, iv dr, iv (Int32.ofNat rr), rv b5, rv b9, rv b16, iv o19, rv b20, iv (((Int32.ofNat rr) * (4 : Int32)) + o19), iv (1 : Int32), .unset, .unset] [(.int (own_e n s0 s1 s2 q0 q1 q2 2)), (.int (2 : Int32)), (.ref b20)])) rfl rfl (hb hby at_466)
                have H0_47 := H0_46.other W47 ne_b1_b20
                have H1_47 := H1_46.other W47 ne_b5_b20
                have H2_47 := H2_46.other W47 ne_b9_b20
                have Eq29_47 := Eq29_46.wr W47
                have Vq18K_47 := Vq18K_46.other W47 ne_aK_b20
                have Fq29_keys_47 := Fq29_keys_46.other W47 (Or.inl ne_b16_b20)
                have Fq29_retaken_47 := Fq29_retaken_46.other W47 (Or.inl ne_b16_b20)
                have Fq29_offeredFrom_47 := Fq29_offeredFrom_46.other W47 (Or.inl ne_b16_b20)
                have Fq29_sorted_47 := Fq29_sorted_46.other W47 (Or.inl ne_b16_b20)
                have Fq29_nextKey_47 := Fq29_nextKey_46.other W47 (Or.inl ne_b16_b20)
                have Fq29_retakenAt_47 := Fq29_retakenAt_46.other W47 (Or.inl ne_b16_b20)
                have Fq29_retakenEnd_47 := Fq29_retakenEnd_46.other W47 (Or.inl ne_b16_b20)
                have Vq29T_47 := Vq29T_46.other W47 ne_aT_b20
                have Z47 : n0 ≤ h47.size := Nat.le_trans Z46 (Keep.of_wr W47).1
                have N47 := Fr.snoc X47 N46 g_b20
                refine own_go st47 ?_
                show OwnFin p e below s _ _ _ (T47.setTop (mkF m 467 #[iv wa, iv wb, iv wc, iv wd, iv (Int32.ofNat n), iv (Int32.ofNat s0), iv fl, iv (Int32.ofNat w), iv (Int32.ofNat s0), iv (Int32.ofNat s1), iv (Int32.ofNat s2), rv b1, iv dr, iv (Int32.ofNat rr), rv b5, rv b9, rv b16, iv o19, rv b20, iv (((Int32.ofNat rr) * (4 : Int32)) + o19), iv (1 : Int32), .unset, .unset] []))
                refine own_go (fun t_ k_ => XS.goto X47.here hx rfl (pc0 := 467) (pc' := 492) rfl (hb hby at_467) (by decide) (by decide) k_) ?_
                show OwnFin p e below s _ _ _ (T47.setTop (mkF m 492 #[iv wa, iv wb, iv wc, iv wd, iv (Int32.ofNat n), iv (Int32.ofNat s0), iv fl, iv (Int32.ofNat w), iv (Int32.ofNat s0), iv (Int32.ofNat s1), iv (Int32.ofNat s2), rv b1, iv dr, iv (Int32.ofNat rr), rv b5, rv b9, rv b16, iv o19, rv b20, iv (((Int32.ofNat rr) * (4 : Int32)) + o19), iv (1 : Int32), .unset, .unset] []))
                refine own_go (fun t_ k_ => XS.aload X47.here hx rfl (hb hby at_492) rfl rfl k_) ?_
                show OwnFin p e below s _ _ _ (T47.setTop (mkF m 494 #[iv wa, iv wb, iv wc, iv wd, iv (Int32.ofNat n), iv (Int32.ofNat s0), iv fl, iv (Int32.ofNat w), iv (Int32.ofNat s0), iv (Int32.ofNat s1), iv (Int32.ofNat s2), rv b1, iv dr, iv (Int32.ofNat rr), rv b5, rv b9, rv b16, iv o19, rv b20, iv (((Int32.ofNat rr) * (4 : Int32)) + o19), iv (1 : Int32), .unset, .unset] [(.ref b20)]))
                refine own_go (fun t_ k_ => XS.iconst X47.here hx rfl (hb hby at_494) k_) ?_
                show OwnFin p e below s _ _ _ (T47.setTop (mkF m 495 #[iv wa, iv wb, iv wc, iv wd, iv (Int32.ofNat n), iv (Int32.ofNat s0), iv fl, iv (Int32.ofNat w), iv (Int32.ofNat s0), iv (Int32.ofNat s1), iv (Int32.ofNat s2), rv b1, iv dr, iv (Int32.ofNat rr), rv b5, rv b9, rv b16, iv o19, rv b20, iv (((Int32.ofNat rr) * (4 : Int32)) + o19), iv (1 : Int32), .unset, .unset] [(.int (3 : Int32)), (.ref b20)]))
                refine own_go (fun t_ k_ => XS.iconst X47.here hx rfl (hb hby at_495) k_) ?_
                show OwnFin p e below s _ _ _ (T47.setTop (mkF m 496 #[iv wa, iv wb, iv wc, iv wd, iv (Int32.ofNat n), iv (Int32.ofNat s0), iv fl, iv (Int32.ofNat w), iv (Int32.ofNat s0), iv (Int32.ofNat s1), iv (Int32.ofNat s2), rv b1, iv dr, iv (Int32.ofNat rr), rv b5, rv b9, rv b16, iv o19, rv b20, iv (((Int32.ofNat rr) * (4 : Int32)) + o19), iv (1 : Int32), .unset, .unset] [(.int (-1 : Int32)), (.int (3 : Int32)), (.ref b20)]))
                obtain ⟨T48, h48, X48, e48, W48, A48, st48⟩ := own_iastore X47 hx hZ e47 A47 (i := 3) (by decide) (by decide) (g := (mkF m 496 #[iv wa, iv wb, iv wc, iv wd, iv (Int32.ofNat n), iv (Int32.ofNat s0), iv fl, iv (Int32.ofNat w), iv (Int32.ofNat s0), iv (Int32.ofNat s1), iv (Int32.ofNat s2), rv b1, iv dr, iv (Int32.ofNat rr), rv b5, rv b9, rv b16, iv o19, rv b20, iv (((Int32.ofNat rr) * (4 : Int32)) + o19), iv (1 : Int32), .unset, .unset] [(.int (-1 : Int32)), (.int (3 : Int32)), (.ref b20)])) rfl rfl (hb hby at_496)
                have H0_48 := H0_47.other W48 ne_b1_b20
                have H1_48 := H1_47.other W48 ne_b5_b20
                have H2_48 := H2_47.other W48 ne_b9_b20
                have Eq29_48 := Eq29_47.wr W48
                have Vq18K_48 := Vq18K_47.other W48 ne_aK_b20
                have Fq29_keys_48 := Fq29_keys_47.other W48 (Or.inl ne_b16_b20)
                have Fq29_retaken_48 := Fq29_retaken_47.other W48 (Or.inl ne_b16_b20)
                have Fq29_offeredFrom_48 := Fq29_offeredFrom_47.other W48 (Or.inl ne_b16_b20)
                have Fq29_sorted_48 := Fq29_sorted_47.other W48 (Or.inl ne_b16_b20)
                have Fq29_nextKey_48 := Fq29_nextKey_47.other W48 (Or.inl ne_b16_b20)
                have Fq29_retakenAt_48 := Fq29_retakenAt_47.other W48 (Or.inl ne_b16_b20)
                have Fq29_retakenEnd_48 := Fq29_retakenEnd_47.other W48 (Or.inl ne_b16_b20)
                have Vq29T_48 := Vq29T_47.other W48 ne_aT_b20
                have Z48 : n0 ≤ h48.size := Nat.le_trans Z47 (Keep.of_wr W48).1
                have N48 := Fr.snoc X48 N47 g_b20
                refine own_go st48 ?_
                show OwnFin p e below s _ _ _ (T48.setTop (mkF m 497 #[iv wa, iv wb, iv wc, iv wd, iv (Int32.ofNat n), iv (Int32.ofNat s0), iv fl, iv (Int32.ofNat w), iv (Int32.ofNat s0), iv (Int32.ofNat s1), iv (Int32.ofNat s2), rv b1, iv dr, iv (Int32.ofNat rr), rv b5, rv b9, rv b16, iv o19, rv b20, iv (((Int32.ofNat rr) * (4 : Int32)) + o19), iv (1 : Int32), .unset, .unset] []))
                have hps : own_ps n (own_rn q0 q1 q2) (own_e n s0 s1 s2 q0 q1 q2 1) (own_e n s0 s1 s2 q0 q1 q2 2) (Int32.ofNat rr * 4 + o19) = 1 := by unfold own_ps; rw [if_neg (fun q => hc380 q.2), if_pos ⟨h2n, hc403⟩]
                have hck := hR.2.2.2 rr hrr
                rw [hps] at hck
                have V_m : OwnArr Z h48 b20 .int 4 (fun k => .int (own_mp 1 o19 (own_e n s0 s1 s2 q0 q1 q2 1) (own_e n s0 s1 s2 q0 q1 q2 2) k)) := A48.congr (own_4c rfl rfl rfl rfl)
                have hck2 := hck
                have Frb : Fld Z h48 b16 "com/example/nearside/nearside/slotted/delay/FairBack" "retakenAt" "I" (.int (Int32.ofNat ra19)) := by rw [hra0]; exact Fq29_retakenAt_48
                exact tl2 _ (own_key (Int32.ofNat rr) o19) 1 _ _ _ T48 _ _ X48 e48 N48 Z48 H0_48 H1_48 H2_48 Eq29_48 Vq18K_48 Vq29T_48 Fq29_keys_48 Fq29_retaken_48 Fq29_offeredFrom_48 Fq29_sorted_48 Fq29_nextKey_48 Frb Fq29_retakenEnd_48 V_m (by decide) (fun _ => rfl) hck2 (One.val rfl) (One.val rfl)
              · refine own_go (fun t_ k_ => XS.icmpYes X44.here hx rfl (pc0 := 403) (pc' := 409) rfl (hb hby at_403) rfl (flt hc403).2.1 (by decide) (by decide) k_) ?_
                show OwnFin p e below s _ _ _ (T44.setTop (mkF m 409 #[iv wa, iv wb, iv wc, iv wd, iv (Int32.ofNat n), iv (Int32.ofNat s0), iv fl, iv (Int32.ofNat w), iv (Int32.ofNat s0), iv (Int32.ofNat s1), iv (Int32.ofNat s2), rv b1, iv dr, iv (Int32.ofNat rr), rv b5, rv b9, rv b16, iv o19, rv b20, iv (((Int32.ofNat rr) * (4 : Int32)) + o19), iv (0 : Int32), .unset, .unset] []))
                refine own_go (fun t_ k_ => XS.iload X44.here hx rfl (hb hby at_409) rfl k_) ?_
                show OwnFin p e below s _ _ _ (T44.setTop (mkF m 411 #[iv wa, iv wb, iv wc, iv wd, iv (Int32.ofNat n), iv (Int32.ofNat s0), iv fl, iv (Int32.ofNat w), iv (Int32.ofNat s0), iv (Int32.ofNat s1), iv (Int32.ofNat s2), rv b1, iv dr, iv (Int32.ofNat rr), rv b5, rv b9, rv b16, iv o19, rv b20, iv (((Int32.ofNat rr) * (4 : Int32)) + o19), iv (0 : Int32), .unset, .unset] [(.int (0 : Int32))]))
                refine own_go (fun t_ k_ => XS.ifNo X44.here hx rfl (hb hby at_411) rfl ((if0 _ _).trans (teq (by decide)).2) k_) ?_
                show OwnFin p e below s _ _ _ (T44.setTop (mkF m 414 #[iv wa, iv wb, iv wc, iv wd, iv (Int32.ofNat n), iv (Int32.ofNat s0), iv fl, iv (Int32.ofNat w), iv (Int32.ofNat s0), iv (Int32.ofNat s1), iv (Int32.ofNat s2), rv b1, iv dr, iv (Int32.ofNat rr), rv b5, rv b9, rv b16, iv o19, rv b20, iv (((Int32.ofNat rr) * (4 : Int32)) + o19), iv (0 : Int32), .unset, .unset] []))
                refine own_go (fun t_ k_ => XS.aload X44.here hx rfl (hb hby at_414) rfl rfl k_) ?_
                show OwnFin p e below s _ _ _ (T44.setTop (mkF m 416 #[iv wa, iv wb, iv wc, iv wd, iv (Int32.ofNat n), iv (Int32.ofNat s0), iv fl, iv (Int32.ofNat w), iv (Int32.ofNat s0), iv (Int32.ofNat s1), iv (Int32.ofNat s2), rv b1, iv dr, iv (Int32.ofNat rr), rv b5, rv b9, rv b16, iv o19, rv b20, iv (((Int32.ofNat rr) * (4 : Int32)) + o19), iv (0 : Int32), .unset, .unset] [(.ref b20)]))
                refine own_go (fun t_ k_ => XS.iconst X44.here hx rfl (hb hby at_416) k_) ?_
                show OwnFin p e below s _ _ _ (T44.setTop (mkF m 417 #[iv wa, iv wb, iv wc, iv wd, iv (Int32.ofNat n), iv (Int32.ofNat s0), iv fl, iv (Int32.ofNat w), iv (Int32.ofNat s0), iv (Int32.ofNat s1), iv (Int32.ofNat s2), rv b1, iv dr, iv (Int32.ofNat rr), rv b5, rv b9, rv b16, iv o19, rv b20, iv (((Int32.ofNat rr) * (4 : Int32)) + o19), iv (0 : Int32), .unset, .unset] [(.int (0 : Int32)), (.ref b20)]))
                refine own_go (fun t_ k_ => XS.iload X44.here hx rfl (hb hby at_417) rfl k_) ?_
                show OwnFin p e below s _ _ _ (T44.setTop (mkF m 419 #[iv wa, iv wb, iv wc, iv wd, iv (Int32.ofNat n), iv (Int32.ofNat s0), iv fl, iv (Int32.ofNat w), iv (Int32.ofNat s0), iv (Int32.ofNat s1), iv (Int32.ofNat s2), rv b1, iv dr, iv (Int32.ofNat rr), rv b5, rv b9, rv b16, iv o19, rv b20, iv (((Int32.ofNat rr) * (4 : Int32)) + o19), iv (0 : Int32), .unset, .unset] [(.int o19), (.int (0 : Int32)), (.ref b20)]))
                obtain ⟨T49, h49, X49, e49, W49, A49, st49⟩ := own_iastore X44 hx hZ e44 V_b20_29 (i := 0) (by decide) (by decide) (g := (mkF m 419 #[iv wa, iv wb, iv wc, iv wd, iv (Int32.ofNat n), iv (Int32.ofNat s0), iv fl, iv (Int32.ofNat w), iv (Int32.ofNat s0), iv (Int32.ofNat s1), iv (Int32.ofNat s2), rv b1, iv dr, iv (Int32.ofNat rr), rv b5, rv b9, rv b16, iv o19, rv b20, iv (((Int32.ofNat rr) * (4 : Int32)) + o19), iv (0 : Int32), .unset, .unset] [(.int o19), (.int (0 : Int32)), (.ref b20)])) rfl rfl (hb hby at_419)
                have H0_49 := H0_29.other W49 ne_b1_b20
                have H1_49 := H1_29.other W49 ne_b5_b20
                have H2_49 := H2_29.other W49 ne_b9_b20
                have Eq29_49 := Eq29.wr W49
                have Vq18K_49 := Vq18K_29.other W49 ne_aK_b20
                have Fq29_keys_49 := Fq29_keys.other W49 (Or.inl ne_b16_b20)
                have Fq29_retaken_49 := Fq29_retaken.other W49 (Or.inl ne_b16_b20)
                have Fq29_offeredFrom_49 := Fq29_offeredFrom.other W49 (Or.inl ne_b16_b20)
                have Fq29_sorted_49 := Fq29_sorted.other W49 (Or.inl ne_b16_b20)
                have Fq29_nextKey_49 := Fq29_nextKey.other W49 (Or.inl ne_b16_b20)
                have Fq29_retakenAt_49 := Fq29_retakenAt.other W49 (Or.inl ne_b16_b20)
                have Fq29_retakenEnd_49 := Fq29_retakenEnd.other W49 (Or.inl ne_b16_b20)
                have Vq29T_49 := Vq29T.other W49 ne_aT_b20
                have Z49 : n0 ≤ h49.size := Nat.le_trans Z29 (Keep.of_wr W49).1
                have N49 := Fr.snoc X49 N44 g_b20
                refine own_go st49 ?_
                show OwnFin p e below s _ _ _ (T49.setTop (mkF m 420 #[iv wa, iv wb, iv wc, iv wd, iv (Int32.ofNat n), iv (Int32.ofNat s0), iv fl, iv (Int32.ofNat w), iv (Int32.ofNat s0), iv (Int32.ofNat s1), iv (Int32.ofNat s2), rv b1, iv dr, iv (Int32.ofNat rr), rv b5, rv b9, rv b16, iv o19, rv b20, iv (((Int32.ofNat rr) * (4 : Int32)) + o19), iv (0 : Int32), .unset, .unset] []))
                refine own_go (fun t_ k_ => XS.aload X49.here hx rfl (hb hby at_420) rfl rfl k_) ?_
                show OwnFin p e below s _ _ _ (T49.setTop (mkF m 422 #[iv wa, iv wb, iv wc, iv wd, iv (Int32.ofNat n), iv (Int32.ofNat s0), iv fl, iv (Int32.ofNat w), iv (Int32.ofNat s0), iv (Int32.ofNat s1), iv (Int32.ofNat s2), rv b1, iv dr, iv (Int32.ofNat rr), rv b5, rv b9, rv b16, iv o19, rv b20, iv (((Int32.ofNat rr) * (4 : Int32)) + o19), iv (0 : Int32), .unset, .unset] [(.ref b20)]))
                refine own_go (fun t_ k_ => XS.iconst X49.here hx rfl (hb hby at_422) k_) ?_
                show OwnFin p e below s _ _ _ (T49.setTop (mkF m 423 #[iv wa, iv wb, iv wc, iv wd, iv (Int32.ofNat n), iv (Int32.ofNat s0), iv fl, iv (Int32.ofNat w), iv (Int32.ofNat s0), iv (Int32.ofNat s1), iv (Int32.ofNat s2), rv b1, iv dr, iv (Int32.ofNat rr), rv b5, rv b9, rv b16, iv o19, rv b20, iv (((Int32.ofNat rr) * (4 : Int32)) + o19), iv (0 : Int32), .unset, .unset] [(.int (1 : Int32)), (.ref b20)]))
                refine own_go (fun t_ k_ => XS.aload X49.here hx rfl (hb hby at_423) rfl rfl k_) ?_
                show OwnFin p e below s _ _ _ (T49.setTop (mkF m 425 #[iv wa, iv wb, iv wc, iv wd, iv (Int32.ofNat n), iv (Int32.ofNat s0), iv fl, iv (Int32.ofNat w), iv (Int32.ofNat s0), iv (Int32.ofNat s1), iv (Int32.ofNat s2), rv b1, iv dr, iv (Int32.ofNat rr), rv b5, rv b9, rv b16, iv o19, rv b20, iv (((Int32.ofNat rr) * (4 : Int32)) + o19), iv (0 : Int32), .unset, .unset] [(.ref b9), (.int (1 : Int32)), (.ref b20)]))
                refine own_go (fun t_ k_ => XS.iconst X49.here hx rfl (hb hby at_425) k_) ?_
                show OwnFin p e below s _ _ _ (T49.setTop (mkF m 426 #[iv wa, iv wb, iv wc, iv wd, iv (Int32.ofNat n), iv (Int32.ofNat s0), iv fl, iv (Int32.ofNat w), iv (Int32.ofNat s0), iv (Int32.ofNat s1), iv (Int32.ofNat s2), rv b1, iv dr, iv (Int32.ofNat rr), rv b5, rv b9, rv b16, iv o19, rv b20, iv (((Int32.ofNat rr) * (4 : Int32)) + o19), iv (0 : Int32), .unset, .unset] [(.int (1 : Int32)), (.ref b9), (.int (1 : Int32)), (.ref b20)]))
                refine own_go (own_iaload X49 hx hZ e49 H2_49 (i := 1) (by decide) (by decide) (g := (mkF m 426 #[iv wa, iv wb, iv wc, iv wd, iv (Int32.ofNat n), iv (Int32.ofNat s0), iv fl, iv (Int32.ofNat w), iv (Int32.ofNat s0), iv (Int32.ofNat s1), iv (Int32.ofNat s2), rv b1, iv dr, iv (Int32.ofNat rr), rv b5, rv b9, rv b16, iv o19, rv b20, iv (((Int32.ofNat rr) * (4 : Int32)) + o19), iv (0 : Int32), .unset, .unset] [(.int (1 : Int32)), (.ref b9), (.int (1 : Int32)), (.ref b20)])) rfl rfl (hb hby at_426)) ?_
                show OwnFin p e below s _ _ _ (T49.setTop (mkF m 427 #[iv wa, iv wb, iv wc, iv wd, iv (Int32.ofNat n), iv (Int32.ofNat s0), iv fl, iv (Int32.ofNat w), iv (Int32.ofNat s0), iv (Int32.ofNat s1), iv (Int32.ofNat s2), rv b1, iv dr, iv (Int32.ofNat rr), rv b5, rv b9, rv b16, iv o19, rv b20, iv (((Int32.ofNat rr) * (4 : Int32)) + o19), iv (0 : Int32), .unset, .unset] [(.int (own_e n s0 s1 s2 q0 q1 q2 1)), (.int (1 : Int32)), (.ref b20)]))
                obtain ⟨T50, h50, X50, e50, W50, A50, st50⟩ := own_iastore X49 hx hZ e49 A49 (i := 1) (by decide) (by decide) (g := (mkF m 427 #[iv wa, iv wb, iv wc, iv wd, iv (Int32.ofNat n), iv (Int32.ofNat s0), iv fl, iv (Int32.ofNat w), iv (Int32.ofNat s0), iv (Int32.ofNat s1), iv (Int32.ofNat s2), rv b1, iv dr, iv (Int32.ofNat rr), rv b5, rv b9, rv b16, iv o19, rv b20, iv (((Int32.ofNat rr) * (4 : Int32)) + o19), iv (0 : Int32), .unset, .unset] [(.int (own_e n s0 s1 s2 q0 q1 q2 1)), (.int (1 : Int32)), (.ref b20)])) rfl rfl (hb hby at_427)
                have H0_50 := H0_49.other W50 ne_b1_b20
                have H1_50 := H1_49.other W50 ne_b5_b20
                have H2_50 := H2_49.other W50 ne_b9_b20
                have Eq29_50 := Eq29_49.wr W50
                have Vq18K_50 := Vq18K_49.other W50 ne_aK_b20
                have Fq29_keys_50 := Fq29_keys_49.other W50 (Or.inl ne_b16_b20)
                have Fq29_retaken_50 := Fq29_retaken_49.other W50 (Or.inl ne_b16_b20)
                have Fq29_offeredFrom_50 := Fq29_offeredFrom_49.other W50 (Or.inl ne_b16_b20)
                have Fq29_sorted_50 := Fq29_sorted_49.other W50 (Or.inl ne_b16_b20)
                have Fq29_nextKey_50 := Fq29_nextKey_49.other W50 (Or.inl ne_b16_b20)
                have Fq29_retakenAt_50 := Fq29_retakenAt_49.other W50 (Or.inl ne_b16_b20)
                have Fq29_retakenEnd_50 := Fq29_retakenEnd_49.other W50 (Or.inl ne_b16_b20)
                have Vq29T_50 := Vq29T_49.other W50 ne_aT_b20
                have Z50 : n0 ≤ h50.size := Nat.le_trans Z49 (Keep.of_wr W50).1
                have N50 := Fr.snoc X50 N49 g_b20
                refine own_go st50 ?_
                show OwnFin p e below s _ _ _ (T50.setTop (mkF m 428 #[iv wa, iv wb, iv wc, iv wd, iv (Int32.ofNat n), iv (Int32.ofNat s0), iv fl, iv (Int32.ofNat w), iv (Int32.ofNat s0), iv (Int32.ofNat s1), iv (Int32.ofNat s2), rv b1, iv dr, iv (Int32.ofNat rr), rv b5, rv b9, rv b16, iv o19, rv b20, iv (((Int32.ofNat rr) * (4 : Int32)) + o19), iv (0 : Int32), .unset, .unset] []))
                refine own_go (fun t_ k_ => XS.aload X50.here hx rfl (hb hby at_428) rfl rfl k_) ?_
                show OwnFin p e below s _ _ _ (T50.setTop (mkF m 430 #[iv wa, iv wb, iv wc, iv wd, iv (Int32.ofNat n), iv (Int32.ofNat s0), iv fl, iv (Int32.ofNat w), iv (Int32.ofNat s0), iv (Int32.ofNat s1), iv (Int32.ofNat s2), rv b1, iv dr, iv (Int32.ofNat rr), rv b5, rv b9, rv b16, iv o19, rv b20, iv (((Int32.ofNat rr) * (4 : Int32)) + o19), iv (0 : Int32), .unset, .unset] [(.ref b20)]))
                refine own_go (fun t_ k_ => XS.iconst X50.here hx rfl (hb hby at_430) k_) ?_
                show OwnFin p e below s _ _ _ (T50.setTop (mkF m 431 #[iv wa, iv wb, iv wc, iv wd, iv (Int32.ofNat n), iv (Int32.ofNat s0), iv fl, iv (Int32.ofNat w), iv (Int32.ofNat s0), iv (Int32.ofNat s1), iv (Int32.ofNat s2), rv b1, iv dr, iv (Int32.ofNat rr), rv b5, rv b9, rv b16, iv o19, rv b20, iv (((Int32.ofNat rr) * (4 : Int32)) + o19), iv (0 : Int32), .unset, .unset] [(.int (2 : Int32)), (.ref b20)]))
                refine own_go (fun t_ k_ => XS.aload X50.here hx rfl (hb hby at_431) rfl rfl k_) ?_
                show OwnFin p e below s _ _ _ (T50.setTop (mkF m 433 #[iv wa, iv wb, iv wc, iv wd, iv (Int32.ofNat n), iv (Int32.ofNat s0), iv fl, iv (Int32.ofNat w), iv (Int32.ofNat s0), iv (Int32.ofNat s1), iv (Int32.ofNat s2), rv b1, iv dr, iv (Int32.ofNat rr), rv b5, rv b9, rv b16, iv o19, rv b20, iv (((Int32.ofNat rr) * (4 : Int32)) + o19), iv (0 : Int32), .unset, .unset] [(.ref b9), (.int (2 : Int32)), (.ref b20)]))
                refine own_go (fun t_ k_ => XS.iconst X50.here hx rfl (hb hby at_433) k_) ?_
                show OwnFin p e below s _ _ _ (T50.setTop (mkF m 434 #[iv wa, iv wb, iv wc, iv wd, iv (Int32.ofNat n), iv (Int32.ofNat s0), iv fl, iv (Int32.ofNat w), iv (Int32.ofNat s0), iv (Int32.ofNat s1), iv (Int32.ofNat s2), rv b1, iv dr, iv (Int32.ofNat rr), rv b5, rv b9, rv b16, iv o19, rv b20, iv (((Int32.ofNat rr) * (4 : Int32)) + o19), iv (0 : Int32), .unset, .unset] [(.int (2 : Int32)), (.ref b9), (.int (2 : Int32)), (.ref b20)]))
                refine own_go (own_iaload X50 hx hZ e50 H2_50 (i := 2) (by decide) (by decide) (g := (mkF m 434 #[iv wa, iv wb, iv wc, iv wd, iv (Int32.ofNat n), iv (Int32.ofNat s0), iv fl, iv (Int32.ofNat w), iv (Int32.ofNat s0), iv (Int32.ofNat s1), iv (Int32.ofNat s2), rv b1, iv dr, iv (Int32.ofNat rr), rv b5, rv b9, rv b16, iv o19, rv b20, iv (((Int32.ofNat rr) * (4 : Int32)) + o19), iv (0 : Int32), .unset, .unset] [(.int (2 : Int32)), (.ref b9), (.int (2 : Int32)), (.ref b20)])) rfl rfl (hb hby at_434)) ?_
                show OwnFin p e below s _ _ _ (T50.setTop (mkF m 435 #[iv wa, iv wb, iv wc, iv wd, iv (Int32.ofNat n), iv (Int32.ofNat s0), iv fl, iv (Int32.ofNat w), iv (Int32.ofNat s0), iv (Int32.ofNat s1), iv (Int32.ofNat s2), rv b1, iv dr, iv (Int32.ofNat rr), rv b5, rv b9, rv b16, iv o19, rv b20, iv (((Int32.ofNat rr) * (4 : Int32)) + o19), iv (0 : Int32), .unset, .unset] [(.int (own_e n s0 s1 s2 q0 q1 q2 2)), (.int (2 : Int32)), (.ref b20)]))
                obtain ⟨T51, h51, X51, e51, W51, A51, st51⟩ := own_iastore X50 hx hZ e50 A50 (i := 2) (by decide) (by decide) (g := (mkF m 435 #[iv wa, iv wb, iv wc, iv wd, iv (Int32.ofNat n), iv (Int32.ofNat s0), iv fl, iv (Int32.ofNat w), iv (Int32.ofNat s0), iv (Int32.ofNat s1), iv (Int32.ofNat s2), rv b1, iv dr, iv (Int32.ofNat rr), rv b5, rv b9, rv b16, iv o19, rv b20, iv (((Int32.ofNat rr) * (4 : Int32)) + o19), iv (0 : Int32), .unset, .unset] [(.int (own_e n s0 s1 s2 q0 q1 q2 2)), (.int (2 : Int32)), (.ref b20)])) rfl rfl (hb hby at_435)
                have H0_51 := H0_50.other W51 ne_b1_b20
                have H1_51 := H1_50.other W51 ne_b5_b20
                have H2_51 := H2_50.other W51 ne_b9_b20
                have Eq29_51 := Eq29_50.wr W51
                have Vq18K_51 := Vq18K_50.other W51 ne_aK_b20
                have Fq29_keys_51 := Fq29_keys_50.other W51 (Or.inl ne_b16_b20)
                have Fq29_retaken_51 := Fq29_retaken_50.other W51 (Or.inl ne_b16_b20)
                have Fq29_offeredFrom_51 := Fq29_offeredFrom_50.other W51 (Or.inl ne_b16_b20)
                have Fq29_sorted_51 := Fq29_sorted_50.other W51 (Or.inl ne_b16_b20)
                have Fq29_nextKey_51 := Fq29_nextKey_50.other W51 (Or.inl ne_b16_b20)
                have Fq29_retakenAt_51 := Fq29_retakenAt_50.other W51 (Or.inl ne_b16_b20)
                have Fq29_retakenEnd_51 := Fq29_retakenEnd_50.other W51 (Or.inl ne_b16_b20)
                have Vq29T_51 := Vq29T_50.other W51 ne_aT_b20
                have Z51 : n0 ≤ h51.size := Nat.le_trans Z50 (Keep.of_wr W51).1
                have N51 := Fr.snoc X51 N50 g_b20
                refine own_go st51 ?_
                show OwnFin p e below s _ _ _ (T51.setTop (mkF m 436 #[iv wa, iv wb, iv wc, iv wd, iv (Int32.ofNat n), iv (Int32.ofNat s0), iv fl, iv (Int32.ofNat w), iv (Int32.ofNat s0), iv (Int32.ofNat s1), iv (Int32.ofNat s2), rv b1, iv dr, iv (Int32.ofNat rr), rv b5, rv b9, rv b16, iv o19, rv b20, iv (((Int32.ofNat rr) * (4 : Int32)) + o19), iv (0 : Int32), .unset, .unset] []))
                refine own_go (fun t_ k_ => XS.goto X51.here hx rfl (pc0 := 436) (pc' := 492) rfl (hb hby at_436) (by decide) (by decide) k_) ?_
                show OwnFin p e below s _ _ _ (T51.setTop (mkF m 492 #[iv wa, iv wb, iv wc, iv wd, iv (Int32.ofNat n), iv (Int32.ofNat s0), iv fl, iv (Int32.ofNat w), iv (Int32.ofNat s0), iv (Int32.ofNat s1), iv (Int32.ofNat s2), rv b1, iv dr, iv (Int32.ofNat rr), rv b5, rv b9, rv b16, iv o19, rv b20, iv (((Int32.ofNat rr) * (4 : Int32)) + o19), iv (0 : Int32), .unset, .unset] []))
                refine own_go (fun t_ k_ => XS.aload X51.here hx rfl (hb hby at_492) rfl rfl k_) ?_
                show OwnFin p e below s _ _ _ (T51.setTop (mkF m 494 #[iv wa, iv wb, iv wc, iv wd, iv (Int32.ofNat n), iv (Int32.ofNat s0), iv fl, iv (Int32.ofNat w), iv (Int32.ofNat s0), iv (Int32.ofNat s1), iv (Int32.ofNat s2), rv b1, iv dr, iv (Int32.ofNat rr), rv b5, rv b9, rv b16, iv o19, rv b20, iv (((Int32.ofNat rr) * (4 : Int32)) + o19), iv (0 : Int32), .unset, .unset] [(.ref b20)]))
                refine own_go (fun t_ k_ => XS.iconst X51.here hx rfl (hb hby at_494) k_) ?_
                show OwnFin p e below s _ _ _ (T51.setTop (mkF m 495 #[iv wa, iv wb, iv wc, iv wd, iv (Int32.ofNat n), iv (Int32.ofNat s0), iv fl, iv (Int32.ofNat w), iv (Int32.ofNat s0), iv (Int32.ofNat s1), iv (Int32.ofNat s2), rv b1, iv dr, iv (Int32.ofNat rr), rv b5, rv b9, rv b16, iv o19, rv b20, iv (((Int32.ofNat rr) * (4 : Int32)) + o19), iv (0 : Int32), .unset, .unset] [(.int (3 : Int32)), (.ref b20)]))
                refine own_go (fun t_ k_ => XS.iconst X51.here hx rfl (hb hby at_495) k_) ?_
                show OwnFin p e below s _ _ _ (T51.setTop (mkF m 496 #[iv wa, iv wb, iv wc, iv wd, iv (Int32.ofNat n), iv (Int32.ofNat s0), iv fl, iv (Int32.ofNat w), iv (Int32.ofNat s0), iv (Int32.ofNat s1), iv (Int32.ofNat s2), rv b1, iv dr, iv (Int32.ofNat rr), rv b5, rv b9, rv b16, iv o19, rv b20, iv (((Int32.ofNat rr) * (4 : Int32)) + o19), iv (0 : Int32), .unset, .unset] [(.int (-1 : Int32)), (.int (3 : Int32)), (.ref b20)]))
                obtain ⟨T52, h52, X52, e52, W52, A52, st52⟩ := own_iastore X51 hx hZ e51 A51 (i := 3) (by decide) (by decide) (g := (mkF m 496 #[iv wa, iv wb, iv wc, iv wd, iv (Int32.ofNat n), iv (Int32.ofNat s0), iv fl, iv (Int32.ofNat w), iv (Int32.ofNat s0), iv (Int32.ofNat s1), iv (Int32.ofNat s2), rv b1, iv dr, iv (Int32.ofNat rr), rv b5, rv b9, rv b16, iv o19, rv b20, iv (((Int32.ofNat rr) * (4 : Int32)) + o19), iv (0 : Int32), .unset, .unset] [(.int (-1 : Int32)), (.int (3 : Int32)), (.ref b20)])) rfl rfl (hb hby at_496)
                have H0_52 := H0_51.other W52 ne_b1_b20
                have H1_52 := H1_51.other W52 ne_b5_b20
                have H2_52 := H2_51.other W52 ne_b9_b20
                have Eq29_52 := Eq29_51.wr W52
                have Vq18K_52 := Vq18K_51.other W52 ne_aK_b20
                have Fq29_keys_52 := Fq29_keys_51.other W52 (Or.inl ne_b16_b20)
                have Fq29_retaken_52 := Fq29_retaken_51.other W52 (Or.inl ne_b16_b20)
                have Fq29_offeredFrom_52 := Fq29_offeredFrom_51.other W52 (Or.inl ne_b16_b20)
                have Fq29_sorted_52 := Fq29_sorted_51.other W52 (Or.inl ne_b16_b20)
                have Fq29_nextKey_52 := Fq29_nextKey_51.other W52 (Or.inl ne_b16_b20)
                have Fq29_retakenAt_52 := Fq29_retakenAt_51.other W52 (Or.inl ne_b16_b20)
                have Fq29_retakenEnd_52 := Fq29_retakenEnd_51.other W52 (Or.inl ne_b16_b20)
                have Vq29T_52 := Vq29T_51.other W52 ne_aT_b20
                have Z52 : n0 ≤ h52.size := Nat.le_trans Z51 (Keep.of_wr W52).1
                have N52 := Fr.snoc X52 N51 g_b20
                refine own_go st52 ?_
                show OwnFin p e below s _ _ _ (T52.setTop (mkF m 497 #[iv wa, iv wb, iv wc, iv wd, iv (Int32.ofNat n), iv (Int32.ofNat s0), iv fl, iv (Int32.ofNat w), iv (Int32.ofNat s0), iv (Int32.ofNat s1), iv (Int32.ofNat s2), rv b1, iv dr, iv (Int32.ofNat rr), rv b5, rv b9, rv b16, iv o19, rv b20, iv (((Int32.ofNat rr) * (4 : Int32)) + o19), iv (0 : Int32), .unset, .unset] []))
                have hps : own_ps n (own_rn q0 q1 q2) (own_e n s0 s1 s2 q0 q1 q2 1) (own_e n s0 s1 s2 q0 q1 q2 2) (Int32.ofNat rr * 4 + o19) = 0 := by unfold own_ps; rw [if_neg (fun q => hc380 q.2), if_neg (fun q => hc403 q.2)]
                have hck := hR.2.2.2 rr hrr
                rw [hps] at hck
                have V_m : OwnArr Z h52 b20 .int 4 (fun k => .int (own_mp 0 o19 (own_e n s0 s1 s2 q0 q1 q2 1) (own_e n s0 s1 s2 q0 q1 q2 2) k)) := A52.congr (own_4c rfl rfl rfl rfl)
                have hck2 := hck
                have Frb : Fld Z h52 b16 "com/example/nearside/nearside/slotted/delay/FairBack" "retakenAt" "I" (.int (Int32.ofNat ra19)) := by rw [hra0]; exact Fq29_retakenAt_52
                exact tl2 _ (own_key (Int32.ofNat rr) o19) 1 _ _ _ T52 _ _ X52 e52 N52 Z52 H0_52 H1_52 H2_52 Eq29_52 Vq18K_52 Vq29T_52 Fq29_keys_52 Fq29_retaken_52 Fq29_offeredFrom_52 Fq29_sorted_52 Fq29_nextKey_52 Frb Fq29_retakenEnd_52 V_m (by decide) (fun _ => rfl) hck2 (One.val rfl) (One.val rfl)
            · refine own_go (fun t_ k_ => XS.icmpYes X30.here hx rfl (pc0 := 389) (pc' := 409) rfl (hb hby at_389) rfl (flt hc389).2.2.2 (by decide) (by decide) k_) ?_
              show OwnFin p e below s _ _ _ (T30.setTop (mkF m 409 #[iv wa, iv wb, iv wc, iv wd, iv (Int32.ofNat n), iv (Int32.ofNat s0), iv fl, iv (Int32.ofNat w), iv (Int32.ofNat s0), iv (Int32.ofNat s1), iv (Int32.ofNat s2), rv b1, iv dr, iv (Int32.ofNat rr), rv b5, rv b9, rv b16, iv o19, rv b20, iv (((Int32.ofNat rr) * (4 : Int32)) + o19), iv (0 : Int32), .unset, .unset] []))
              refine own_go (fun t_ k_ => XS.iload X30.here hx rfl (hb hby at_409) rfl k_) ?_
              show OwnFin p e below s _ _ _ (T30.setTop (mkF m 411 #[iv wa, iv wb, iv wc, iv wd, iv (Int32.ofNat n), iv (Int32.ofNat s0), iv fl, iv (Int32.ofNat w), iv (Int32.ofNat s0), iv (Int32.ofNat s1), iv (Int32.ofNat s2), rv b1, iv dr, iv (Int32.ofNat rr), rv b5, rv b9, rv b16, iv o19, rv b20, iv (((Int32.ofNat rr) * (4 : Int32)) + o19), iv (0 : Int32), .unset, .unset] [(.int (0 : Int32))]))
              refine own_go (fun t_ k_ => XS.ifNo X30.here hx rfl (hb hby at_411) rfl ((if0 _ _).trans (teq (by decide)).2) k_) ?_
              show OwnFin p e below s _ _ _ (T30.setTop (mkF m 414 #[iv wa, iv wb, iv wc, iv wd, iv (Int32.ofNat n), iv (Int32.ofNat s0), iv fl, iv (Int32.ofNat w), iv (Int32.ofNat s0), iv (Int32.ofNat s1), iv (Int32.ofNat s2), rv b1, iv dr, iv (Int32.ofNat rr), rv b5, rv b9, rv b16, iv o19, rv b20, iv (((Int32.ofNat rr) * (4 : Int32)) + o19), iv (0 : Int32), .unset, .unset] []))
              refine own_go (fun t_ k_ => XS.aload X30.here hx rfl (hb hby at_414) rfl rfl k_) ?_
              show OwnFin p e below s _ _ _ (T30.setTop (mkF m 416 #[iv wa, iv wb, iv wc, iv wd, iv (Int32.ofNat n), iv (Int32.ofNat s0), iv fl, iv (Int32.ofNat w), iv (Int32.ofNat s0), iv (Int32.ofNat s1), iv (Int32.ofNat s2), rv b1, iv dr, iv (Int32.ofNat rr), rv b5, rv b9, rv b16, iv o19, rv b20, iv (((Int32.ofNat rr) * (4 : Int32)) + o19), iv (0 : Int32), .unset, .unset] [(.ref b20)]))
              refine own_go (fun t_ k_ => XS.iconst X30.here hx rfl (hb hby at_416) k_) ?_
              show OwnFin p e below s _ _ _ (T30.setTop (mkF m 417 #[iv wa, iv wb, iv wc, iv wd, iv (Int32.ofNat n), iv (Int32.ofNat s0), iv fl, iv (Int32.ofNat w), iv (Int32.ofNat s0), iv (Int32.ofNat s1), iv (Int32.ofNat s2), rv b1, iv dr, iv (Int32.ofNat rr), rv b5, rv b9, rv b16, iv o19, rv b20, iv (((Int32.ofNat rr) * (4 : Int32)) + o19), iv (0 : Int32), .unset, .unset] [(.int (0 : Int32)), (.ref b20)]))
              refine own_go (fun t_ k_ => XS.iload X30.here hx rfl (hb hby at_417) rfl k_) ?_
              show OwnFin p e below s _ _ _ (T30.setTop (mkF m 419 #[iv wa, iv wb, iv wc, iv wd, iv (Int32.ofNat n), iv (Int32.ofNat s0), iv fl, iv (Int32.ofNat w), iv (Int32.ofNat s0), iv (Int32.ofNat s1), iv (Int32.ofNat s2), rv b1, iv dr, iv (Int32.ofNat rr), rv b5, rv b9, rv b16, iv o19, rv b20, iv (((Int32.ofNat rr) * (4 : Int32)) + o19), iv (0 : Int32), .unset, .unset] [(.int o19), (.int (0 : Int32)), (.ref b20)]))
              obtain ⟨T53, h53, X53, e53, W53, A53, st53⟩ := own_iastore X30 hx hZ e30 V_b20_29 (i := 0) (by decide) (by decide) (g := (mkF m 419 #[iv wa, iv wb, iv wc, iv wd, iv (Int32.ofNat n), iv (Int32.ofNat s0), iv fl, iv (Int32.ofNat w), iv (Int32.ofNat s0), iv (Int32.ofNat s1), iv (Int32.ofNat s2), rv b1, iv dr, iv (Int32.ofNat rr), rv b5, rv b9, rv b16, iv o19, rv b20, iv (((Int32.ofNat rr) * (4 : Int32)) + o19), iv (0 : Int32), .unset, .unset] [(.int o19), (.int (0 : Int32)), (.ref b20)])) rfl rfl (hb hby at_419)
              have H0_53 := H0_29.other W53 ne_b1_b20
              have H1_53 := H1_29.other W53 ne_b5_b20
              have H2_53 := H2_29.other W53 ne_b9_b20
              have Eq29_53 := Eq29.wr W53
              have Vq18K_53 := Vq18K_29.other W53 ne_aK_b20
              have Fq29_keys_53 := Fq29_keys.other W53 (Or.inl ne_b16_b20)
              have Fq29_retaken_53 := Fq29_retaken.other W53 (Or.inl ne_b16_b20)
              have Fq29_offeredFrom_53 := Fq29_offeredFrom.other W53 (Or.inl ne_b16_b20)
              have Fq29_sorted_53 := Fq29_sorted.other W53 (Or.inl ne_b16_b20)
              have Fq29_nextKey_53 := Fq29_nextKey.other W53 (Or.inl ne_b16_b20)
              have Fq29_retakenAt_53 := Fq29_retakenAt.other W53 (Or.inl ne_b16_b20)
              have Fq29_retakenEnd_53 := Fq29_retakenEnd.other W53 (Or.inl ne_b16_b20)
              have Vq29T_53 := Vq29T.other W53 ne_aT_b20
              have Z53 : n0 ≤ h53.size := Nat.le_trans Z29 (Keep.of_wr W53).1
              have N53 := Fr.snoc X53 N30 g_b20
              refine own_go st53 ?_
              show OwnFin p e below s _ _ _ (T53.setTop (mkF m 420 #[iv wa, iv wb, iv wc, iv wd, iv (Int32.ofNat n), iv (Int32.ofNat s0), iv fl, iv (Int32.ofNat w), iv (Int32.ofNat s0), iv (Int32.ofNat s1), iv (Int32.ofNat s2), rv b1, iv dr, iv (Int32.ofNat rr), rv b5, rv b9, rv b16, iv o19, rv b20, iv (((Int32.ofNat rr) * (4 : Int32)) + o19), iv (0 : Int32), .unset, .unset] []))
              refine own_go (fun t_ k_ => XS.aload X53.here hx rfl (hb hby at_420) rfl rfl k_) ?_
              show OwnFin p e below s _ _ _ (T53.setTop (mkF m 422 #[iv wa, iv wb, iv wc, iv wd, iv (Int32.ofNat n), iv (Int32.ofNat s0), iv fl, iv (Int32.ofNat w), iv (Int32.ofNat s0), iv (Int32.ofNat s1), iv (Int32.ofNat s2), rv b1, iv dr, iv (Int32.ofNat rr), rv b5, rv b9, rv b16, iv o19, rv b20, iv (((Int32.ofNat rr) * (4 : Int32)) + o19), iv (0 : Int32), .unset, .unset] [(.ref b20)]))
              refine own_go (fun t_ k_ => XS.iconst X53.here hx rfl (hb hby at_422) k_) ?_
              show OwnFin p e below s _ _ _ (T53.setTop (mkF m 423 #[iv wa, iv wb, iv wc, iv wd, iv (Int32.ofNat n), iv (Int32.ofNat s0), iv fl, iv (Int32.ofNat w), iv (Int32.ofNat s0), iv (Int32.ofNat s1), iv (Int32.ofNat s2), rv b1, iv dr, iv (Int32.ofNat rr), rv b5, rv b9, rv b16, iv o19, rv b20, iv (((Int32.ofNat rr) * (4 : Int32)) + o19), iv (0 : Int32), .unset, .unset] [(.int (1 : Int32)), (.ref b20)]))
              refine own_go (fun t_ k_ => XS.aload X53.here hx rfl (hb hby at_423) rfl rfl k_) ?_
              show OwnFin p e below s _ _ _ (T53.setTop (mkF m 425 #[iv wa, iv wb, iv wc, iv wd, iv (Int32.ofNat n), iv (Int32.ofNat s0), iv fl, iv (Int32.ofNat w), iv (Int32.ofNat s0), iv (Int32.ofNat s1), iv (Int32.ofNat s2), rv b1, iv dr, iv (Int32.ofNat rr), rv b5, rv b9, rv b16, iv o19, rv b20, iv (((Int32.ofNat rr) * (4 : Int32)) + o19), iv (0 : Int32), .unset, .unset] [(.ref b9), (.int (1 : Int32)), (.ref b20)]))
              refine own_go (fun t_ k_ => XS.iconst X53.here hx rfl (hb hby at_425) k_) ?_
              show OwnFin p e below s _ _ _ (T53.setTop (mkF m 426 #[iv wa, iv wb, iv wc, iv wd, iv (Int32.ofNat n), iv (Int32.ofNat s0), iv fl, iv (Int32.ofNat w), iv (Int32.ofNat s0), iv (Int32.ofNat s1), iv (Int32.ofNat s2), rv b1, iv dr, iv (Int32.ofNat rr), rv b5, rv b9, rv b16, iv o19, rv b20, iv (((Int32.ofNat rr) * (4 : Int32)) + o19), iv (0 : Int32), .unset, .unset] [(.int (1 : Int32)), (.ref b9), (.int (1 : Int32)), (.ref b20)]))
              refine own_go (own_iaload X53 hx hZ e53 H2_53 (i := 1) (by decide) (by decide) (g := (mkF m 426 #[iv wa, iv wb, iv wc, iv wd, iv (Int32.ofNat n), iv (Int32.ofNat s0), iv fl, iv (Int32.ofNat w), iv (Int32.ofNat s0), iv (Int32.ofNat s1), iv (Int32.ofNat s2), rv b1, iv dr, iv (Int32.ofNat rr), rv b5, rv b9, rv b16, iv o19, rv b20, iv (((Int32.ofNat rr) * (4 : Int32)) + o19), iv (0 : Int32), .unset, .unset] [(.int (1 : Int32)), (.ref b9), (.int (1 : Int32)), (.ref b20)])) rfl rfl (hb hby at_426)) ?_
              show OwnFin p e below s _ _ _ (T53.setTop (mkF m 427 #[iv wa, iv wb, iv wc, iv wd, iv (Int32.ofNat n), iv (Int32.ofNat s0), iv fl, iv (Int32.ofNat w), iv (Int32.ofNat s0), iv (Int32.ofNat s1), iv (Int32.ofNat s2), rv b1, iv dr, iv (Int32.ofNat rr), rv b5, rv b9, rv b16, iv o19, rv b20, iv (((Int32.ofNat rr) * (4 : Int32)) + o19), iv (0 : Int32), .unset, .unset] [(.int (own_e n s0 s1 s2 q0 q1 q2 1)), (.int (1 : Int32)), (.ref b20)]))
              obtain ⟨T54, h54, X54, e54, W54, A54, st54⟩ := own_iastore X53 hx hZ e53 A53 (i := 1) (by decide) (by decide) (g := (mkF m 427 #[iv wa, iv wb, iv wc, iv wd, iv (Int32.ofNat n), iv (Int32.ofNat s0), iv fl, iv (Int32.ofNat w), iv (Int32.ofNat s0), iv (Int32.ofNat s1), iv (Int32.ofNat s2), rv b1, iv dr, iv (Int32.ofNat rr), rv b5, rv b9, rv b16, iv o19, rv b20, iv (((Int32.ofNat rr) * (4 : Int32)) + o19), iv (0 : Int32), .unset, .unset] [(.int (own_e n s0 s1 s2 q0 q1 q2 1)), (.int (1 : Int32)), (.ref b20)])) rfl rfl (hb hby at_427)
              have H0_54 := H0_53.other W54 ne_b1_b20
              have H1_54 := H1_53.other W54 ne_b5_b20
              have H2_54 := H2_53.other W54 ne_b9_b20
              have Eq29_54 := Eq29_53.wr W54
              have Vq18K_54 := Vq18K_53.other W54 ne_aK_b20
              have Fq29_keys_54 := Fq29_keys_53.other W54 (Or.inl ne_b16_b20)
              have Fq29_retaken_54 := Fq29_retaken_53.other W54 (Or.inl ne_b16_b20)
              have Fq29_offeredFrom_54 := Fq29_offeredFrom_53.other W54 (Or.inl ne_b16_b20)
              have Fq29_sorted_54 := Fq29_sorted_53.other W54 (Or.inl ne_b16_b20)
              have Fq29_nextKey_54 := Fq29_nextKey_53.other W54 (Or.inl ne_b16_b20)
              have Fq29_retakenAt_54 := Fq29_retakenAt_53.other W54 (Or.inl ne_b16_b20)
              have Fq29_retakenEnd_54 := Fq29_retakenEnd_53.other W54 (Or.inl ne_b16_b20)
              have Vq29T_54 := Vq29T_53.other W54 ne_aT_b20
              have Z54 : n0 ≤ h54.size := Nat.le_trans Z53 (Keep.of_wr W54).1
              have N54 := Fr.snoc X54 N53 g_b20
              refine own_go st54 ?_
              show OwnFin p e below s _ _ _ (T54.setTop (mkF m 428 #[iv wa, iv wb, iv wc, iv wd, iv (Int32.ofNat n), iv (Int32.ofNat s0), iv fl, iv (Int32.ofNat w), iv (Int32.ofNat s0), iv (Int32.ofNat s1), iv (Int32.ofNat s2), rv b1, iv dr, iv (Int32.ofNat rr), rv b5, rv b9, rv b16, iv o19, rv b20, iv (((Int32.ofNat rr) * (4 : Int32)) + o19), iv (0 : Int32), .unset, .unset] []))
              refine own_go (fun t_ k_ => XS.aload X54.here hx rfl (hb hby at_428) rfl rfl k_) ?_
              show OwnFin p e below s _ _ _ (T54.setTop (mkF m 430 #[iv wa, iv wb, iv wc, iv wd, iv (Int32.ofNat n), iv (Int32.ofNat s0), iv fl, iv (Int32.ofNat w), iv (Int32.ofNat s0), iv (Int32.ofNat s1), iv (Int32.ofNat s2), rv b1, iv dr, iv (Int32.ofNat rr), rv b5, rv b9, rv b16, iv o19, rv b20, iv (((Int32.ofNat rr) * (4 : Int32)) + o19), iv (0 : Int32), .unset, .unset] [(.ref b20)]))
              refine own_go (fun t_ k_ => XS.iconst X54.here hx rfl (hb hby at_430) k_) ?_
              show OwnFin p e below s _ _ _ (T54.setTop (mkF m 431 #[iv wa, iv wb, iv wc, iv wd, iv (Int32.ofNat n), iv (Int32.ofNat s0), iv fl, iv (Int32.ofNat w), iv (Int32.ofNat s0), iv (Int32.ofNat s1), iv (Int32.ofNat s2), rv b1, iv dr, iv (Int32.ofNat rr), rv b5, rv b9, rv b16, iv o19, rv b20, iv (((Int32.ofNat rr) * (4 : Int32)) + o19), iv (0 : Int32), .unset, .unset] [(.int (2 : Int32)), (.ref b20)]))
              refine own_go (fun t_ k_ => XS.aload X54.here hx rfl (hb hby at_431) rfl rfl k_) ?_
              show OwnFin p e below s _ _ _ (T54.setTop (mkF m 433 #[iv wa, iv wb, iv wc, iv wd, iv (Int32.ofNat n), iv (Int32.ofNat s0), iv fl, iv (Int32.ofNat w), iv (Int32.ofNat s0), iv (Int32.ofNat s1), iv (Int32.ofNat s2), rv b1, iv dr, iv (Int32.ofNat rr), rv b5, rv b9, rv b16, iv o19, rv b20, iv (((Int32.ofNat rr) * (4 : Int32)) + o19), iv (0 : Int32), .unset, .unset] [(.ref b9), (.int (2 : Int32)), (.ref b20)]))
              refine own_go (fun t_ k_ => XS.iconst X54.here hx rfl (hb hby at_433) k_) ?_
              show OwnFin p e below s _ _ _ (T54.setTop (mkF m 434 #[iv wa, iv wb, iv wc, iv wd, iv (Int32.ofNat n), iv (Int32.ofNat s0), iv fl, iv (Int32.ofNat w), iv (Int32.ofNat s0), iv (Int32.ofNat s1), iv (Int32.ofNat s2), rv b1, iv dr, iv (Int32.ofNat rr), rv b5, rv b9, rv b16, iv o19, rv b20, iv (((Int32.ofNat rr) * (4 : Int32)) + o19), iv (0 : Int32), .unset, .unset] [(.int (2 : Int32)), (.ref b9), (.int (2 : Int32)), (.ref b20)]))
              refine own_go (own_iaload X54 hx hZ e54 H2_54 (i := 2) (by decide) (by decide) (g := (mkF m 434 #[iv wa, iv wb, iv wc, iv wd, iv (Int32.ofNat n), iv (Int32.ofNat s0), iv fl, iv (Int32.ofNat w), iv (Int32.ofNat s0), iv (Int32.ofNat s1), iv (Int32.ofNat s2), rv b1, iv dr, iv (Int32.ofNat rr), rv b5, rv b9, rv b16, iv o19, rv b20, iv (((Int32.ofNat rr) * (4 : Int32)) + o19), iv (0 : Int32), .unset, .unset] [(.int (2 : Int32)), (.ref b9), (.int (2 : Int32)), (.ref b20)])) rfl rfl (hb hby at_434)) ?_
              show OwnFin p e below s _ _ _ (T54.setTop (mkF m 435 #[iv wa, iv wb, iv wc, iv wd, iv (Int32.ofNat n), iv (Int32.ofNat s0), iv fl, iv (Int32.ofNat w), iv (Int32.ofNat s0), iv (Int32.ofNat s1), iv (Int32.ofNat s2), rv b1, iv dr, iv (Int32.ofNat rr), rv b5, rv b9, rv b16, iv o19, rv b20, iv (((Int32.ofNat rr) * (4 : Int32)) + o19), iv (0 : Int32), .unset, .unset] [(.int (own_e n s0 s1 s2 q0 q1 q2 2)), (.int (2 : Int32)), (.ref b20)]))
              obtain ⟨T55, h55, X55, e55, W55, A55, st55⟩ := own_iastore X54 hx hZ e54 A54 (i := 2) (by decide) (by decide) (g := (mkF m 435 #[iv wa, iv wb, iv wc, iv wd, iv (Int32.ofNat n), iv (Int32.ofNat s0), iv fl, iv (Int32.ofNat w), iv (Int32.ofNat s0), iv (Int32.ofNat s1), iv (Int32.ofNat s2), rv b1, iv dr, iv (Int32.ofNat rr), rv b5, rv b9, rv b16, iv o19, rv b20, iv (((Int32.ofNat rr) * (4 : Int32)) + o19), iv (0 : Int32), .unset, .unset] [(.int (own_e n s0 s1 s2 q0 q1 q2 2)), (.int (2 : Int32)), (.ref b20)])) rfl rfl (hb hby at_435)
              have H0_55 := H0_54.other W55 ne_b1_b20
              have H1_55 := H1_54.other W55 ne_b5_b20
              have H2_55 := H2_54.other W55 ne_b9_b20
              have Eq29_55 := Eq29_54.wr W55
              have Vq18K_55 := Vq18K_54.other W55 ne_aK_b20
              have Fq29_keys_55 := Fq29_keys_54.other W55 (Or.inl ne_b16_b20)
              have Fq29_retaken_55 := Fq29_retaken_54.other W55 (Or.inl ne_b16_b20)
              have Fq29_offeredFrom_55 := Fq29_offeredFrom_54.other W55 (Or.inl ne_b16_b20)
              have Fq29_sorted_55 := Fq29_sorted_54.other W55 (Or.inl ne_b16_b20)
              have Fq29_nextKey_55 := Fq29_nextKey_54.other W55 (Or.inl ne_b16_b20)
              have Fq29_retakenAt_55 := Fq29_retakenAt_54.other W55 (Or.inl ne_b16_b20)
              have Fq29_retakenEnd_55 := Fq29_retakenEnd_54.other W55 (Or.inl ne_b16_b20)
              have Vq29T_55 := Vq29T_54.other W55 ne_aT_b20
              have Z55 : n0 ≤ h55.size := Nat.le_trans Z54 (Keep.of_wr W55).1
              have N55 := Fr.snoc X55 N54 g_b20
              refine own_go st55 ?_
              show OwnFin p e below s _ _ _ (T55.setTop (mkF m 436 #[iv wa, iv wb, iv wc, iv wd, iv (Int32.ofNat n), iv (Int32.ofNat s0), iv fl, iv (Int32.ofNat w), iv (Int32.ofNat s0), iv (Int32.ofNat s1), iv (Int32.ofNat s2), rv b1, iv dr, iv (Int32.ofNat rr), rv b5, rv b9, rv b16, iv o19, rv b20, iv (((Int32.ofNat rr) * (4 : Int32)) + o19), iv (0 : Int32), .unset, .unset] []))
              refine own_go (fun t_ k_ => XS.goto X55.here hx rfl (pc0 := 436) (pc' := 492) rfl (hb hby at_436) (by decide) (by decide) k_) ?_
              show OwnFin p e below s _ _ _ (T55.setTop (mkF m 492 #[iv wa, iv wb, iv wc, iv wd, iv (Int32.ofNat n), iv (Int32.ofNat s0), iv fl, iv (Int32.ofNat w), iv (Int32.ofNat s0), iv (Int32.ofNat s1), iv (Int32.ofNat s2), rv b1, iv dr, iv (Int32.ofNat rr), rv b5, rv b9, rv b16, iv o19, rv b20, iv (((Int32.ofNat rr) * (4 : Int32)) + o19), iv (0 : Int32), .unset, .unset] []))
              refine own_go (fun t_ k_ => XS.aload X55.here hx rfl (hb hby at_492) rfl rfl k_) ?_
              show OwnFin p e below s _ _ _ (T55.setTop (mkF m 494 #[iv wa, iv wb, iv wc, iv wd, iv (Int32.ofNat n), iv (Int32.ofNat s0), iv fl, iv (Int32.ofNat w), iv (Int32.ofNat s0), iv (Int32.ofNat s1), iv (Int32.ofNat s2), rv b1, iv dr, iv (Int32.ofNat rr), rv b5, rv b9, rv b16, iv o19, rv b20, iv (((Int32.ofNat rr) * (4 : Int32)) + o19), iv (0 : Int32), .unset, .unset] [(.ref b20)]))
              refine own_go (fun t_ k_ => XS.iconst X55.here hx rfl (hb hby at_494) k_) ?_
              show OwnFin p e below s _ _ _ (T55.setTop (mkF m 495 #[iv wa, iv wb, iv wc, iv wd, iv (Int32.ofNat n), iv (Int32.ofNat s0), iv fl, iv (Int32.ofNat w), iv (Int32.ofNat s0), iv (Int32.ofNat s1), iv (Int32.ofNat s2), rv b1, iv dr, iv (Int32.ofNat rr), rv b5, rv b9, rv b16, iv o19, rv b20, iv (((Int32.ofNat rr) * (4 : Int32)) + o19), iv (0 : Int32), .unset, .unset] [(.int (3 : Int32)), (.ref b20)]))
              refine own_go (fun t_ k_ => XS.iconst X55.here hx rfl (hb hby at_495) k_) ?_
              show OwnFin p e below s _ _ _ (T55.setTop (mkF m 496 #[iv wa, iv wb, iv wc, iv wd, iv (Int32.ofNat n), iv (Int32.ofNat s0), iv fl, iv (Int32.ofNat w), iv (Int32.ofNat s0), iv (Int32.ofNat s1), iv (Int32.ofNat s2), rv b1, iv dr, iv (Int32.ofNat rr), rv b5, rv b9, rv b16, iv o19, rv b20, iv (((Int32.ofNat rr) * (4 : Int32)) + o19), iv (0 : Int32), .unset, .unset] [(.int (-1 : Int32)), (.int (3 : Int32)), (.ref b20)]))
              obtain ⟨T56, h56, X56, e56, W56, A56, st56⟩ := own_iastore X55 hx hZ e55 A55 (i := 3) (by decide) (by decide) (g := (mkF m 496 #[iv wa, iv wb, iv wc, iv wd, iv (Int32.ofNat n), iv (Int32.ofNat s0), iv fl, iv (Int32.ofNat w), iv (Int32.ofNat s0), iv (Int32.ofNat s1), iv (Int32.ofNat s2), rv b1, iv dr, iv (Int32.ofNat rr), rv b5, rv b9, rv b16, iv o19, rv b20, iv (((Int32.ofNat rr) * (4 : Int32)) + o19), iv (0 : Int32), .unset, .unset] [(.int (-1 : Int32)), (.int (3 : Int32)), (.ref b20)])) rfl rfl (hb hby at_496)
              have H0_56 := H0_55.other W56 ne_b1_b20
              have H1_56 := H1_55.other W56 ne_b5_b20
              have H2_56 := H2_55.other W56 ne_b9_b20
              have Eq29_56 := Eq29_55.wr W56
              have Vq18K_56 := Vq18K_55.other W56 ne_aK_b20
              have Fq29_keys_56 := Fq29_keys_55.other W56 (Or.inl ne_b16_b20)
              have Fq29_retaken_56 := Fq29_retaken_55.other W56 (Or.inl ne_b16_b20)
              have Fq29_offeredFrom_56 := Fq29_offeredFrom_55.other W56 (Or.inl ne_b16_b20)
              have Fq29_sorted_56 := Fq29_sorted_55.other W56 (Or.inl ne_b16_b20)
              have Fq29_nextKey_56 := Fq29_nextKey_55.other W56 (Or.inl ne_b16_b20)
              have Fq29_retakenAt_56 := Fq29_retakenAt_55.other W56 (Or.inl ne_b16_b20)
              have Fq29_retakenEnd_56 := Fq29_retakenEnd_55.other W56 (Or.inl ne_b16_b20)
              have Vq29T_56 := Vq29T_55.other W56 ne_aT_b20
              have Z56 : n0 ≤ h56.size := Nat.le_trans Z55 (Keep.of_wr W56).1
              have N56 := Fr.snoc X56 N55 g_b20
              refine own_go st56 ?_
              show OwnFin p e below s _ _ _ (T56.setTop (mkF m 497 #[iv wa, iv wb, iv wc, iv wd, iv (Int32.ofNat n), iv (Int32.ofNat s0), iv fl, iv (Int32.ofNat w), iv (Int32.ofNat s0), iv (Int32.ofNat s1), iv (Int32.ofNat s2), rv b1, iv dr, iv (Int32.ofNat rr), rv b5, rv b9, rv b16, iv o19, rv b20, iv (((Int32.ofNat rr) * (4 : Int32)) + o19), iv (0 : Int32), .unset, .unset] []))
              have hps : own_ps n (own_rn q0 q1 q2) (own_e n s0 s1 s2 q0 q1 q2 1) (own_e n s0 s1 s2 q0 q1 q2 2) (Int32.ofNat rr * 4 + o19) = 0 := by unfold own_ps; rw [if_neg (fun q => hc380 q.2), if_neg (fun q => hc389 (by rw [show (2 : Int32) = Int32.ofNat 2 from rfl, own_ltN (by decide) (by omega)]; exact q.1))]
              have hck := hR.2.2.2 rr hrr
              rw [hps] at hck
              have V_m : OwnArr Z h56 b20 .int 4 (fun k => .int (own_mp 0 o19 (own_e n s0 s1 s2 q0 q1 q2 1) (own_e n s0 s1 s2 q0 q1 q2 2) k)) := A56.congr (own_4c rfl rfl rfl rfl)
              have hck2 := hck
              have Frb : Fld Z h56 b16 "com/example/nearside/nearside/slotted/delay/FairBack" "retakenAt" "I" (.int (Int32.ofNat ra19)) := by rw [hra0]; exact Fq29_retakenAt_56
              exact tl2 _ (own_key (Int32.ofNat rr) o19) 1 _ _ _ T56 _ _ X56 e56 N56 Z56 H0_56 H1_56 H2_56 Eq29_56 Vq18K_56 Vq29T_56 Fq29_keys_56 Fq29_retaken_56 Fq29_offeredFrom_56 Fq29_sorted_56 Fq29_nextKey_56 Frb Fq29_retakenEnd_56 V_m (by decide) (fun _ => rfl) hck2 (One.val rfl) (One.val rfl)
        · refine own_go (fun t_ k_ => XS.icmpYes X29.here hx rfl (pc0 := 366) (pc' := 386) rfl (hb hby at_366) rfl (flt hc366).2.2.2 (by decide) (by decide) k_) ?_
          show OwnFin p e below s _ _ _ (T29.setTop (mkF m 386 #[iv wa, iv wb, iv wc, iv wd, iv (Int32.ofNat n), iv (Int32.ofNat s0), iv fl, iv (Int32.ofNat w), iv (Int32.ofNat s0), iv (Int32.ofNat s1), iv (Int32.ofNat s2), rv b1, iv dr, iv (Int32.ofNat rr), rv b5, rv b9, rv b16, iv o19, rv b20, iv (((Int32.ofNat rr) * (4 : Int32)) + o19), iv (0 : Int32), .unset, .unset] []))
          refine own_go (fun t_ k_ => XS.iload X29.here hx rfl (hb hby at_386) rfl k_) ?_
          show OwnFin p e below s _ _ _ (T29.setTop (mkF m 388 #[iv wa, iv wb, iv wc, iv wd, iv (Int32.ofNat n), iv (Int32.ofNat s0), iv fl, iv (Int32.ofNat w), iv (Int32.ofNat s0), iv (Int32.ofNat s1), iv (Int32.ofNat s2), rv b1, iv dr, iv (Int32.ofNat rr), rv b5, rv b9, rv b16, iv o19, rv b20, iv (((Int32.ofNat rr) * (4 : Int32)) + o19), iv (0 : Int32), .unset, .unset] [(.int (Int32.ofNat n))]))
          refine own_go (fun t_ k_ => XS.iconst X29.here hx rfl (hb hby at_388) k_) ?_
          show OwnFin p e below s _ _ _ (T29.setTop (mkF m 389 #[iv wa, iv wb, iv wc, iv wd, iv (Int32.ofNat n), iv (Int32.ofNat s0), iv fl, iv (Int32.ofNat w), iv (Int32.ofNat s0), iv (Int32.ofNat s1), iv (Int32.ofNat s2), rv b1, iv dr, iv (Int32.ofNat rr), rv b5, rv b9, rv b16, iv o19, rv b20, iv (((Int32.ofNat rr) * (4 : Int32)) + o19), iv (0 : Int32), .unset, .unset] [(.int (2 : Int32)), (.int (Int32.ofNat n))]))
          by_cases hc389 : (2 : Int32) < (Int32.ofNat n)
          · refine own_go (fun t_ k_ => XS.icmpNo X29.here hx rfl (hb hby at_389) rfl (tlt hc389).2.2.2 k_) ?_
            show OwnFin p e below s _ _ _ (T29.setTop (mkF m 392 #[iv wa, iv wb, iv wc, iv wd, iv (Int32.ofNat n), iv (Int32.ofNat s0), iv fl, iv (Int32.ofNat w), iv (Int32.ofNat s0), iv (Int32.ofNat s1), iv (Int32.ofNat s2), rv b1, iv dr, iv (Int32.ofNat rr), rv b5, rv b9, rv b16, iv o19, rv b20, iv (((Int32.ofNat rr) * (4 : Int32)) + o19), iv (0 : Int32), .unset, .unset] []))
            have h2n : 2 < n := by have q := hc389; rw [show (2 : Int32) = Int32.ofNat 2 from rfl, own_ltN (by decide) (by omega)] at q; exact q
            refine own_go (fun t_ k_ => XS.aload X29.here hx rfl (hb hby at_392) rfl rfl k_) ?_
            show OwnFin p e below s _ _ _ (T29.setTop (mkF m 394 #[iv wa, iv wb, iv wc, iv wd, iv (Int32.ofNat n), iv (Int32.ofNat s0), iv fl, iv (Int32.ofNat w), iv (Int32.ofNat s0), iv (Int32.ofNat s1), iv (Int32.ofNat s2), rv b1, iv dr, iv (Int32.ofNat rr), rv b5, rv b9, rv b16, iv o19, rv b20, iv (((Int32.ofNat rr) * (4 : Int32)) + o19), iv (0 : Int32), .unset, .unset] [(.ref b1)]))
            refine own_go (fun t_ k_ => XS.aload X29.here hx rfl (hb hby at_394) rfl rfl k_) ?_
            show OwnFin p e below s _ _ _ (T29.setTop (mkF m 396 #[iv wa, iv wb, iv wc, iv wd, iv (Int32.ofNat n), iv (Int32.ofNat s0), iv fl, iv (Int32.ofNat w), iv (Int32.ofNat s0), iv (Int32.ofNat s1), iv (Int32.ofNat s2), rv b1, iv dr, iv (Int32.ofNat rr), rv b5, rv b9, rv b16, iv o19, rv b20, iv (((Int32.ofNat rr) * (4 : Int32)) + o19), iv (0 : Int32), .unset, .unset] [(.ref b9), (.ref b1)]))
            refine own_go (fun t_ k_ => XS.iconst X29.here hx rfl (hb hby at_396) k_) ?_
            show OwnFin p e below s _ _ _ (T29.setTop (mkF m 397 #[iv wa, iv wb, iv wc, iv wd, iv (Int32.ofNat n), iv (Int32.ofNat s0), iv fl, iv (Int32.ofNat w), iv (Int32.ofNat s0), iv (Int32.ofNat s1), iv (Int32.ofNat s2), rv b1, iv dr, iv (Int32.ofNat rr), rv b5, rv b9, rv b16, iv o19, rv b20, iv (((Int32.ofNat rr) * (4 : Int32)) + o19), iv (0 : Int32), .unset, .unset] [(.int (2 : Int32)), (.ref b9), (.ref b1)]))
            refine own_go (own_iaload X29 hx hZ rfl H2_29 (i := 2) (by decide) (by decide) (g := (mkF m 397 #[iv wa, iv wb, iv wc, iv wd, iv (Int32.ofNat n), iv (Int32.ofNat s0), iv fl, iv (Int32.ofNat w), iv (Int32.ofNat s0), iv (Int32.ofNat s1), iv (Int32.ofNat s2), rv b1, iv dr, iv (Int32.ofNat rr), rv b5, rv b9, rv b16, iv o19, rv b20, iv (((Int32.ofNat rr) * (4 : Int32)) + o19), iv (0 : Int32), .unset, .unset] [(.int (2 : Int32)), (.ref b9), (.ref b1)])) rfl rfl (hb hby at_397)) ?_
            show OwnFin p e below s _ _ _ (T29.setTop (mkF m 398 #[iv wa, iv wb, iv wc, iv wd, iv (Int32.ofNat n), iv (Int32.ofNat s0), iv fl, iv (Int32.ofNat w), iv (Int32.ofNat s0), iv (Int32.ofNat s1), iv (Int32.ofNat s2), rv b1, iv dr, iv (Int32.ofNat rr), rv b5, rv b9, rv b16, iv o19, rv b20, iv (((Int32.ofNat rr) * (4 : Int32)) + o19), iv (0 : Int32), .unset, .unset] [(.int (own_e n s0 s1 s2 q0 q1 q2 2)), (.ref b1)]))
            obtain ⟨v57, T57, L57, X57, hQ57, st57⟩ := own_callS X29 hx hZ (y := (⟨"com/example/nearside/nearside/slotted/delay/FairBackNextPinLaw", "key", "([II)I"⟩ : MethodName)) hown (hw _ (List.mem_of_getElem? (i := 55) rfl)) (hw _ (List.mem_of_getElem? (i := 56) rfl)) (hw _ (List.mem_of_getElem? (i := 4) rfl)) (hw _ (List.mem_of_getElem? (i := 57) rfl)) (by decide) (W := 0) (rm8 l Z a0 hw [] b1 (own_e n s0 s1 s2 q0 q1 q2 2) (own_e n s0 s1 s2 q0 q1 q2 2).toNatClampNeg _ T29.heap n0 Z29 (own_isN2 (hR.2.2.1 h2n)).1 (own_isN2 (hR.2.2.1 h2n)).2 H0_29) (by decide) (by decide) (g := (mkF m 398 #[iv wa, iv wb, iv wc, iv wd, iv (Int32.ofNat n), iv (Int32.ofNat s0), iv fl, iv (Int32.ofNat w), iv (Int32.ofNat s0), iv (Int32.ofNat s1), iv (Int32.ofNat s2), rv b1, iv dr, iv (Int32.ofNat rr), rv b5, rv b9, rv b16, iv o19, rv b20, iv (((Int32.ofNat rr) * (4 : Int32)) + o19), iv (0 : Int32), .unset, .unset] [(.int (own_e n s0 s1 s2 q0 q1 q2 2)), (.ref b1)])) rfl (by rw [hml]; rfl) (argsL := [(.ref b1), (.int (own_e n s0 s1 s2 q0 q1 q2 2))]) (rest := []) (lenOf pd_0_7 rfl) rfl (by show 2 * 0 + _ ≤ _; exact Nat.le_of_eq rfl) (hb hby at_398) rfl rfl (by decide) (by decide)
            obtain ⟨rfl, Nq57, e57⟩ := hQ57
            have N57 := Fr.app N29 Nq57
            refine own_go st57 ?_
            show OwnFin p e below s _ _ _ (T57.setTop (mkF m 401 #[iv wa, iv wb, iv wc, iv wd, iv (Int32.ofNat n), iv (Int32.ofNat s0), iv fl, iv (Int32.ofNat w), iv (Int32.ofNat s0), iv (Int32.ofNat s1), iv (Int32.ofNat s2), rv b1, iv dr, iv (Int32.ofNat rr), rv b5, rv b9, rv b16, iv o19, rv b20, iv (((Int32.ofNat rr) * (4 : Int32)) + o19), iv (0 : Int32), .unset, .unset] [(.int ((own_rn q0 q1 q2 (own_e n s0 s1 s2 q0 q1 q2 2).toNatClampNeg) * (4 : Int32) + (own_e n s0 s1 s2 q0 q1 q2 2)))]))
            refine own_go (fun t_ k_ => XS.iload X57.here hx rfl (hb hby at_401) rfl k_) ?_
            show OwnFin p e below s _ _ _ (T57.setTop (mkF m 403 #[iv wa, iv wb, iv wc, iv wd, iv (Int32.ofNat n), iv (Int32.ofNat s0), iv fl, iv (Int32.ofNat w), iv (Int32.ofNat s0), iv (Int32.ofNat s1), iv (Int32.ofNat s2), rv b1, iv dr, iv (Int32.ofNat rr), rv b5, rv b9, rv b16, iv o19, rv b20, iv (((Int32.ofNat rr) * (4 : Int32)) + o19), iv (0 : Int32), .unset, .unset] [(.int (((Int32.ofNat rr) * (4 : Int32)) + o19)), (.int ((own_rn q0 q1 q2 (own_e n s0 s1 s2 q0 q1 q2 2).toNatClampNeg) * (4 : Int32) + (own_e n s0 s1 s2 q0 q1 q2 2)))]))
            by_cases hc403 : ((own_rn q0 q1 q2 (own_e n s0 s1 s2 q0 q1 q2 2).toNatClampNeg) * (4 : Int32) + (own_e n s0 s1 s2 q0 q1 q2 2)) < (((Int32.ofNat rr) * (4 : Int32)) + o19)
            · refine own_go (fun t_ k_ => XS.icmpNo X57.here hx rfl (hb hby at_403) rfl (tlt hc403).2.1 k_) ?_
              show OwnFin p e below s _ _ _ (T57.setTop (mkF m 406 #[iv wa, iv wb, iv wc, iv wd, iv (Int32.ofNat n), iv (Int32.ofNat s0), iv fl, iv (Int32.ofNat w), iv (Int32.ofNat s0), iv (Int32.ofNat s1), iv (Int32.ofNat s2), rv b1, iv dr, iv (Int32.ofNat rr), rv b5, rv b9, rv b16, iv o19, rv b20, iv (((Int32.ofNat rr) * (4 : Int32)) + o19), iv (0 : Int32), .unset, .unset] []))
              refine own_go (fun t_ k_ => XS.iinc X57.here hx rfl (hb hby at_406) rfl (l' := #[iv wa, iv wb, iv wc, iv wd, iv (Int32.ofNat n), iv (Int32.ofNat s0), iv fl, iv (Int32.ofNat w), iv (Int32.ofNat s0), iv (Int32.ofNat s1), iv (Int32.ofNat s2), rv b1, iv dr, iv (Int32.ofNat rr), rv b5, rv b9, rv b16, iv o19, rv b20, iv (((Int32.ofNat rr) * (4 : Int32)) + o19), iv (1 : Int32), .unset, .unset]) rfl k_) ?_
              show OwnFin p e below s _ _ _ (T57.setTop (mkF m 409 #[iv wa, iv wb, iv wc, iv wd, iv (Int32.ofNat n), iv (Int32.ofNat s0), iv fl, iv (Int32.ofNat w), iv (Int32.ofNat s0), iv (Int32.ofNat s1), iv (Int32.ofNat s2), rv b1, iv dr, iv (Int32.ofNat rr), rv b5, rv b9, rv b16, iv o19, rv b20, iv (((Int32.ofNat rr) * (4 : Int32)) + o19), iv (1 : Int32), .unset, .unset] []))
              refine own_go (fun t_ k_ => XS.iload X57.here hx rfl (hb hby at_409) rfl k_) ?_
              show OwnFin p e below s _ _ _ (T57.setTop (mkF m 411 #[iv wa, iv wb, iv wc, iv wd, iv (Int32.ofNat n), iv (Int32.ofNat s0), iv fl, iv (Int32.ofNat w), iv (Int32.ofNat s0), iv (Int32.ofNat s1), iv (Int32.ofNat s2), rv b1, iv dr, iv (Int32.ofNat rr), rv b5, rv b9, rv b16, iv o19, rv b20, iv (((Int32.ofNat rr) * (4 : Int32)) + o19), iv (1 : Int32), .unset, .unset] [(.int (1 : Int32))]))
              refine own_go (fun t_ k_ => XS.ifYes X57.here hx rfl (pc0 := 411) (pc' := 439) rfl (hb hby at_411) rfl ((if0 _ _).trans (feq (by decide)).2) (by decide) (by decide) k_) ?_
              show OwnFin p e below s _ _ _ (T57.setTop (mkF m 439 #[iv wa, iv wb, iv wc, iv wd, iv (Int32.ofNat n), iv (Int32.ofNat s0), iv fl, iv (Int32.ofNat w), iv (Int32.ofNat s0), iv (Int32.ofNat s1), iv (Int32.ofNat s2), rv b1, iv dr, iv (Int32.ofNat rr), rv b5, rv b9, rv b16, iv o19, rv b20, iv (((Int32.ofNat rr) * (4 : Int32)) + o19), iv (1 : Int32), .unset, .unset] []))
              refine own_go (fun t_ k_ => XS.iload X57.here hx rfl (hb hby at_439) rfl k_) ?_
              show OwnFin p e below s _ _ _ (T57.setTop (mkF m 441 #[iv wa, iv wb, iv wc, iv wd, iv (Int32.ofNat n), iv (Int32.ofNat s0), iv fl, iv (Int32.ofNat w), iv (Int32.ofNat s0), iv (Int32.ofNat s1), iv (Int32.ofNat s2), rv b1, iv dr, iv (Int32.ofNat rr), rv b5, rv b9, rv b16, iv o19, rv b20, iv (((Int32.ofNat rr) * (4 : Int32)) + o19), iv (1 : Int32), .unset, .unset] [(.int (1 : Int32))]))
              refine own_go (fun t_ k_ => XS.iconst X57.here hx rfl (hb hby at_441) k_) ?_
              show OwnFin p e below s _ _ _ (T57.setTop (mkF m 442 #[iv wa, iv wb, iv wc, iv wd, iv (Int32.ofNat n), iv (Int32.ofNat s0), iv fl, iv (Int32.ofNat w), iv (Int32.ofNat s0), iv (Int32.ofNat s1), iv (Int32.ofNat s2), rv b1, iv dr, iv (Int32.ofNat rr), rv b5, rv b9, rv b16, iv o19, rv b20, iv (((Int32.ofNat rr) * (4 : Int32)) + o19), iv (1 : Int32), .unset, .unset] [(.int (1 : Int32)), (.int (1 : Int32))]))
              refine own_go (fun t_ k_ => XS.icmpNo X57.here hx rfl (hb hby at_442) rfl (teq (by decide)).2 k_) ?_
              show OwnFin p e below s _ _ _ (T57.setTop (mkF m 445 #[iv wa, iv wb, iv wc, iv wd, iv (Int32.ofNat n), iv (Int32.ofNat s0), iv fl, iv (Int32.ofNat w), iv (Int32.ofNat s0), iv (Int32.ofNat s1), iv (Int32.ofNat s2), rv b1, iv dr, iv (Int32.ofNat rr), rv b5, rv b9, rv b16, iv o19, rv b20, iv (((Int32.ofNat rr) * (4 : Int32)) + o19), iv (1 : Int32), .unset, .unset] []))
              refine own_go (fun t_ k_ => XS.aload X57.here hx rfl (hb hby at_445) rfl rfl k_) ?_
              show OwnFin p e below s _ _ _ (T57.setTop (mkF m 447 #[iv wa, iv wb, iv wc, iv wd, iv (Int32.ofNat n), iv (Int32.ofNat s0), iv fl, iv (Int32.ofNat w), iv (Int32.ofNat s0), iv (Int32.ofNat s1), iv (Int32.ofNat s2), rv b1, iv dr, iv (Int32.ofNat rr), rv b5, rv b9, rv b16, iv o19, rv b20, iv (((Int32.ofNat rr) * (4 : Int32)) + o19), iv (1 : Int32), .unset, .unset] [(.ref b20)]))
              refine own_go (fun t_ k_ => XS.iconst X57.here hx rfl (hb hby at_447) k_) ?_
              show OwnFin p e below s _ _ _ (T57.setTop (mkF m 448 #[iv wa, iv wb, iv wc, iv wd, iv (Int32.ofNat n), iv (Int32.ofNat s0), iv fl, iv (Int32.ofNat w), iv (Int32.ofNat s0), iv (Int32.ofNat s1), iv (Int32.ofNat s2), rv b1, iv dr, iv (Int32.ofNat rr), rv b5, rv b9, rv b16, iv o19, rv b20, iv (((Int32.ofNat rr) * (4 : Int32)) + o19), iv (1 : Int32), .unset, .unset] [(.int (0 : Int32)), (.ref b20)]))
              refine own_go (fun t_ k_ => XS.aload X57.here hx rfl (hb hby at_448) rfl rfl k_) ?_
              show OwnFin p e below s _ _ _ (T57.setTop (mkF m 450 #[iv wa, iv wb, iv wc, iv wd, iv (Int32.ofNat n), iv (Int32.ofNat s0), iv fl, iv (Int32.ofNat w), iv (Int32.ofNat s0), iv (Int32.ofNat s1), iv (Int32.ofNat s2), rv b1, iv dr, iv (Int32.ofNat rr), rv b5, rv b9, rv b16, iv o19, rv b20, iv (((Int32.ofNat rr) * (4 : Int32)) + o19), iv (1 : Int32), .unset, .unset] [(.ref b9), (.int (0 : Int32)), (.ref b20)]))
              refine own_go (fun t_ k_ => XS.iconst X57.here hx rfl (hb hby at_450) k_) ?_
              show OwnFin p e below s _ _ _ (T57.setTop (mkF m 451 #[iv wa, iv wb, iv wc, iv wd, iv (Int32.ofNat n), iv (Int32.ofNat s0), iv fl, iv (Int32.ofNat w), iv (Int32.ofNat s0), iv (Int32.ofNat s1), iv (Int32.ofNat s2), rv b1, iv dr, iv (Int32.ofNat rr), rv b5, rv b9, rv b16, iv o19, rv b20, iv (((Int32.ofNat rr) * (4 : Int32)) + o19), iv (1 : Int32), .unset, .unset] [(.int (1 : Int32)), (.ref b9), (.int (0 : Int32)), (.ref b20)]))
              refine own_go (own_iaload X57 hx hZ e57 H2_29 (i := 1) (by decide) (by decide) (g := (mkF m 451 #[iv wa, iv wb, iv wc, iv wd, iv (Int32.ofNat n), iv (Int32.ofNat s0), iv fl, iv (Int32.ofNat w), iv (Int32.ofNat s0), iv (Int32.ofNat s1), iv (Int32.ofNat s2), rv b1, iv dr, iv (Int32.ofNat rr), rv b5, rv b9, rv b16, iv o19, rv b20, iv (((Int32.ofNat rr) * (4 : Int32)) + o19), iv (1 : Int32), .unset, .unset] [(.int (1 : Int32)), (.ref b9), (.int (0 : Int32)), (.ref b20)])) rfl rfl (hb hby at_451)) ?_
              show OwnFin p e below s _ _ _ (T57.setTop (mkF m 452 #[iv wa, iv wb, iv wc, iv wd, iv (Int32.ofNat n), iv (Int32.ofNat s0), iv fl, iv (Int32.ofNat w), iv (Int32.ofNat s0), iv (Int32.ofNat s1), iv (Int32.ofNat s2), rv b1, iv dr, iv (Int32.ofNat rr), rv b5, rv b9, rv b16, iv o19, rv b20, iv (((Int32.ofNat rr) * (4 : Int32)) + o19), iv (1 : Int32), .unset, .unset] [(.int (own_e n s0 s1 s2 q0 q1 q2 1)), (.int (0 : Int32)), (.ref b20)]))
              obtain ⟨T58, h58, X58, e58, W58, A58, st58⟩ := own_iastore X57 hx hZ e57 V_b20_29 (i := 0) (by decide) (by decide) (g := (mkF m 452 #[iv wa, iv wb, iv wc, iv wd, iv (Int32.ofNat n), iv (Int32.ofNat s0), iv fl, iv (Int32.ofNat w), iv (Int32.ofNat s0), iv (Int32.ofNat s1), iv (Int32.ofNat s2), rv b1, iv dr, iv (Int32.ofNat rr), rv b5, rv b9, rv b16, iv o19, rv b20, iv (((Int32.ofNat rr) * (4 : Int32)) + o19), iv (1 : Int32), .unset, .unset] [(.int (own_e n s0 s1 s2 q0 q1 q2 1)), (.int (0 : Int32)), (.ref b20)])) rfl rfl (hb hby at_452)
              have H0_58 := H0_29.other W58 ne_b1_b20
              have H1_58 := H1_29.other W58 ne_b5_b20
              have H2_58 := H2_29.other W58 ne_b9_b20
              have Eq29_58 := Eq29.wr W58
              have Vq18K_58 := Vq18K_29.other W58 ne_aK_b20
              have Fq29_keys_58 := Fq29_keys.other W58 (Or.inl ne_b16_b20)
              have Fq29_retaken_58 := Fq29_retaken.other W58 (Or.inl ne_b16_b20)
              have Fq29_offeredFrom_58 := Fq29_offeredFrom.other W58 (Or.inl ne_b16_b20)
              have Fq29_sorted_58 := Fq29_sorted.other W58 (Or.inl ne_b16_b20)
              have Fq29_nextKey_58 := Fq29_nextKey.other W58 (Or.inl ne_b16_b20)
              have Fq29_retakenAt_58 := Fq29_retakenAt.other W58 (Or.inl ne_b16_b20)
              have Fq29_retakenEnd_58 := Fq29_retakenEnd.other W58 (Or.inl ne_b16_b20)
              have Vq29T_58 := Vq29T.other W58 ne_aT_b20
              have Z58 : n0 ≤ h58.size := Nat.le_trans Z29 (Keep.of_wr W58).1
              have N58 := Fr.snoc X58 N57 g_b20
              refine own_go st58 ?_
              show OwnFin p e below s _ _ _ (T58.setTop (mkF m 453 #[iv wa, iv wb, iv wc, iv wd, iv (Int32.ofNat n), iv (Int32.ofNat s0), iv fl, iv (Int32.ofNat w), iv (Int32.ofNat s0), iv (Int32.ofNat s1), iv (Int32.ofNat s2), rv b1, iv dr, iv (Int32.ofNat rr), rv b5, rv b9, rv b16, iv o19, rv b20, iv (((Int32.ofNat rr) * (4 : Int32)) + o19), iv (1 : Int32), .unset, .unset] []))
              refine own_go (fun t_ k_ => XS.aload X58.here hx rfl (hb hby at_453) rfl rfl k_) ?_
              show OwnFin p e below s _ _ _ (T58.setTop (mkF m 455 #[iv wa, iv wb, iv wc, iv wd, iv (Int32.ofNat n), iv (Int32.ofNat s0), iv fl, iv (Int32.ofNat w), iv (Int32.ofNat s0), iv (Int32.ofNat s1), iv (Int32.ofNat s2), rv b1, iv dr, iv (Int32.ofNat rr), rv b5, rv b9, rv b16, iv o19, rv b20, iv (((Int32.ofNat rr) * (4 : Int32)) + o19), iv (1 : Int32), .unset, .unset] [(.ref b20)]))
              refine own_go (fun t_ k_ => XS.iconst X58.here hx rfl (hb hby at_455) k_) ?_
              show OwnFin p e below s _ _ _ (T58.setTop (mkF m 456 #[iv wa, iv wb, iv wc, iv wd, iv (Int32.ofNat n), iv (Int32.ofNat s0), iv fl, iv (Int32.ofNat w), iv (Int32.ofNat s0), iv (Int32.ofNat s1), iv (Int32.ofNat s2), rv b1, iv dr, iv (Int32.ofNat rr), rv b5, rv b9, rv b16, iv o19, rv b20, iv (((Int32.ofNat rr) * (4 : Int32)) + o19), iv (1 : Int32), .unset, .unset] [(.int (1 : Int32)), (.ref b20)]))
              refine own_go (fun t_ k_ => XS.iload X58.here hx rfl (hb hby at_456) rfl k_) ?_
              show OwnFin p e below s _ _ _ (T58.setTop (mkF m 458 #[iv wa, iv wb, iv wc, iv wd, iv (Int32.ofNat n), iv (Int32.ofNat s0), iv fl, iv (Int32.ofNat w), iv (Int32.ofNat s0), iv (Int32.ofNat s1), iv (Int32.ofNat s2), rv b1, iv dr, iv (Int32.ofNat rr), rv b5, rv b9, rv b16, iv o19, rv b20, iv (((Int32.ofNat rr) * (4 : Int32)) + o19), iv (1 : Int32), .unset, .unset] [(.int o19), (.int (1 : Int32)), (.ref b20)]))
              obtain ⟨T59, h59, X59, e59, W59, A59, st59⟩ := own_iastore X58 hx hZ e58 A58 (i := 1) (by decide) (by decide) (g := (mkF m 458 #[iv wa, iv wb, iv wc, iv wd, iv (Int32.ofNat n), iv (Int32.ofNat s0), iv fl, iv (Int32.ofNat w), iv (Int32.ofNat s0), iv (Int32.ofNat s1), iv (Int32.ofNat s2), rv b1, iv dr, iv (Int32.ofNat rr), rv b5, rv b9, rv b16, iv o19, rv b20, iv (((Int32.ofNat rr) * (4 : Int32)) + o19), iv (1 : Int32), .unset, .unset] [(.int o19), (.int (1 : Int32)), (.ref b20)])) rfl rfl (hb hby at_458)
              have H0_59 := H0_58.other W59 ne_b1_b20
              have H1_59 := H1_58.other W59 ne_b5_b20
              have H2_59 := H2_58.other W59 ne_b9_b20
              have Eq29_59 := Eq29_58.wr W59
              have Vq18K_59 := Vq18K_58.other W59 ne_aK_b20
              have Fq29_keys_59 := Fq29_keys_58.other W59 (Or.inl ne_b16_b20)
              have Fq29_retaken_59 := Fq29_retaken_58.other W59 (Or.inl ne_b16_b20)
              have Fq29_offeredFrom_59 := Fq29_offeredFrom_58.other W59 (Or.inl ne_b16_b20)
              have Fq29_sorted_59 := Fq29_sorted_58.other W59 (Or.inl ne_b16_b20)
              have Fq29_nextKey_59 := Fq29_nextKey_58.other W59 (Or.inl ne_b16_b20)
              have Fq29_retakenAt_59 := Fq29_retakenAt_58.other W59 (Or.inl ne_b16_b20)
              have Fq29_retakenEnd_59 := Fq29_retakenEnd_58.other W59 (Or.inl ne_b16_b20)
              have Vq29T_59 := Vq29T_58.other W59 ne_aT_b20
              have Z59 : n0 ≤ h59.size := Nat.le_trans Z58 (Keep.of_wr W59).1
              have N59 := Fr.snoc X59 N58 g_b20
              refine own_go st59 ?_
              show OwnFin p e below s _ _ _ (T59.setTop (mkF m 459 #[iv wa, iv wb, iv wc, iv wd, iv (Int32.ofNat n), iv (Int32.ofNat s0), iv fl, iv (Int32.ofNat w), iv (Int32.ofNat s0), iv (Int32.ofNat s1), iv (Int32.ofNat s2), rv b1, iv dr, iv (Int32.ofNat rr), rv b5, rv b9, rv b16, iv o19, rv b20, iv (((Int32.ofNat rr) * (4 : Int32)) + o19), iv (1 : Int32), .unset, .unset] []))
              refine own_go (fun t_ k_ => XS.aload X59.here hx rfl (hb hby at_459) rfl rfl k_) ?_
              show OwnFin p e below s _ _ _ (T59.setTop (mkF m 461 #[iv wa, iv wb, iv wc, iv wd, iv (Int32.ofNat n), iv (Int32.ofNat s0), iv fl, iv (Int32.ofNat w), iv (Int32.ofNat s0), iv (Int32.ofNat s1), iv (Int32.ofNat s2), rv b1, iv dr, iv (Int32.ofNat rr), rv b5, rv b9, rv b16, iv o19, rv b20, iv (((Int32.ofNat rr) * (4 : Int32)) + o19), iv (1 : Int32), .unset, .unset] [(.ref b20)]))
              refine own_go (fun t_ k_ => XS.iconst X59.here hx rfl (hb hby at_461) k_) ?_
              show OwnFin p e below s _ _ _ (T59.setTop (mkF m 462 #[iv wa, iv wb, iv wc, iv wd, iv (Int32.ofNat n), iv (Int32.ofNat s0), iv fl, iv (Int32.ofNat w), iv (Int32.ofNat s0), iv (Int32.ofNat s1), iv (Int32.ofNat s2), rv b1, iv dr, iv (Int32.ofNat rr), rv b5, rv b9, rv b16, iv o19, rv b20, iv (((Int32.ofNat rr) * (4 : Int32)) + o19), iv (1 : Int32), .unset, .unset] [(.int (2 : Int32)), (.ref b20)]))
              refine own_go (fun t_ k_ => XS.aload X59.here hx rfl (hb hby at_462) rfl rfl k_) ?_
              show OwnFin p e below s _ _ _ (T59.setTop (mkF m 464 #[iv wa, iv wb, iv wc, iv wd, iv (Int32.ofNat n), iv (Int32.ofNat s0), iv fl, iv (Int32.ofNat w), iv (Int32.ofNat s0), iv (Int32.ofNat s1), iv (Int32.ofNat s2), rv b1, iv dr, iv (Int32.ofNat rr), rv b5, rv b9, rv b16, iv o19, rv b20, iv (((Int32.ofNat rr) * (4 : Int32)) + o19), iv (1 : Int32), .unset, .unset] [(.ref b9), (.int (2 : Int32)), (.ref b20)]))
              refine own_go (fun t_ k_ => XS.iconst X59.here hx rfl (hb hby at_464) k_) ?_
              show OwnFin p e below s _ _ _ (T59.setTop (mkF m 465 #[iv wa, iv wb, iv wc, iv wd, iv (Int32.ofNat n), iv (Int32.ofNat s0), iv fl, iv (Int32.ofNat w), iv (Int32.ofNat s0), iv (Int32.ofNat s1), iv (Int32.ofNat s2), rv b1, iv dr, iv (Int32.ofNat rr), rv b5, rv b9, rv b16, iv o19, rv b20, iv (((Int32.ofNat rr) * (4 : Int32)) + o19), iv (1 : Int32), .unset, .unset] [(.int (2 : Int32)), (.ref b9), (.int (2 : Int32)), (.ref b20)]))
              refine own_go (own_iaload X59 hx hZ e59 H2_59 (i := 2) (by decide) (by decide) (g := (mkF m 465 #[iv wa, iv wb, iv wc, iv wd, iv (Int32.ofNat n), iv (Int32.ofNat s0), iv fl, iv (Int32.ofNat w), iv (Int32.ofNat s0), iv (Int32.ofNat s1), iv (Int32.ofNat s2), rv b1, iv dr, iv (Int32.ofNat rr), rv b5, rv b9, rv b16, iv o19, rv b20, iv (((Int32.ofNat rr) * (4 : Int32)) + o19), iv (1 : Int32), .unset, .unset] [(.int (2 : Int32)), (.ref b9), (.int (2 : Int32)), (.ref b20)])) rfl rfl (hb hby at_465)) ?_
              show OwnFin p e below s _ _ _ (T59.setTop (mkF m 466 #[iv wa, iv wb, iv wc, iv wd, iv (Int32.ofNat n), iv (Int32.ofNat s0), iv fl, iv (Int32.ofNat w), iv (Int32.ofNat s0), iv (Int32.ofNat s1), iv (Int32.ofNat s2), rv b1, iv dr, iv (Int32.ofNat rr), rv b5, rv b9, rv b16, iv o19, rv b20, iv (((Int32.ofNat rr) * (4 : Int32)) + o19), iv (1 : Int32), .unset, .unset] [(.int (own_e n s0 s1 s2 q0 q1 q2 2)), (.int (2 : Int32)), (.ref b20)]))
              obtain ⟨T60, h60, X60, e60, W60, A60, st60⟩ := own_iastore X59 hx hZ e59 A59 (i := 2) (by decide) (by decide) (g := (mkF m 466 #[iv wa, iv wb, iv wc, iv wd, iv (Int32.ofNat n), iv (Int32.ofNat s0), iv fl, iv (Int32.ofNat w), iv (Int32.ofNat s0), iv (Int32.ofNat s1), iv (Int32.ofNat s2), rv b1, iv dr, iv (Int32.ofNat rr), rv b5, rv b9, rv b16, iv o19, rv b20, iv (((Int32.ofNat rr) * (4 : Int32)) + o19), iv (1 : Int32), .unset, .unset] [(.int (own_e n s0 s1 s2 q0 q1 q2 2)), (.int (2 : Int32)), (.ref b20)])) rfl rfl (hb hby at_466)
              have H0_60 := H0_59.other W60 ne_b1_b20
              have H1_60 := H1_59.other W60 ne_b5_b20
              have H2_60 := H2_59.other W60 ne_b9_b20
              have Eq29_60 := Eq29_59.wr W60
              have Vq18K_60 := Vq18K_59.other W60 ne_aK_b20
              have Fq29_keys_60 := Fq29_keys_59.other W60 (Or.inl ne_b16_b20)
              have Fq29_retaken_60 := Fq29_retaken_59.other W60 (Or.inl ne_b16_b20)
              have Fq29_offeredFrom_60 := Fq29_offeredFrom_59.other W60 (Or.inl ne_b16_b20)
              have Fq29_sorted_60 := Fq29_sorted_59.other W60 (Or.inl ne_b16_b20)
              have Fq29_nextKey_60 := Fq29_nextKey_59.other W60 (Or.inl ne_b16_b20)
              have Fq29_retakenAt_60 := Fq29_retakenAt_59.other W60 (Or.inl ne_b16_b20)
              have Fq29_retakenEnd_60 := Fq29_retakenEnd_59.other W60 (Or.inl ne_b16_b20)
              have Vq29T_60 := Vq29T_59.other W60 ne_aT_b20
              have Z60 : n0 ≤ h60.size := Nat.le_trans Z59 (Keep.of_wr W60).1
              have N60 := Fr.snoc X60 N59 g_b20
              refine own_go st60 ?_
              show OwnFin p e below s _ _ _ (T60.setTop (mkF m 467 #[iv wa, iv wb, iv wc, iv wd, iv (Int32.ofNat n), iv (Int32.ofNat s0), iv fl, iv (Int32.ofNat w), iv (Int32.ofNat s0), iv (Int32.ofNat s1), iv (Int32.ofNat s2), rv b1, iv dr, iv (Int32.ofNat rr), rv b5, rv b9, rv b16, iv o19, rv b20, iv (((Int32.ofNat rr) * (4 : Int32)) + o19), iv (1 : Int32), .unset, .unset] []))
              refine own_go (fun t_ k_ => XS.goto X60.here hx rfl (pc0 := 467) (pc' := 492) rfl (hb hby at_467) (by decide) (by decide) k_) ?_
              show OwnFin p e below s _ _ _ (T60.setTop (mkF m 492 #[iv wa, iv wb, iv wc, iv wd, iv (Int32.ofNat n), iv (Int32.ofNat s0), iv fl, iv (Int32.ofNat w), iv (Int32.ofNat s0), iv (Int32.ofNat s1), iv (Int32.ofNat s2), rv b1, iv dr, iv (Int32.ofNat rr), rv b5, rv b9, rv b16, iv o19, rv b20, iv (((Int32.ofNat rr) * (4 : Int32)) + o19), iv (1 : Int32), .unset, .unset] []))
              refine own_go (fun t_ k_ => XS.aload X60.here hx rfl (hb hby at_492) rfl rfl k_) ?_
              show OwnFin p e below s _ _ _ (T60.setTop (mkF m 494 #[iv wa, iv wb, iv wc, iv wd, iv (Int32.ofNat n), iv (Int32.ofNat s0), iv fl, iv (Int32.ofNat w), iv (Int32.ofNat s0), iv (Int32.ofNat s1), iv (Int32.ofNat s2), rv b1, iv dr, iv (Int32.ofNat rr), rv b5, rv b9, rv b16, iv o19, rv b20, iv (((Int32.ofNat rr) * (4 : Int32)) + o19), iv (1 : Int32), .unset, .unset] [(.ref b20)]))
              refine own_go (fun t_ k_ => XS.iconst X60.here hx rfl (hb hby at_494) k_) ?_
              show OwnFin p e below s _ _ _ (T60.setTop (mkF m 495 #[iv wa, iv wb, iv wc, iv wd, iv (Int32.ofNat n), iv (Int32.ofNat s0), iv fl, iv (Int32.ofNat w), iv (Int32.ofNat s0), iv (Int32.ofNat s1), iv (Int32.ofNat s2), rv b1, iv dr, iv (Int32.ofNat rr), rv b5, rv b9, rv b16, iv o19, rv b20, iv (((Int32.ofNat rr) * (4 : Int32)) + o19), iv (1 : Int32), .unset, .unset] [(.int (3 : Int32)), (.ref b20)]))
              refine own_go (fun t_ k_ => XS.iconst X60.here hx rfl (hb hby at_495) k_) ?_
              show OwnFin p e below s _ _ _ (T60.setTop (mkF m 496 #[iv wa, iv wb, iv wc, iv wd, iv (Int32.ofNat n), iv (Int32.ofNat s0), iv fl, iv (Int32.ofNat w), iv (Int32.ofNat s0), iv (Int32.ofNat s1), iv (Int32.ofNat s2), rv b1, iv dr, iv (Int32.ofNat rr), rv b5, rv b9, rv b16, iv o19, rv b20, iv (((Int32.ofNat rr) * (4 : Int32)) + o19), iv (1 : Int32), .unset, .unset] [(.int (-1 : Int32)), (.int (3 : Int32)), (.ref b20)]))
              obtain ⟨T61, h61, X61, e61, W61, A61, st61⟩ := own_iastore X60 hx hZ e60 A60 (i := 3) (by decide) (by decide) (g := (mkF m 496 #[iv wa, iv wb, iv wc, iv wd, iv (Int32.ofNat n), iv (Int32.ofNat s0), iv fl, iv (Int32.ofNat w), iv (Int32.ofNat s0), iv (Int32.ofNat s1), iv (Int32.ofNat s2), rv b1, iv dr, iv (Int32.ofNat rr), rv b5, rv b9, rv b16, iv o19, rv b20, iv (((Int32.ofNat rr) * (4 : Int32)) + o19), iv (1 : Int32), .unset, .unset] [(.int (-1 : Int32)), (.int (3 : Int32)), (.ref b20)])) rfl rfl (hb hby at_496)
              have H0_61 := H0_60.other W61 ne_b1_b20
              have H1_61 := H1_60.other W61 ne_b5_b20
              have H2_61 := H2_60.other W61 ne_b9_b20
              have Eq29_61 := Eq29_60.wr W61
              have Vq18K_61 := Vq18K_60.other W61 ne_aK_b20
              have Fq29_keys_61 := Fq29_keys_60.other W61 (Or.inl ne_b16_b20)
              have Fq29_retaken_61 := Fq29_retaken_60.other W61 (Or.inl ne_b16_b20)
              have Fq29_offeredFrom_61 := Fq29_offeredFrom_60.other W61 (Or.inl ne_b16_b20)
              have Fq29_sorted_61 := Fq29_sorted_60.other W61 (Or.inl ne_b16_b20)
              have Fq29_nextKey_61 := Fq29_nextKey_60.other W61 (Or.inl ne_b16_b20)
              have Fq29_retakenAt_61 := Fq29_retakenAt_60.other W61 (Or.inl ne_b16_b20)
              have Fq29_retakenEnd_61 := Fq29_retakenEnd_60.other W61 (Or.inl ne_b16_b20)
              have Vq29T_61 := Vq29T_60.other W61 ne_aT_b20
              have Z61 : n0 ≤ h61.size := Nat.le_trans Z60 (Keep.of_wr W61).1
              have N61 := Fr.snoc X61 N60 g_b20
              refine own_go st61 ?_
              show OwnFin p e below s _ _ _ (T61.setTop (mkF m 497 #[iv wa, iv wb, iv wc, iv wd, iv (Int32.ofNat n), iv (Int32.ofNat s0), iv fl, iv (Int32.ofNat w), iv (Int32.ofNat s0), iv (Int32.ofNat s1), iv (Int32.ofNat s2), rv b1, iv dr, iv (Int32.ofNat rr), rv b5, rv b9, rv b16, iv o19, rv b20, iv (((Int32.ofNat rr) * (4 : Int32)) + o19), iv (1 : Int32), .unset, .unset] []))
              have hps : own_ps n (own_rn q0 q1 q2) (own_e n s0 s1 s2 q0 q1 q2 1) (own_e n s0 s1 s2 q0 q1 q2 2) (Int32.ofNat rr * 4 + o19) = 1 := by unfold own_ps; rw [if_neg (fun q => hc366 (by rw [show (1 : Int32) = Int32.ofNat 1 from rfl, own_ltN (by decide) (by omega)]; exact q.1)), if_pos ⟨h2n, hc403⟩]
              have hck := hR.2.2.2 rr hrr
              rw [hps] at hck
              have V_m : OwnArr Z h61 b20 .int 4 (fun k => .int (own_mp 1 o19 (own_e n s0 s1 s2 q0 q1 q2 1) (own_e n s0 s1 s2 q0 q1 q2 2) k)) := A61.congr (own_4c rfl rfl rfl rfl)
              have hck2 := hck
              have Frb : Fld Z h61 b16 "com/example/nearside/nearside/slotted/delay/FairBack" "retakenAt" "I" (.int (Int32.ofNat ra19)) := by rw [hra0]; exact Fq29_retakenAt_61
              exact tl2 _ (own_key (Int32.ofNat rr) o19) 1 _ _ _ T61 _ _ X61 e61 N61 Z61 H0_61 H1_61 H2_61 Eq29_61 Vq18K_61 Vq29T_61 Fq29_keys_61 Fq29_retaken_61 Fq29_offeredFrom_61 Fq29_sorted_61 Fq29_nextKey_61 Frb Fq29_retakenEnd_61 V_m (by decide) (fun _ => rfl) hck2 (One.val rfl) (One.val rfl)
            · refine own_go (fun t_ k_ => XS.icmpYes X57.here hx rfl (pc0 := 403) (pc' := 409) rfl (hb hby at_403) rfl (flt hc403).2.1 (by decide) (by decide) k_) ?_
              show OwnFin p e below s _ _ _ (T57.setTop (mkF m 409 #[iv wa, iv wb, iv wc, iv wd, iv (Int32.ofNat n), iv (Int32.ofNat s0), iv fl, iv (Int32.ofNat w), iv (Int32.ofNat s0), iv (Int32.ofNat s1), iv (Int32.ofNat s2), rv b1, iv dr, iv (Int32.ofNat rr), rv b5, rv b9, rv b16, iv o19, rv b20, iv (((Int32.ofNat rr) * (4 : Int32)) + o19), iv (0 : Int32), .unset, .unset] []))
              refine own_go (fun t_ k_ => XS.iload X57.here hx rfl (hb hby at_409) rfl k_) ?_
              show OwnFin p e below s _ _ _ (T57.setTop (mkF m 411 #[iv wa, iv wb, iv wc, iv wd, iv (Int32.ofNat n), iv (Int32.ofNat s0), iv fl, iv (Int32.ofNat w), iv (Int32.ofNat s0), iv (Int32.ofNat s1), iv (Int32.ofNat s2), rv b1, iv dr, iv (Int32.ofNat rr), rv b5, rv b9, rv b16, iv o19, rv b20, iv (((Int32.ofNat rr) * (4 : Int32)) + o19), iv (0 : Int32), .unset, .unset] [(.int (0 : Int32))]))
              refine own_go (fun t_ k_ => XS.ifNo X57.here hx rfl (hb hby at_411) rfl ((if0 _ _).trans (teq (by decide)).2) k_) ?_
              show OwnFin p e below s _ _ _ (T57.setTop (mkF m 414 #[iv wa, iv wb, iv wc, iv wd, iv (Int32.ofNat n), iv (Int32.ofNat s0), iv fl, iv (Int32.ofNat w), iv (Int32.ofNat s0), iv (Int32.ofNat s1), iv (Int32.ofNat s2), rv b1, iv dr, iv (Int32.ofNat rr), rv b5, rv b9, rv b16, iv o19, rv b20, iv (((Int32.ofNat rr) * (4 : Int32)) + o19), iv (0 : Int32), .unset, .unset] []))
              refine own_go (fun t_ k_ => XS.aload X57.here hx rfl (hb hby at_414) rfl rfl k_) ?_
              show OwnFin p e below s _ _ _ (T57.setTop (mkF m 416 #[iv wa, iv wb, iv wc, iv wd, iv (Int32.ofNat n), iv (Int32.ofNat s0), iv fl, iv (Int32.ofNat w), iv (Int32.ofNat s0), iv (Int32.ofNat s1), iv (Int32.ofNat s2), rv b1, iv dr, iv (Int32.ofNat rr), rv b5, rv b9, rv b16, iv o19, rv b20, iv (((Int32.ofNat rr) * (4 : Int32)) + o19), iv (0 : Int32), .unset, .unset] [(.ref b20)]))
              refine own_go (fun t_ k_ => XS.iconst X57.here hx rfl (hb hby at_416) k_) ?_
              show OwnFin p e below s _ _ _ (T57.setTop (mkF m 417 #[iv wa, iv wb, iv wc, iv wd, iv (Int32.ofNat n), iv (Int32.ofNat s0), iv fl, iv (Int32.ofNat w), iv (Int32.ofNat s0), iv (Int32.ofNat s1), iv (Int32.ofNat s2), rv b1, iv dr, iv (Int32.ofNat rr), rv b5, rv b9, rv b16, iv o19, rv b20, iv (((Int32.ofNat rr) * (4 : Int32)) + o19), iv (0 : Int32), .unset, .unset] [(.int (0 : Int32)), (.ref b20)]))
              refine own_go (fun t_ k_ => XS.iload X57.here hx rfl (hb hby at_417) rfl k_) ?_
              show OwnFin p e below s _ _ _ (T57.setTop (mkF m 419 #[iv wa, iv wb, iv wc, iv wd, iv (Int32.ofNat n), iv (Int32.ofNat s0), iv fl, iv (Int32.ofNat w), iv (Int32.ofNat s0), iv (Int32.ofNat s1), iv (Int32.ofNat s2), rv b1, iv dr, iv (Int32.ofNat rr), rv b5, rv b9, rv b16, iv o19, rv b20, iv (((Int32.ofNat rr) * (4 : Int32)) + o19), iv (0 : Int32), .unset, .unset] [(.int o19), (.int (0 : Int32)), (.ref b20)]))
              obtain ⟨T62, h62, X62, e62, W62, A62, st62⟩ := own_iastore X57 hx hZ e57 V_b20_29 (i := 0) (by decide) (by decide) (g := (mkF m 419 #[iv wa, iv wb, iv wc, iv wd, iv (Int32.ofNat n), iv (Int32.ofNat s0), iv fl, iv (Int32.ofNat w), iv (Int32.ofNat s0), iv (Int32.ofNat s1), iv (Int32.ofNat s2), rv b1, iv dr, iv (Int32.ofNat rr), rv b5, rv b9, rv b16, iv o19, rv b20, iv (((Int32.ofNat rr) * (4 : Int32)) + o19), iv (0 : Int32), .unset, .unset] [(.int o19), (.int (0 : Int32)), (.ref b20)])) rfl rfl (hb hby at_419)
              have H0_62 := H0_29.other W62 ne_b1_b20
              have H1_62 := H1_29.other W62 ne_b5_b20
              have H2_62 := H2_29.other W62 ne_b9_b20
              have Eq29_62 := Eq29.wr W62
              have Vq18K_62 := Vq18K_29.other W62 ne_aK_b20
              have Fq29_keys_62 := Fq29_keys.other W62 (Or.inl ne_b16_b20)
              have Fq29_retaken_62 := Fq29_retaken.other W62 (Or.inl ne_b16_b20)
              have Fq29_offeredFrom_62 := Fq29_offeredFrom.other W62 (Or.inl ne_b16_b20)
              have Fq29_sorted_62 := Fq29_sorted.other W62 (Or.inl ne_b16_b20)
              have Fq29_nextKey_62 := Fq29_nextKey.other W62 (Or.inl ne_b16_b20)
              have Fq29_retakenAt_62 := Fq29_retakenAt.other W62 (Or.inl ne_b16_b20)
              have Fq29_retakenEnd_62 := Fq29_retakenEnd.other W62 (Or.inl ne_b16_b20)
              have Vq29T_62 := Vq29T.other W62 ne_aT_b20
              have Z62 : n0 ≤ h62.size := Nat.le_trans Z29 (Keep.of_wr W62).1
              have N62 := Fr.snoc X62 N57 g_b20
              refine own_go st62 ?_
              show OwnFin p e below s _ _ _ (T62.setTop (mkF m 420 #[iv wa, iv wb, iv wc, iv wd, iv (Int32.ofNat n), iv (Int32.ofNat s0), iv fl, iv (Int32.ofNat w), iv (Int32.ofNat s0), iv (Int32.ofNat s1), iv (Int32.ofNat s2), rv b1, iv dr, iv (Int32.ofNat rr), rv b5, rv b9, rv b16, iv o19, rv b20, iv (((Int32.ofNat rr) * (4 : Int32)) + o19), iv (0 : Int32), .unset, .unset] []))
              refine own_go (fun t_ k_ => XS.aload X62.here hx rfl (hb hby at_420) rfl rfl k_) ?_
              show OwnFin p e below s _ _ _ (T62.setTop (mkF m 422 #[iv wa, iv wb, iv wc, iv wd, iv (Int32.ofNat n), iv (Int32.ofNat s0), iv fl, iv (Int32.ofNat w), iv (Int32.ofNat s0), iv (Int32.ofNat s1), iv (Int32.ofNat s2), rv b1, iv dr, iv (Int32.ofNat rr), rv b5, rv b9, rv b16, iv o19, rv b20, iv (((Int32.ofNat rr) * (4 : Int32)) + o19), iv (0 : Int32), .unset, .unset] [(.ref b20)]))
              refine own_go (fun t_ k_ => XS.iconst X62.here hx rfl (hb hby at_422) k_) ?_
              show OwnFin p e below s _ _ _ (T62.setTop (mkF m 423 #[iv wa, iv wb, iv wc, iv wd, iv (Int32.ofNat n), iv (Int32.ofNat s0), iv fl, iv (Int32.ofNat w), iv (Int32.ofNat s0), iv (Int32.ofNat s1), iv (Int32.ofNat s2), rv b1, iv dr, iv (Int32.ofNat rr), rv b5, rv b9, rv b16, iv o19, rv b20, iv (((Int32.ofNat rr) * (4 : Int32)) + o19), iv (0 : Int32), .unset, .unset] [(.int (1 : Int32)), (.ref b20)]))
              refine own_go (fun t_ k_ => XS.aload X62.here hx rfl (hb hby at_423) rfl rfl k_) ?_
              show OwnFin p e below s _ _ _ (T62.setTop (mkF m 425 #[iv wa, iv wb, iv wc, iv wd, iv (Int32.ofNat n), iv (Int32.ofNat s0), iv fl, iv (Int32.ofNat w), iv (Int32.ofNat s0), iv (Int32.ofNat s1), iv (Int32.ofNat s2), rv b1, iv dr, iv (Int32.ofNat rr), rv b5, rv b9, rv b16, iv o19, rv b20, iv (((Int32.ofNat rr) * (4 : Int32)) + o19), iv (0 : Int32), .unset, .unset] [(.ref b9), (.int (1 : Int32)), (.ref b20)]))
              refine own_go (fun t_ k_ => XS.iconst X62.here hx rfl (hb hby at_425) k_) ?_
              show OwnFin p e below s _ _ _ (T62.setTop (mkF m 426 #[iv wa, iv wb, iv wc, iv wd, iv (Int32.ofNat n), iv (Int32.ofNat s0), iv fl, iv (Int32.ofNat w), iv (Int32.ofNat s0), iv (Int32.ofNat s1), iv (Int32.ofNat s2), rv b1, iv dr, iv (Int32.ofNat rr), rv b5, rv b9, rv b16, iv o19, rv b20, iv (((Int32.ofNat rr) * (4 : Int32)) + o19), iv (0 : Int32), .unset, .unset] [(.int (1 : Int32)), (.ref b9), (.int (1 : Int32)), (.ref b20)]))
              refine own_go (own_iaload X62 hx hZ e62 H2_62 (i := 1) (by decide) (by decide) (g := (mkF m 426 #[iv wa, iv wb, iv wc, iv wd, iv (Int32.ofNat n), iv (Int32.ofNat s0), iv fl, iv (Int32.ofNat w), iv (Int32.ofNat s0), iv (Int32.ofNat s1), iv (Int32.ofNat s2), rv b1, iv dr, iv (Int32.ofNat rr), rv b5, rv b9, rv b16, iv o19, rv b20, iv (((Int32.ofNat rr) * (4 : Int32)) + o19), iv (0 : Int32), .unset, .unset] [(.int (1 : Int32)), (.ref b9), (.int (1 : Int32)), (.ref b20)])) rfl rfl (hb hby at_426)) ?_
              show OwnFin p e below s _ _ _ (T62.setTop (mkF m 427 #[iv wa, iv wb, iv wc, iv wd, iv (Int32.ofNat n), iv (Int32.ofNat s0), iv fl, iv (Int32.ofNat w), iv (Int32.ofNat s0), iv (Int32.ofNat s1), iv (Int32.ofNat s2), rv b1, iv dr, iv (Int32.ofNat rr), rv b5, rv b9, rv b16, iv o19, rv b20, iv (((Int32.ofNat rr) * (4 : Int32)) + o19), iv (0 : Int32), .unset, .unset] [(.int (own_e n s0 s1 s2 q0 q1 q2 1)), (.int (1 : Int32)), (.ref b20)]))
              obtain ⟨T63, h63, X63, e63, W63, A63, st63⟩ := own_iastore X62 hx hZ e62 A62 (i := 1) (by decide) (by decide) (g := (mkF m 427 #[iv wa, iv wb, iv wc, iv wd, iv (Int32.ofNat n), iv (Int32.ofNat s0), iv fl, iv (Int32.ofNat w), iv (Int32.ofNat s0), iv (Int32.ofNat s1), iv (Int32.ofNat s2), rv b1, iv dr, iv (Int32.ofNat rr), rv b5, rv b9, rv b16, iv o19, rv b20, iv (((Int32.ofNat rr) * (4 : Int32)) + o19), iv (0 : Int32), .unset, .unset] [(.int (own_e n s0 s1 s2 q0 q1 q2 1)), (.int (1 : Int32)), (.ref b20)])) rfl rfl (hb hby at_427)
              have H0_63 := H0_62.other W63 ne_b1_b20
              have H1_63 := H1_62.other W63 ne_b5_b20
              have H2_63 := H2_62.other W63 ne_b9_b20
              have Eq29_63 := Eq29_62.wr W63
              have Vq18K_63 := Vq18K_62.other W63 ne_aK_b20
              have Fq29_keys_63 := Fq29_keys_62.other W63 (Or.inl ne_b16_b20)
              have Fq29_retaken_63 := Fq29_retaken_62.other W63 (Or.inl ne_b16_b20)
              have Fq29_offeredFrom_63 := Fq29_offeredFrom_62.other W63 (Or.inl ne_b16_b20)
              have Fq29_sorted_63 := Fq29_sorted_62.other W63 (Or.inl ne_b16_b20)
              have Fq29_nextKey_63 := Fq29_nextKey_62.other W63 (Or.inl ne_b16_b20)
              have Fq29_retakenAt_63 := Fq29_retakenAt_62.other W63 (Or.inl ne_b16_b20)
              have Fq29_retakenEnd_63 := Fq29_retakenEnd_62.other W63 (Or.inl ne_b16_b20)
              have Vq29T_63 := Vq29T_62.other W63 ne_aT_b20
              have Z63 : n0 ≤ h63.size := Nat.le_trans Z62 (Keep.of_wr W63).1
              have N63 := Fr.snoc X63 N62 g_b20
              refine own_go st63 ?_
              show OwnFin p e below s _ _ _ (T63.setTop (mkF m 428 #[iv wa, iv wb, iv wc, iv wd, iv (Int32.ofNat n), iv (Int32.ofNat s0), iv fl, iv (Int32.ofNat w), iv (Int32.ofNat s0), iv (Int32.ofNat s1), iv (Int32.ofNat s2), rv b1, iv dr, iv (Int32.ofNat rr), rv b5, rv b9, rv b16, iv o19, rv b20, iv (((Int32.ofNat rr) * (4 : Int32)) + o19), iv (0 : Int32), .unset, .unset] []))
              refine own_go (fun t_ k_ => XS.aload X63.here hx rfl (hb hby at_428) rfl rfl k_) ?_
              show OwnFin p e below s _ _ _ (T63.setTop (mkF m 430 #[iv wa, iv wb, iv wc, iv wd, iv (Int32.ofNat n), iv (Int32.ofNat s0), iv fl, iv (Int32.ofNat w), iv (Int32.ofNat s0), iv (Int32.ofNat s1), iv (Int32.ofNat s2), rv b1, iv dr, iv (Int32.ofNat rr), rv b5, rv b9, rv b16, iv o19, rv b20, iv (((Int32.ofNat rr) * (4 : Int32)) + o19), iv (0 : Int32), .unset, .unset] [(.ref b20)]))
              refine own_go (fun t_ k_ => XS.iconst X63.here hx rfl (hb hby at_430) k_) ?_
              show OwnFin p e below s _ _ _ (T63.setTop (mkF m 431 #[iv wa, iv wb, iv wc, iv wd, iv (Int32.ofNat n), iv (Int32.ofNat s0), iv fl, iv (Int32.ofNat w), iv (Int32.ofNat s0), iv (Int32.ofNat s1), iv (Int32.ofNat s2), rv b1, iv dr, iv (Int32.ofNat rr), rv b5, rv b9, rv b16, iv o19, rv b20, iv (((Int32.ofNat rr) * (4 : Int32)) + o19), iv (0 : Int32), .unset, .unset] [(.int (2 : Int32)), (.ref b20)]))
              refine own_go (fun t_ k_ => XS.aload X63.here hx rfl (hb hby at_431) rfl rfl k_) ?_
              show OwnFin p e below s _ _ _ (T63.setTop (mkF m 433 #[iv wa, iv wb, iv wc, iv wd, iv (Int32.ofNat n), iv (Int32.ofNat s0), iv fl, iv (Int32.ofNat w), iv (Int32.ofNat s0), iv (Int32.ofNat s1), iv (Int32.ofNat s2), rv b1, iv dr, iv (Int32.ofNat rr), rv b5, rv b9, rv b16, iv o19, rv b20, iv (((Int32.ofNat rr) * (4 : Int32)) + o19), iv (0 : Int32), .unset, .unset] [(.ref b9), (.int (2 : Int32)), (.ref b20)]))
              refine own_go (fun t_ k_ => XS.iconst X63.here hx rfl (hb hby at_433) k_) ?_
              show OwnFin p e below s _ _ _ (T63.setTop (mkF m 434 #[iv wa, iv wb, iv wc, iv wd, iv (Int32.ofNat n), iv (Int32.ofNat s0), iv fl, iv (Int32.ofNat w), iv (Int32.ofNat s0), iv (Int32.ofNat s1), iv (Int32.ofNat s2), rv b1, iv dr, iv (Int32.ofNat rr), rv b5, rv b9, rv b16, iv o19, rv b20, iv (((Int32.ofNat rr) * (4 : Int32)) + o19), iv (0 : Int32), .unset, .unset] [(.int (2 : Int32)), (.ref b9), (.int (2 : Int32)), (.ref b20)]))
              refine own_go (own_iaload X63 hx hZ e63 H2_63 (i := 2) (by decide) (by decide) (g := (mkF m 434 #[iv wa, iv wb, iv wc, iv wd, iv (Int32.ofNat n), iv (Int32.ofNat s0), iv fl, iv (Int32.ofNat w), iv (Int32.ofNat s0), iv (Int32.ofNat s1), iv (Int32.ofNat s2), rv b1, iv dr, iv (Int32.ofNat rr), rv b5, rv b9, rv b16, iv o19, rv b20, iv (((Int32.ofNat rr) * (4 : Int32)) + o19), iv (0 : Int32), .unset, .unset] [(.int (2 : Int32)), (.ref b9), (.int (2 : Int32)), (.ref b20)])) rfl rfl (hb hby at_434)) ?_
              show OwnFin p e below s _ _ _ (T63.setTop (mkF m 435 #[iv wa, iv wb, iv wc, iv wd, iv (Int32.ofNat n), iv (Int32.ofNat s0), iv fl, iv (Int32.ofNat w), iv (Int32.ofNat s0), iv (Int32.ofNat s1), iv (Int32.ofNat s2), rv b1, iv dr, iv (Int32.ofNat rr), rv b5, rv b9, rv b16, iv o19, rv b20, iv (((Int32.ofNat rr) * (4 : Int32)) + o19), iv (0 : Int32), .unset, .unset] [(.int (own_e n s0 s1 s2 q0 q1 q2 2)), (.int (2 : Int32)), (.ref b20)]))
              obtain ⟨T64, h64, X64, e64, W64, A64, st64⟩ := own_iastore X63 hx hZ e63 A63 (i := 2) (by decide) (by decide) (g := (mkF m 435 #[iv wa, iv wb, iv wc, iv wd, iv (Int32.ofNat n), iv (Int32.ofNat s0), iv fl, iv (Int32.ofNat w), iv (Int32.ofNat s0), iv (Int32.ofNat s1), iv (Int32.ofNat s2), rv b1, iv dr, iv (Int32.ofNat rr), rv b5, rv b9, rv b16, iv o19, rv b20, iv (((Int32.ofNat rr) * (4 : Int32)) + o19), iv (0 : Int32), .unset, .unset] [(.int (own_e n s0 s1 s2 q0 q1 q2 2)), (.int (2 : Int32)), (.ref b20)])) rfl rfl (hb hby at_435)
              have H0_64 := H0_63.other W64 ne_b1_b20
              have H1_64 := H1_63.other W64 ne_b5_b20
              have H2_64 := H2_63.other W64 ne_b9_b20
              have Eq29_64 := Eq29_63.wr W64
              have Vq18K_64 := Vq18K_63.other W64 ne_aK_b20
              have Fq29_keys_64 := Fq29_keys_63.other W64 (Or.inl ne_b16_b20)
              have Fq29_retaken_64 := Fq29_retaken_63.other W64 (Or.inl ne_b16_b20)
              have Fq29_offeredFrom_64 := Fq29_offeredFrom_63.other W64 (Or.inl ne_b16_b20)
              have Fq29_sorted_64 := Fq29_sorted_63.other W64 (Or.inl ne_b16_b20)
              have Fq29_nextKey_64 := Fq29_nextKey_63.other W64 (Or.inl ne_b16_b20)
              have Fq29_retakenAt_64 := Fq29_retakenAt_63.other W64 (Or.inl ne_b16_b20)
              have Fq29_retakenEnd_64 := Fq29_retakenEnd_63.other W64 (Or.inl ne_b16_b20)
              have Vq29T_64 := Vq29T_63.other W64 ne_aT_b20
              have Z64 : n0 ≤ h64.size := Nat.le_trans Z63 (Keep.of_wr W64).1
              have N64 := Fr.snoc X64 N63 g_b20
              refine own_go st64 ?_
              show OwnFin p e below s _ _ _ (T64.setTop (mkF m 436 #[iv wa, iv wb, iv wc, iv wd, iv (Int32.ofNat n), iv (Int32.ofNat s0), iv fl, iv (Int32.ofNat w), iv (Int32.ofNat s0), iv (Int32.ofNat s1), iv (Int32.ofNat s2), rv b1, iv dr, iv (Int32.ofNat rr), rv b5, rv b9, rv b16, iv o19, rv b20, iv (((Int32.ofNat rr) * (4 : Int32)) + o19), iv (0 : Int32), .unset, .unset] []))
              refine own_go (fun t_ k_ => XS.goto X64.here hx rfl (pc0 := 436) (pc' := 492) rfl (hb hby at_436) (by decide) (by decide) k_) ?_
              show OwnFin p e below s _ _ _ (T64.setTop (mkF m 492 #[iv wa, iv wb, iv wc, iv wd, iv (Int32.ofNat n), iv (Int32.ofNat s0), iv fl, iv (Int32.ofNat w), iv (Int32.ofNat s0), iv (Int32.ofNat s1), iv (Int32.ofNat s2), rv b1, iv dr, iv (Int32.ofNat rr), rv b5, rv b9, rv b16, iv o19, rv b20, iv (((Int32.ofNat rr) * (4 : Int32)) + o19), iv (0 : Int32), .unset, .unset] []))
              refine own_go (fun t_ k_ => XS.aload X64.here hx rfl (hb hby at_492) rfl rfl k_) ?_
              show OwnFin p e below s _ _ _ (T64.setTop (mkF m 494 #[iv wa, iv wb, iv wc, iv wd, iv (Int32.ofNat n), iv (Int32.ofNat s0), iv fl, iv (Int32.ofNat w), iv (Int32.ofNat s0), iv (Int32.ofNat s1), iv (Int32.ofNat s2), rv b1, iv dr, iv (Int32.ofNat rr), rv b5, rv b9, rv b16, iv o19, rv b20, iv (((Int32.ofNat rr) * (4 : Int32)) + o19), iv (0 : Int32), .unset, .unset] [(.ref b20)]))
              refine own_go (fun t_ k_ => XS.iconst X64.here hx rfl (hb hby at_494) k_) ?_
              show OwnFin p e below s _ _ _ (T64.setTop (mkF m 495 #[iv wa, iv wb, iv wc, iv wd, iv (Int32.ofNat n), iv (Int32.ofNat s0), iv fl, iv (Int32.ofNat w), iv (Int32.ofNat s0), iv (Int32.ofNat s1), iv (Int32.ofNat s2), rv b1, iv dr, iv (Int32.ofNat rr), rv b5, rv b9, rv b16, iv o19, rv b20, iv (((Int32.ofNat rr) * (4 : Int32)) + o19), iv (0 : Int32), .unset, .unset] [(.int (3 : Int32)), (.ref b20)]))
              refine own_go (fun t_ k_ => XS.iconst X64.here hx rfl (hb hby at_495) k_) ?_
              show OwnFin p e below s _ _ _ (T64.setTop (mkF m 496 #[iv wa, iv wb, iv wc, iv wd, iv (Int32.ofNat n), iv (Int32.ofNat s0), iv fl, iv (Int32.ofNat w), iv (Int32.ofNat s0), iv (Int32.ofNat s1), iv (Int32.ofNat s2), rv b1, iv dr, iv (Int32.ofNat rr), rv b5, rv b9, rv b16, iv o19, rv b20, iv (((Int32.ofNat rr) * (4 : Int32)) + o19), iv (0 : Int32), .unset, .unset] [(.int (-1 : Int32)), (.int (3 : Int32)), (.ref b20)]))
              obtain ⟨T65, h65, X65, e65, W65, A65, st65⟩ := own_iastore X64 hx hZ e64 A64 (i := 3) (by decide) (by decide) (g := (mkF m 496 #[iv wa, iv wb, iv wc, iv wd, iv (Int32.ofNat n), iv (Int32.ofNat s0), iv fl, iv (Int32.ofNat w), iv (Int32.ofNat s0), iv (Int32.ofNat s1), iv (Int32.ofNat s2), rv b1, iv dr, iv (Int32.ofNat rr), rv b5, rv b9, rv b16, iv o19, rv b20, iv (((Int32.ofNat rr) * (4 : Int32)) + o19), iv (0 : Int32), .unset, .unset] [(.int (-1 : Int32)), (.int (3 : Int32)), (.ref b20)])) rfl rfl (hb hby at_496)
              have H0_65 := H0_64.other W65 ne_b1_b20
              have H1_65 := H1_64.other W65 ne_b5_b20
              have H2_65 := H2_64.other W65 ne_b9_b20
              have Eq29_65 := Eq29_64.wr W65
              have Vq18K_65 := Vq18K_64.other W65 ne_aK_b20
              have Fq29_keys_65 := Fq29_keys_64.other W65 (Or.inl ne_b16_b20)
              have Fq29_retaken_65 := Fq29_retaken_64.other W65 (Or.inl ne_b16_b20)
              have Fq29_offeredFrom_65 := Fq29_offeredFrom_64.other W65 (Or.inl ne_b16_b20)
              have Fq29_sorted_65 := Fq29_sorted_64.other W65 (Or.inl ne_b16_b20)
              have Fq29_nextKey_65 := Fq29_nextKey_64.other W65 (Or.inl ne_b16_b20)
              have Fq29_retakenAt_65 := Fq29_retakenAt_64.other W65 (Or.inl ne_b16_b20)
              have Fq29_retakenEnd_65 := Fq29_retakenEnd_64.other W65 (Or.inl ne_b16_b20)
              have Vq29T_65 := Vq29T_64.other W65 ne_aT_b20
              have Z65 : n0 ≤ h65.size := Nat.le_trans Z64 (Keep.of_wr W65).1
              have N65 := Fr.snoc X65 N64 g_b20
              refine own_go st65 ?_
              show OwnFin p e below s _ _ _ (T65.setTop (mkF m 497 #[iv wa, iv wb, iv wc, iv wd, iv (Int32.ofNat n), iv (Int32.ofNat s0), iv fl, iv (Int32.ofNat w), iv (Int32.ofNat s0), iv (Int32.ofNat s1), iv (Int32.ofNat s2), rv b1, iv dr, iv (Int32.ofNat rr), rv b5, rv b9, rv b16, iv o19, rv b20, iv (((Int32.ofNat rr) * (4 : Int32)) + o19), iv (0 : Int32), .unset, .unset] []))
              have hps : own_ps n (own_rn q0 q1 q2) (own_e n s0 s1 s2 q0 q1 q2 1) (own_e n s0 s1 s2 q0 q1 q2 2) (Int32.ofNat rr * 4 + o19) = 0 := by unfold own_ps; rw [if_neg (fun q => hc366 (by rw [show (1 : Int32) = Int32.ofNat 1 from rfl, own_ltN (by decide) (by omega)]; exact q.1)), if_neg (fun q => hc403 q.2)]
              have hck := hR.2.2.2 rr hrr
              rw [hps] at hck
              have V_m : OwnArr Z h65 b20 .int 4 (fun k => .int (own_mp 0 o19 (own_e n s0 s1 s2 q0 q1 q2 1) (own_e n s0 s1 s2 q0 q1 q2 2) k)) := A65.congr (own_4c rfl rfl rfl rfl)
              have hck2 := hck
              have Frb : Fld Z h65 b16 "com/example/nearside/nearside/slotted/delay/FairBack" "retakenAt" "I" (.int (Int32.ofNat ra19)) := by rw [hra0]; exact Fq29_retakenAt_65
              exact tl2 _ (own_key (Int32.ofNat rr) o19) 1 _ _ _ T65 _ _ X65 e65 N65 Z65 H0_65 H1_65 H2_65 Eq29_65 Vq18K_65 Vq29T_65 Fq29_keys_65 Fq29_retaken_65 Fq29_offeredFrom_65 Fq29_sorted_65 Fq29_nextKey_65 Frb Fq29_retakenEnd_65 V_m (by decide) (fun _ => rfl) hck2 (One.val rfl) (One.val rfl)
          · refine own_go (fun t_ k_ => XS.icmpYes X29.here hx rfl (pc0 := 389) (pc' := 409) rfl (hb hby at_389) rfl (flt hc389).2.2.2 (by decide) (by decide) k_) ?_
            show OwnFin p e below s _ _ _ (T29.setTop (mkF m 409 #[iv wa, iv wb, iv wc, iv wd, iv (Int32.ofNat n), iv (Int32.ofNat s0), iv fl, iv (Int32.ofNat w), iv (Int32.ofNat s0), iv (Int32.ofNat s1), iv (Int32.ofNat s2), rv b1, iv dr, iv (Int32.ofNat rr), rv b5, rv b9, rv b16, iv o19, rv b20, iv (((Int32.ofNat rr) * (4 : Int32)) + o19), iv (0 : Int32), .unset, .unset] []))
            refine own_go (fun t_ k_ => XS.iload X29.here hx rfl (hb hby at_409) rfl k_) ?_
            show OwnFin p e below s _ _ _ (T29.setTop (mkF m 411 #[iv wa, iv wb, iv wc, iv wd, iv (Int32.ofNat n), iv (Int32.ofNat s0), iv fl, iv (Int32.ofNat w), iv (Int32.ofNat s0), iv (Int32.ofNat s1), iv (Int32.ofNat s2), rv b1, iv dr, iv (Int32.ofNat rr), rv b5, rv b9, rv b16, iv o19, rv b20, iv (((Int32.ofNat rr) * (4 : Int32)) + o19), iv (0 : Int32), .unset, .unset] [(.int (0 : Int32))]))
            refine own_go (fun t_ k_ => XS.ifNo X29.here hx rfl (hb hby at_411) rfl ((if0 _ _).trans (teq (by decide)).2) k_) ?_
            show OwnFin p e below s _ _ _ (T29.setTop (mkF m 414 #[iv wa, iv wb, iv wc, iv wd, iv (Int32.ofNat n), iv (Int32.ofNat s0), iv fl, iv (Int32.ofNat w), iv (Int32.ofNat s0), iv (Int32.ofNat s1), iv (Int32.ofNat s2), rv b1, iv dr, iv (Int32.ofNat rr), rv b5, rv b9, rv b16, iv o19, rv b20, iv (((Int32.ofNat rr) * (4 : Int32)) + o19), iv (0 : Int32), .unset, .unset] []))
            refine own_go (fun t_ k_ => XS.aload X29.here hx rfl (hb hby at_414) rfl rfl k_) ?_
            show OwnFin p e below s _ _ _ (T29.setTop (mkF m 416 #[iv wa, iv wb, iv wc, iv wd, iv (Int32.ofNat n), iv (Int32.ofNat s0), iv fl, iv (Int32.ofNat w), iv (Int32.ofNat s0), iv (Int32.ofNat s1), iv (Int32.ofNat s2), rv b1, iv dr, iv (Int32.ofNat rr), rv b5, rv b9, rv b16, iv o19, rv b20, iv (((Int32.ofNat rr) * (4 : Int32)) + o19), iv (0 : Int32), .unset, .unset] [(.ref b20)]))
            refine own_go (fun t_ k_ => XS.iconst X29.here hx rfl (hb hby at_416) k_) ?_
            show OwnFin p e below s _ _ _ (T29.setTop (mkF m 417 #[iv wa, iv wb, iv wc, iv wd, iv (Int32.ofNat n), iv (Int32.ofNat s0), iv fl, iv (Int32.ofNat w), iv (Int32.ofNat s0), iv (Int32.ofNat s1), iv (Int32.ofNat s2), rv b1, iv dr, iv (Int32.ofNat rr), rv b5, rv b9, rv b16, iv o19, rv b20, iv (((Int32.ofNat rr) * (4 : Int32)) + o19), iv (0 : Int32), .unset, .unset] [(.int (0 : Int32)), (.ref b20)]))
            refine own_go (fun t_ k_ => XS.iload X29.here hx rfl (hb hby at_417) rfl k_) ?_
            show OwnFin p e below s _ _ _ (T29.setTop (mkF m 419 #[iv wa, iv wb, iv wc, iv wd, iv (Int32.ofNat n), iv (Int32.ofNat s0), iv fl, iv (Int32.ofNat w), iv (Int32.ofNat s0), iv (Int32.ofNat s1), iv (Int32.ofNat s2), rv b1, iv dr, iv (Int32.ofNat rr), rv b5, rv b9, rv b16, iv o19, rv b20, iv (((Int32.ofNat rr) * (4 : Int32)) + o19), iv (0 : Int32), .unset, .unset] [(.int o19), (.int (0 : Int32)), (.ref b20)]))
            obtain ⟨T66, h66, X66, e66, W66, A66, st66⟩ := own_iastore X29 hx hZ rfl V_b20_29 (i := 0) (by decide) (by decide) (g := (mkF m 419 #[iv wa, iv wb, iv wc, iv wd, iv (Int32.ofNat n), iv (Int32.ofNat s0), iv fl, iv (Int32.ofNat w), iv (Int32.ofNat s0), iv (Int32.ofNat s1), iv (Int32.ofNat s2), rv b1, iv dr, iv (Int32.ofNat rr), rv b5, rv b9, rv b16, iv o19, rv b20, iv (((Int32.ofNat rr) * (4 : Int32)) + o19), iv (0 : Int32), .unset, .unset] [(.int o19), (.int (0 : Int32)), (.ref b20)])) rfl rfl (hb hby at_419)
            have H0_66 := H0_29.other W66 ne_b1_b20
            have H1_66 := H1_29.other W66 ne_b5_b20
            have H2_66 := H2_29.other W66 ne_b9_b20
            have Eq29_66 := Eq29.wr W66
            have Vq18K_66 := Vq18K_29.other W66 ne_aK_b20
            have Fq29_keys_66 := Fq29_keys.other W66 (Or.inl ne_b16_b20)
            have Fq29_retaken_66 := Fq29_retaken.other W66 (Or.inl ne_b16_b20)
            have Fq29_offeredFrom_66 := Fq29_offeredFrom.other W66 (Or.inl ne_b16_b20)
            have Fq29_sorted_66 := Fq29_sorted.other W66 (Or.inl ne_b16_b20)
            have Fq29_nextKey_66 := Fq29_nextKey.other W66 (Or.inl ne_b16_b20)
            have Fq29_retakenAt_66 := Fq29_retakenAt.other W66 (Or.inl ne_b16_b20)
            have Fq29_retakenEnd_66 := Fq29_retakenEnd.other W66 (Or.inl ne_b16_b20)
            have Vq29T_66 := Vq29T.other W66 ne_aT_b20
            have Z66 : n0 ≤ h66.size := Nat.le_trans Z29 (Keep.of_wr W66).1
            have N66 := Fr.snoc X66 N29 g_b20
            refine own_go st66 ?_
            show OwnFin p e below s _ _ _ (T66.setTop (mkF m 420 #[iv wa, iv wb, iv wc, iv wd, iv (Int32.ofNat n), iv (Int32.ofNat s0), iv fl, iv (Int32.ofNat w), iv (Int32.ofNat s0), iv (Int32.ofNat s1), iv (Int32.ofNat s2), rv b1, iv dr, iv (Int32.ofNat rr), rv b5, rv b9, rv b16, iv o19, rv b20, iv (((Int32.ofNat rr) * (4 : Int32)) + o19), iv (0 : Int32), .unset, .unset] []))
            refine own_go (fun t_ k_ => XS.aload X66.here hx rfl (hb hby at_420) rfl rfl k_) ?_
            show OwnFin p e below s _ _ _ (T66.setTop (mkF m 422 #[iv wa, iv wb, iv wc, iv wd, iv (Int32.ofNat n), iv (Int32.ofNat s0), iv fl, iv (Int32.ofNat w), iv (Int32.ofNat s0), iv (Int32.ofNat s1), iv (Int32.ofNat s2), rv b1, iv dr, iv (Int32.ofNat rr), rv b5, rv b9, rv b16, iv o19, rv b20, iv (((Int32.ofNat rr) * (4 : Int32)) + o19), iv (0 : Int32), .unset, .unset] [(.ref b20)]))
            refine own_go (fun t_ k_ => XS.iconst X66.here hx rfl (hb hby at_422) k_) ?_
            show OwnFin p e below s _ _ _ (T66.setTop (mkF m 423 #[iv wa, iv wb, iv wc, iv wd, iv (Int32.ofNat n), iv (Int32.ofNat s0), iv fl, iv (Int32.ofNat w), iv (Int32.ofNat s0), iv (Int32.ofNat s1), iv (Int32.ofNat s2), rv b1, iv dr, iv (Int32.ofNat rr), rv b5, rv b9, rv b16, iv o19, rv b20, iv (((Int32.ofNat rr) * (4 : Int32)) + o19), iv (0 : Int32), .unset, .unset] [(.int (1 : Int32)), (.ref b20)]))
            refine own_go (fun t_ k_ => XS.aload X66.here hx rfl (hb hby at_423) rfl rfl k_) ?_
            show OwnFin p e below s _ _ _ (T66.setTop (mkF m 425 #[iv wa, iv wb, iv wc, iv wd, iv (Int32.ofNat n), iv (Int32.ofNat s0), iv fl, iv (Int32.ofNat w), iv (Int32.ofNat s0), iv (Int32.ofNat s1), iv (Int32.ofNat s2), rv b1, iv dr, iv (Int32.ofNat rr), rv b5, rv b9, rv b16, iv o19, rv b20, iv (((Int32.ofNat rr) * (4 : Int32)) + o19), iv (0 : Int32), .unset, .unset] [(.ref b9), (.int (1 : Int32)), (.ref b20)]))
            refine own_go (fun t_ k_ => XS.iconst X66.here hx rfl (hb hby at_425) k_) ?_
            show OwnFin p e below s _ _ _ (T66.setTop (mkF m 426 #[iv wa, iv wb, iv wc, iv wd, iv (Int32.ofNat n), iv (Int32.ofNat s0), iv fl, iv (Int32.ofNat w), iv (Int32.ofNat s0), iv (Int32.ofNat s1), iv (Int32.ofNat s2), rv b1, iv dr, iv (Int32.ofNat rr), rv b5, rv b9, rv b16, iv o19, rv b20, iv (((Int32.ofNat rr) * (4 : Int32)) + o19), iv (0 : Int32), .unset, .unset] [(.int (1 : Int32)), (.ref b9), (.int (1 : Int32)), (.ref b20)]))
            refine own_go (own_iaload X66 hx hZ e66 H2_66 (i := 1) (by decide) (by decide) (g := (mkF m 426 #[iv wa, iv wb, iv wc, iv wd, iv (Int32.ofNat n), iv (Int32.ofNat s0), iv fl, iv (Int32.ofNat w), iv (Int32.ofNat s0), iv (Int32.ofNat s1), iv (Int32.ofNat s2), rv b1, iv dr, iv (Int32.ofNat rr), rv b5, rv b9, rv b16, iv o19, rv b20, iv (((Int32.ofNat rr) * (4 : Int32)) + o19), iv (0 : Int32), .unset, .unset] [(.int (1 : Int32)), (.ref b9), (.int (1 : Int32)), (.ref b20)])) rfl rfl (hb hby at_426)) ?_
            show OwnFin p e below s _ _ _ (T66.setTop (mkF m 427 #[iv wa, iv wb, iv wc, iv wd, iv (Int32.ofNat n), iv (Int32.ofNat s0), iv fl, iv (Int32.ofNat w), iv (Int32.ofNat s0), iv (Int32.ofNat s1), iv (Int32.ofNat s2), rv b1, iv dr, iv (Int32.ofNat rr), rv b5, rv b9, rv b16, iv o19, rv b20, iv (((Int32.ofNat rr) * (4 : Int32)) + o19), iv (0 : Int32), .unset, .unset] [(.int (own_e n s0 s1 s2 q0 q1 q2 1)), (.int (1 : Int32)), (.ref b20)]))
            obtain ⟨T67, h67, X67, e67, W67, A67, st67⟩ := own_iastore X66 hx hZ e66 A66 (i := 1) (by decide) (by decide) (g := (mkF m 427 #[iv wa, iv wb, iv wc, iv wd, iv (Int32.ofNat n), iv (Int32.ofNat s0), iv fl, iv (Int32.ofNat w), iv (Int32.ofNat s0), iv (Int32.ofNat s1), iv (Int32.ofNat s2), rv b1, iv dr, iv (Int32.ofNat rr), rv b5, rv b9, rv b16, iv o19, rv b20, iv (((Int32.ofNat rr) * (4 : Int32)) + o19), iv (0 : Int32), .unset, .unset] [(.int (own_e n s0 s1 s2 q0 q1 q2 1)), (.int (1 : Int32)), (.ref b20)])) rfl rfl (hb hby at_427)
            have H0_67 := H0_66.other W67 ne_b1_b20
            have H1_67 := H1_66.other W67 ne_b5_b20
            have H2_67 := H2_66.other W67 ne_b9_b20
            have Eq29_67 := Eq29_66.wr W67
            have Vq18K_67 := Vq18K_66.other W67 ne_aK_b20
            have Fq29_keys_67 := Fq29_keys_66.other W67 (Or.inl ne_b16_b20)
            have Fq29_retaken_67 := Fq29_retaken_66.other W67 (Or.inl ne_b16_b20)
            have Fq29_offeredFrom_67 := Fq29_offeredFrom_66.other W67 (Or.inl ne_b16_b20)
            have Fq29_sorted_67 := Fq29_sorted_66.other W67 (Or.inl ne_b16_b20)
            have Fq29_nextKey_67 := Fq29_nextKey_66.other W67 (Or.inl ne_b16_b20)
            have Fq29_retakenAt_67 := Fq29_retakenAt_66.other W67 (Or.inl ne_b16_b20)
            have Fq29_retakenEnd_67 := Fq29_retakenEnd_66.other W67 (Or.inl ne_b16_b20)
            have Vq29T_67 := Vq29T_66.other W67 ne_aT_b20
            have Z67 : n0 ≤ h67.size := Nat.le_trans Z66 (Keep.of_wr W67).1
            have N67 := Fr.snoc X67 N66 g_b20
            refine own_go st67 ?_
            show OwnFin p e below s _ _ _ (T67.setTop (mkF m 428 #[iv wa, iv wb, iv wc, iv wd, iv (Int32.ofNat n), iv (Int32.ofNat s0), iv fl, iv (Int32.ofNat w), iv (Int32.ofNat s0), iv (Int32.ofNat s1), iv (Int32.ofNat s2), rv b1, iv dr, iv (Int32.ofNat rr), rv b5, rv b9, rv b16, iv o19, rv b20, iv (((Int32.ofNat rr) * (4 : Int32)) + o19), iv (0 : Int32), .unset, .unset] []))
            refine own_go (fun t_ k_ => XS.aload X67.here hx rfl (hb hby at_428) rfl rfl k_) ?_
            show OwnFin p e below s _ _ _ (T67.setTop (mkF m 430 #[iv wa, iv wb, iv wc, iv wd, iv (Int32.ofNat n), iv (Int32.ofNat s0), iv fl, iv (Int32.ofNat w), iv (Int32.ofNat s0), iv (Int32.ofNat s1), iv (Int32.ofNat s2), rv b1, iv dr, iv (Int32.ofNat rr), rv b5, rv b9, rv b16, iv o19, rv b20, iv (((Int32.ofNat rr) * (4 : Int32)) + o19), iv (0 : Int32), .unset, .unset] [(.ref b20)]))
            refine own_go (fun t_ k_ => XS.iconst X67.here hx rfl (hb hby at_430) k_) ?_
            show OwnFin p e below s _ _ _ (T67.setTop (mkF m 431 #[iv wa, iv wb, iv wc, iv wd, iv (Int32.ofNat n), iv (Int32.ofNat s0), iv fl, iv (Int32.ofNat w), iv (Int32.ofNat s0), iv (Int32.ofNat s1), iv (Int32.ofNat s2), rv b1, iv dr, iv (Int32.ofNat rr), rv b5, rv b9, rv b16, iv o19, rv b20, iv (((Int32.ofNat rr) * (4 : Int32)) + o19), iv (0 : Int32), .unset, .unset] [(.int (2 : Int32)), (.ref b20)]))
            refine own_go (fun t_ k_ => XS.aload X67.here hx rfl (hb hby at_431) rfl rfl k_) ?_
            show OwnFin p e below s _ _ _ (T67.setTop (mkF m 433 #[iv wa, iv wb, iv wc, iv wd, iv (Int32.ofNat n), iv (Int32.ofNat s0), iv fl, iv (Int32.ofNat w), iv (Int32.ofNat s0), iv (Int32.ofNat s1), iv (Int32.ofNat s2), rv b1, iv dr, iv (Int32.ofNat rr), rv b5, rv b9, rv b16, iv o19, rv b20, iv (((Int32.ofNat rr) * (4 : Int32)) + o19), iv (0 : Int32), .unset, .unset] [(.ref b9), (.int (2 : Int32)), (.ref b20)]))
            refine own_go (fun t_ k_ => XS.iconst X67.here hx rfl (hb hby at_433) k_) ?_
            show OwnFin p e below s _ _ _ (T67.setTop (mkF m 434 #[iv wa, iv wb, iv wc, iv wd, iv (Int32.ofNat n), iv (Int32.ofNat s0), iv fl, iv (Int32.ofNat w), iv (Int32.ofNat s0), iv (Int32.ofNat s1), iv (Int32.ofNat s2), rv b1, iv dr, iv (Int32.ofNat rr), rv b5, rv b9, rv b16, iv o19, rv b20, iv (((Int32.ofNat rr) * (4 : Int32)) + o19), iv (0 : Int32), .unset, .unset] [(.int (2 : Int32)), (.ref b9), (.int (2 : Int32)), (.ref b20)]))
            refine own_go (own_iaload X67 hx hZ e67 H2_67 (i := 2) (by decide) (by decide) (g := (mkF m 434 #[iv wa, iv wb, iv wc, iv wd, iv (Int32.ofNat n), iv (Int32.ofNat s0), iv fl, iv (Int32.ofNat w), iv (Int32.ofNat s0), iv (Int32.ofNat s1), iv (Int32.ofNat s2), rv b1, iv dr, iv (Int32.ofNat rr), rv b5, rv b9, rv b16, iv o19, rv b20, iv (((Int32.ofNat rr) * (4 : Int32)) + o19), iv (0 : Int32), .unset, .unset] [(.int (2 : Int32)), (.ref b9), (.int (2 : Int32)), (.ref b20)])) rfl rfl (hb hby at_434)) ?_
            show OwnFin p e below s _ _ _ (T67.setTop (mkF m 435 #[iv wa, iv wb, iv wc, iv wd, iv (Int32.ofNat n), iv (Int32.ofNat s0), iv fl, iv (Int32.ofNat w), iv (Int32.ofNat s0), iv (Int32.ofNat s1), iv (Int32.ofNat s2), rv b1, iv dr, iv (Int32.ofNat rr), rv b5, rv b9, rv b16, iv o19, rv b20, iv (((Int32.ofNat rr) * (4 : Int32)) + o19), iv (0 : Int32), .unset, .unset] [(.int (own_e n s0 s1 s2 q0 q1 q2 2)), (.int (2 : Int32)), (.ref b20)]))
            obtain ⟨T68, h68, X68, e68, W68, A68, st68⟩ := own_iastore X67 hx hZ e67 A67 (i := 2) (by decide) (by decide) (g := (mkF m 435 #[iv wa, iv wb, iv wc, iv wd, iv (Int32.ofNat n), iv (Int32.ofNat s0), iv fl, iv (Int32.ofNat w), iv (Int32.ofNat s0), iv (Int32.ofNat s1), iv (Int32.ofNat s2), rv b1, iv dr, iv (Int32.ofNat rr), rv b5, rv b9, rv b16, iv o19, rv b20, iv (((Int32.ofNat rr) * (4 : Int32)) + o19), iv (0 : Int32), .unset, .unset] [(.int (own_e n s0 s1 s2 q0 q1 q2 2)), (.int (2 : Int32)), (.ref b20)])) rfl rfl (hb hby at_435)
            have H0_68 := H0_67.other W68 ne_b1_b20
            have H1_68 := H1_67.other W68 ne_b5_b20
            have H2_68 := H2_67.other W68 ne_b9_b20
            have Eq29_68 := Eq29_67.wr W68
            have Vq18K_68 := Vq18K_67.other W68 ne_aK_b20
            have Fq29_keys_68 := Fq29_keys_67.other W68 (Or.inl ne_b16_b20)
            have Fq29_retaken_68 := Fq29_retaken_67.other W68 (Or.inl ne_b16_b20)
            have Fq29_offeredFrom_68 := Fq29_offeredFrom_67.other W68 (Or.inl ne_b16_b20)
            have Fq29_sorted_68 := Fq29_sorted_67.other W68 (Or.inl ne_b16_b20)
            have Fq29_nextKey_68 := Fq29_nextKey_67.other W68 (Or.inl ne_b16_b20)
            have Fq29_retakenAt_68 := Fq29_retakenAt_67.other W68 (Or.inl ne_b16_b20)
            have Fq29_retakenEnd_68 := Fq29_retakenEnd_67.other W68 (Or.inl ne_b16_b20)
            have Vq29T_68 := Vq29T_67.other W68 ne_aT_b20
            have Z68 : n0 ≤ h68.size := Nat.le_trans Z67 (Keep.of_wr W68).1
            have N68 := Fr.snoc X68 N67 g_b20
            refine own_go st68 ?_
            show OwnFin p e below s _ _ _ (T68.setTop (mkF m 436 #[iv wa, iv wb, iv wc, iv wd, iv (Int32.ofNat n), iv (Int32.ofNat s0), iv fl, iv (Int32.ofNat w), iv (Int32.ofNat s0), iv (Int32.ofNat s1), iv (Int32.ofNat s2), rv b1, iv dr, iv (Int32.ofNat rr), rv b5, rv b9, rv b16, iv o19, rv b20, iv (((Int32.ofNat rr) * (4 : Int32)) + o19), iv (0 : Int32), .unset, .unset] []))
            refine own_go (fun t_ k_ => XS.goto X68.here hx rfl (pc0 := 436) (pc' := 492) rfl (hb hby at_436) (by decide) (by decide) k_) ?_
            show OwnFin p e below s _ _ _ (T68.setTop (mkF m 492 #[iv wa, iv wb, iv wc, iv wd, iv (Int32.ofNat n), iv (Int32.ofNat s0), iv fl, iv (Int32.ofNat w), iv (Int32.ofNat s0), iv (Int32.ofNat s1), iv (Int32.ofNat s2), rv b1, iv dr, iv (Int32.ofNat rr), rv b5, rv b9, rv b16, iv o19, rv b20, iv (((Int32.ofNat rr) * (4 : Int32)) + o19), iv (0 : Int32), .unset, .unset] []))
            refine own_go (fun t_ k_ => XS.aload X68.here hx rfl (hb hby at_492) rfl rfl k_) ?_
            show OwnFin p e below s _ _ _ (T68.setTop (mkF m 494 #[iv wa, iv wb, iv wc, iv wd, iv (Int32.ofNat n), iv (Int32.ofNat s0), iv fl, iv (Int32.ofNat w), iv (Int32.ofNat s0), iv (Int32.ofNat s1), iv (Int32.ofNat s2), rv b1, iv dr, iv (Int32.ofNat rr), rv b5, rv b9, rv b16, iv o19, rv b20, iv (((Int32.ofNat rr) * (4 : Int32)) + o19), iv (0 : Int32), .unset, .unset] [(.ref b20)]))
            refine own_go (fun t_ k_ => XS.iconst X68.here hx rfl (hb hby at_494) k_) ?_
            show OwnFin p e below s _ _ _ (T68.setTop (mkF m 495 #[iv wa, iv wb, iv wc, iv wd, iv (Int32.ofNat n), iv (Int32.ofNat s0), iv fl, iv (Int32.ofNat w), iv (Int32.ofNat s0), iv (Int32.ofNat s1), iv (Int32.ofNat s2), rv b1, iv dr, iv (Int32.ofNat rr), rv b5, rv b9, rv b16, iv o19, rv b20, iv (((Int32.ofNat rr) * (4 : Int32)) + o19), iv (0 : Int32), .unset, .unset] [(.int (3 : Int32)), (.ref b20)]))
            refine own_go (fun t_ k_ => XS.iconst X68.here hx rfl (hb hby at_495) k_) ?_
            show OwnFin p e below s _ _ _ (T68.setTop (mkF m 496 #[iv wa, iv wb, iv wc, iv wd, iv (Int32.ofNat n), iv (Int32.ofNat s0), iv fl, iv (Int32.ofNat w), iv (Int32.ofNat s0), iv (Int32.ofNat s1), iv (Int32.ofNat s2), rv b1, iv dr, iv (Int32.ofNat rr), rv b5, rv b9, rv b16, iv o19, rv b20, iv (((Int32.ofNat rr) * (4 : Int32)) + o19), iv (0 : Int32), .unset, .unset] [(.int (-1 : Int32)), (.int (3 : Int32)), (.ref b20)]))
            obtain ⟨T69, h69, X69, e69, W69, A69, st69⟩ := own_iastore X68 hx hZ e68 A68 (i := 3) (by decide) (by decide) (g := (mkF m 496 #[iv wa, iv wb, iv wc, iv wd, iv (Int32.ofNat n), iv (Int32.ofNat s0), iv fl, iv (Int32.ofNat w), iv (Int32.ofNat s0), iv (Int32.ofNat s1), iv (Int32.ofNat s2), rv b1, iv dr, iv (Int32.ofNat rr), rv b5, rv b9, rv b16, iv o19, rv b20, iv (((Int32.ofNat rr) * (4 : Int32)) + o19), iv (0 : Int32), .unset, .unset] [(.int (-1 : Int32)), (.int (3 : Int32)), (.ref b20)])) rfl rfl (hb hby at_496)
            have H0_69 := H0_68.other W69 ne_b1_b20
            have H1_69 := H1_68.other W69 ne_b5_b20
            have H2_69 := H2_68.other W69 ne_b9_b20
            have Eq29_69 := Eq29_68.wr W69
            have Vq18K_69 := Vq18K_68.other W69 ne_aK_b20
            have Fq29_keys_69 := Fq29_keys_68.other W69 (Or.inl ne_b16_b20)
            have Fq29_retaken_69 := Fq29_retaken_68.other W69 (Or.inl ne_b16_b20)
            have Fq29_offeredFrom_69 := Fq29_offeredFrom_68.other W69 (Or.inl ne_b16_b20)
            have Fq29_sorted_69 := Fq29_sorted_68.other W69 (Or.inl ne_b16_b20)
            have Fq29_nextKey_69 := Fq29_nextKey_68.other W69 (Or.inl ne_b16_b20)
            have Fq29_retakenAt_69 := Fq29_retakenAt_68.other W69 (Or.inl ne_b16_b20)
            have Fq29_retakenEnd_69 := Fq29_retakenEnd_68.other W69 (Or.inl ne_b16_b20)
            have Vq29T_69 := Vq29T_68.other W69 ne_aT_b20
            have Z69 : n0 ≤ h69.size := Nat.le_trans Z68 (Keep.of_wr W69).1
            have N69 := Fr.snoc X69 N68 g_b20
            refine own_go st69 ?_
            show OwnFin p e below s _ _ _ (T69.setTop (mkF m 497 #[iv wa, iv wb, iv wc, iv wd, iv (Int32.ofNat n), iv (Int32.ofNat s0), iv fl, iv (Int32.ofNat w), iv (Int32.ofNat s0), iv (Int32.ofNat s1), iv (Int32.ofNat s2), rv b1, iv dr, iv (Int32.ofNat rr), rv b5, rv b9, rv b16, iv o19, rv b20, iv (((Int32.ofNat rr) * (4 : Int32)) + o19), iv (0 : Int32), .unset, .unset] []))
            have hps : own_ps n (own_rn q0 q1 q2) (own_e n s0 s1 s2 q0 q1 q2 1) (own_e n s0 s1 s2 q0 q1 q2 2) (Int32.ofNat rr * 4 + o19) = 0 := by unfold own_ps; rw [if_neg (fun q => hc366 (by rw [show (1 : Int32) = Int32.ofNat 1 from rfl, own_ltN (by decide) (by omega)]; exact q.1)), if_neg (fun q => hc389 (by rw [show (2 : Int32) = Int32.ofNat 2 from rfl, own_ltN (by decide) (by omega)]; exact q.1))]
            have hck := hR.2.2.2 rr hrr
            rw [hps] at hck
            have V_m : OwnArr Z h69 b20 .int 4 (fun k => .int (own_mp 0 o19 (own_e n s0 s1 s2 q0 q1 q2 1) (own_e n s0 s1 s2 q0 q1 q2 2) k)) := A69.congr (own_4c rfl rfl rfl rfl)
            have hck2 := hck
            have Frb : Fld Z h69 b16 "com/example/nearside/nearside/slotted/delay/FairBack" "retakenAt" "I" (.int (Int32.ofNat ra19)) := by rw [hra0]; exact Fq29_retakenAt_69
            exact tl2 _ (own_key (Int32.ofNat rr) o19) 1 _ _ _ T69 _ _ X69 e69 N69 Z69 H0_69 H1_69 H2_69 Eq29_69 Vq18K_69 Vq29T_69 Fq29_keys_69 Fq29_retaken_69 Fq29_offeredFrom_69 Fq29_sorted_69 Fq29_nextKey_69 Frb Fq29_retakenEnd_69 V_m (by decide) (fun _ => rfl) hck2 (One.val rfl) (One.val rfl)
  rcases (by omega : n = 0 ∨ n = 1 ∨ n = 2 ∨ n = 3) with hN | hN | hN | hN
  · refine own_go (fun t_ k_ => XS.iload X17.here hx rfl (hb hby at_235) rfl k_) ?_
    show OwnFin p e below s _ _ _ (T17.setTop (mkF m 237 #[iv wa, iv wb, iv wc, iv wd, iv (Int32.ofNat n), iv (Int32.ofNat s0), iv fl, iv (Int32.ofNat w), iv (Int32.ofNat s0), iv (Int32.ofNat s1), iv (Int32.ofNat s2), rv b1, iv dr, iv (Int32.ofNat rr), rv b5, rv b9, rv b16, .unset, .unset, .unset, .unset, .unset, .unset] [(.int (Int32.ofNat n))]))
    have hc237 : ¬ ((0 : Int32) < (Int32.ofNat n)) := by rw [hN]; decide
    refine own_go (fun t_ k_ => XS.ifYes X17.here hx rfl (pc0 := 237) (pc' := 248) rfl (hb hby at_237) rfl ((if0 _ _).trans (flt hc237).2.2.2) (by decide) (by decide) k_) ?_
    show OwnFin p e below s _ _ _ (T17.setTop (mkF m 248 #[iv wa, iv wb, iv wc, iv wd, iv (Int32.ofNat n), iv (Int32.ofNat s0), iv fl, iv (Int32.ofNat w), iv (Int32.ofNat s0), iv (Int32.ofNat s1), iv (Int32.ofNat s2), rv b1, iv dr, iv (Int32.ofNat rr), rv b5, rv b9, rv b16, .unset, .unset, .unset, .unset, .unset, .unset] []))
    refine own_go (fun t_ k_ => XS.iload X17.here hx rfl (hb hby at_248) rfl k_) ?_
    show OwnFin p e below s _ _ _ (T17.setTop (mkF m 250 #[iv wa, iv wb, iv wc, iv wd, iv (Int32.ofNat n), iv (Int32.ofNat s0), iv fl, iv (Int32.ofNat w), iv (Int32.ofNat s0), iv (Int32.ofNat s1), iv (Int32.ofNat s2), rv b1, iv dr, iv (Int32.ofNat rr), rv b5, rv b9, rv b16, .unset, .unset, .unset, .unset, .unset, .unset] [(.int (Int32.ofNat n))]))
    refine own_go (fun t_ k_ => XS.iconst X17.here hx rfl (hb hby at_250) k_) ?_
    show OwnFin p e below s _ _ _ (T17.setTop (mkF m 251 #[iv wa, iv wb, iv wc, iv wd, iv (Int32.ofNat n), iv (Int32.ofNat s0), iv fl, iv (Int32.ofNat w), iv (Int32.ofNat s0), iv (Int32.ofNat s1), iv (Int32.ofNat s2), rv b1, iv dr, iv (Int32.ofNat rr), rv b5, rv b9, rv b16, .unset, .unset, .unset, .unset, .unset, .unset] [(.int (1 : Int32)), (.int (Int32.ofNat n))]))
    have hc251 : ¬ ((1 : Int32) < (Int32.ofNat n)) := by rw [hN]; decide
    refine own_go (fun t_ k_ => XS.icmpYes X17.here hx rfl (pc0 := 251) (pc' := 262) rfl (hb hby at_251) rfl (flt hc251).2.2.2 (by decide) (by decide) k_) ?_
    show OwnFin p e below s _ _ _ (T17.setTop (mkF m 262 #[iv wa, iv wb, iv wc, iv wd, iv (Int32.ofNat n), iv (Int32.ofNat s0), iv fl, iv (Int32.ofNat w), iv (Int32.ofNat s0), iv (Int32.ofNat s1), iv (Int32.ofNat s2), rv b1, iv dr, iv (Int32.ofNat rr), rv b5, rv b9, rv b16, .unset, .unset, .unset, .unset, .unset, .unset] []))
    refine own_go (fun t_ k_ => XS.iload X17.here hx rfl (hb hby at_262) rfl k_) ?_
    show OwnFin p e below s _ _ _ (T17.setTop (mkF m 264 #[iv wa, iv wb, iv wc, iv wd, iv (Int32.ofNat n), iv (Int32.ofNat s0), iv fl, iv (Int32.ofNat w), iv (Int32.ofNat s0), iv (Int32.ofNat s1), iv (Int32.ofNat s2), rv b1, iv dr, iv (Int32.ofNat rr), rv b5, rv b9, rv b16, .unset, .unset, .unset, .unset, .unset, .unset] [(.int (Int32.ofNat n))]))
    refine own_go (fun t_ k_ => XS.iconst X17.here hx rfl (hb hby at_264) k_) ?_
    show OwnFin p e below s _ _ _ (T17.setTop (mkF m 265 #[iv wa, iv wb, iv wc, iv wd, iv (Int32.ofNat n), iv (Int32.ofNat s0), iv fl, iv (Int32.ofNat w), iv (Int32.ofNat s0), iv (Int32.ofNat s1), iv (Int32.ofNat s2), rv b1, iv dr, iv (Int32.ofNat rr), rv b5, rv b9, rv b16, .unset, .unset, .unset, .unset, .unset, .unset] [(.int (2 : Int32)), (.int (Int32.ofNat n))]))
    have hc265 : ¬ ((2 : Int32) < (Int32.ofNat n)) := by rw [hN]; decide
    refine own_go (fun t_ k_ => XS.icmpYes X17.here hx rfl (pc0 := 265) (pc' := 276) rfl (hb hby at_265) rfl (flt hc265).2.2.2 (by decide) (by decide) k_) ?_
    show OwnFin p e below s _ _ _ (T17.setTop (mkF m 276 #[iv wa, iv wb, iv wc, iv wd, iv (Int32.ofNat n), iv (Int32.ofNat s0), iv fl, iv (Int32.ofNat w), iv (Int32.ofNat s0), iv (Int32.ofNat s1), iv (Int32.ofNat s2), rv b1, iv dr, iv (Int32.ofNat rr), rv b5, rv b9, rv b16, .unset, .unset, .unset, .unset, .unset, .unset] []))
    subst hN
    exact jadd _ _ _ T17 _ _ X17 rfl N17 Z17 V_rn_17 V_pr_17 V_e_17 Eq17 Fq17_back Fq17_keys Fq17_retaken Fq17_positions Fq17_offeredFrom Fq17_starts Fq17_size Fq17_sorted Fq17_nextKey Fq17_retakenAt Fq17_retakenEnd V_aB V_aK V_aT V_aP V_aO V_aS (fun k hk => absurd hk (Nat.not_lt_zero k))
  · refine own_go (fun t_ k_ => XS.iload X17.here hx rfl (hb hby at_235) rfl k_) ?_
    show OwnFin p e below s _ _ _ (T17.setTop (mkF m 237 #[iv wa, iv wb, iv wc, iv wd, iv (Int32.ofNat n), iv (Int32.ofNat s0), iv fl, iv (Int32.ofNat w), iv (Int32.ofNat s0), iv (Int32.ofNat s1), iv (Int32.ofNat s2), rv b1, iv dr, iv (Int32.ofNat rr), rv b5, rv b9, rv b16, .unset, .unset, .unset, .unset, .unset, .unset] [(.int (Int32.ofNat n))]))
    have hc237 : (0 : Int32) < (Int32.ofNat n) := by rw [hN]; decide
    refine own_go (fun t_ k_ => XS.ifNo X17.here hx rfl (hb hby at_237) rfl ((if0 _ _).trans (tlt hc237).2.2.2) k_) ?_
    show OwnFin p e below s _ _ _ (T17.setTop (mkF m 240 #[iv wa, iv wb, iv wc, iv wd, iv (Int32.ofNat n), iv (Int32.ofNat s0), iv fl, iv (Int32.ofNat w), iv (Int32.ofNat s0), iv (Int32.ofNat s1), iv (Int32.ofNat s2), rv b1, iv dr, iv (Int32.ofNat rr), rv b5, rv b9, rv b16, .unset, .unset, .unset, .unset, .unset, .unset] []))
    refine own_go (fun t_ k_ => XS.aload X17.here hx rfl (hb hby at_240) rfl rfl k_) ?_
    show OwnFin p e below s _ _ _ (T17.setTop (mkF m 242 #[iv wa, iv wb, iv wc, iv wd, iv (Int32.ofNat n), iv (Int32.ofNat s0), iv fl, iv (Int32.ofNat w), iv (Int32.ofNat s0), iv (Int32.ofNat s1), iv (Int32.ofNat s2), rv b1, iv dr, iv (Int32.ofNat rr), rv b5, rv b9, rv b16, .unset, .unset, .unset, .unset, .unset, .unset] [(.ref b16)]))
    refine own_go (fun t_ k_ => XS.iload X17.here hx rfl (hb hby at_242) rfl k_) ?_
    show OwnFin p e below s _ _ _ (T17.setTop (mkF m 244 #[iv wa, iv wb, iv wc, iv wd, iv (Int32.ofNat n), iv (Int32.ofNat s0), iv fl, iv (Int32.ofNat w), iv (Int32.ofNat s0), iv (Int32.ofNat s1), iv (Int32.ofNat s2), rv b1, iv dr, iv (Int32.ofNat rr), rv b5, rv b9, rv b16, .unset, .unset, .unset, .unset, .unset, .unset] [(.int (Int32.ofNat s0)), (.ref b16)]))
    refine own_go (fun t_ k_ => XS.iconst X17.here hx rfl (hb hby at_244) k_) ?_
    show OwnFin p e below s _ _ _ (T17.setTop (mkF m 245 #[iv wa, iv wb, iv wc, iv wd, iv (Int32.ofNat n), iv (Int32.ofNat s0), iv fl, iv (Int32.ofNat w), iv (Int32.ofNat s0), iv (Int32.ofNat s1), iv (Int32.ofNat s2), rv b1, iv dr, iv (Int32.ofNat rr), rv b5, rv b9, rv b16, .unset, .unset, .unset, .unset, .unset, .unset] [(.int (0 : Int32)), (.int (Int32.ofNat s0)), (.ref b16)]))
    obtain ⟨v70, T70, L70, X70, hQ70, st70⟩ := own_callV X17 hx hZ (y := (⟨"com/example/nearside/nearside/slotted/delay/FairBack", "add", "(II)V"⟩ : MethodName)) (z := (⟨"com/example/nearside/nearside/slotted/delay/FairBack", "add", "(II)V"⟩ : MethodName)) hown (hw _ (List.mem_of_getElem? (i := 58) rfl)) (hw _ (List.mem_of_getElem? (i := 59) rfl)) (notFace_of_selects (args := #[]) (mvT hZ (hw _ (List.mem_of_getElem? (i := 61) rfl)))) (hw _ (List.mem_of_getElem? (i := 61) rfl)) (hw _ (List.mem_of_getElem? (i := 60) rfl)) (hw _ (List.mem_of_getElem? (i := 8) rfl)) (hw _ (List.mem_of_getElem? (i := 62) rfl)) (by decide) (W := 0) (rm9 l Z a0 hw [] b16 (Int32.ofNat s0) (0 : Int32) aB aK aT aP aO aS s0 0 _ _ _ T17.heap n0 Z17 rfl hl_s0 (by decide) Eq17 Fq17_back Fq17_keys Fq17_retaken Fq17_positions Fq17_offeredFrom Fq17_starts Fq17_size Fq17_sorted Fq17_nextKey Fq17_retakenAt Fq17_retakenEnd V_aB V_aP V_aO ne_b16_aB ne_b16_aP ne_b16_aO ne_aB_aP ne_aB_aO ne_aP_aO g_b16 g_aB g_aP g_aO) (by decide) (by decide) Eq17 (g := (mkF m 245 #[iv wa, iv wb, iv wc, iv wd, iv (Int32.ofNat n), iv (Int32.ofNat s0), iv fl, iv (Int32.ofNat w), iv (Int32.ofNat s0), iv (Int32.ofNat s1), iv (Int32.ofNat s2), rv b1, iv dr, iv (Int32.ofNat rr), rv b5, rv b9, rv b16, .unset, .unset, .unset, .unset, .unset, .unset] [(.int (0 : Int32)), (.int (Int32.ofNat s0)), (.ref b16)])) rfl (by rw [hml]; rfl) (argsL := [(.int (Int32.ofNat s0)), (.int (0 : Int32))]) (rest := []) (lenOf pd_0_1 rfl) rfl (by show 2 * 0 + _ ≤ _; exact Nat.le_of_eq rfl) (hb hby at_245) rfl rfl (by decide) (by decide)
    obtain ⟨rfl, Nq70, Kq70, Eq70, Fq70_back, Fq70_keys, Fq70_retaken, Fq70_positions, Fq70_offeredFrom, Fq70_starts, Fq70_size, Fq70_sorted, Fq70_nextKey, Fq70_retakenAt, Fq70_retakenEnd, Vq70B, gP70, gO70, Vq70P, Vq70O⟩ := hQ70
    have N70 := Fr.app N17 Nq70
    have V_rn_70 := V_rn_17.keep Kq70 (ninS ne_b1_b16 (ninS ne_b1_aB (ninS ne_b1_aP (ninS ne_b1_aO nin0))))
    have V_pr_70 := V_pr_17.keep Kq70 (ninS ne_b5_b16 (ninS ne_b5_aB (ninS ne_b5_aP (ninS ne_b5_aO nin0))))
    have V_e_70 := V_e_17.keep Kq70 (ninS ne_b9_b16 (ninS ne_b9_aB (ninS ne_b9_aP (ninS ne_b9_aO nin0))))
    have E_b16_70 := Eq17.keep Kq70
    have V_aK_70 := V_aK.keep Kq70 (ninS (Ne.symm ne_b16_aK) (ninS (Ne.symm ne_aB_aK) (ninS ne_aK_aP (ninS ne_aK_aO nin0))))
    have V_aT_70 := V_aT.keep Kq70 (ninS (Ne.symm ne_b16_aT) (ninS (Ne.symm ne_aB_aT) (ninS ne_aT_aP (ninS ne_aT_aO nin0))))
    have V_aS_70 := V_aS.keep Kq70 (ninS (Ne.symm ne_b16_aS) (ninS (Ne.symm ne_aB_aS) (ninS (Ne.symm ne_aP_aS) (ninS (Ne.symm ne_aO_aS) nin0))))
    have Z70 : n0 ≤ T70.heap.size := Nat.le_trans Z17 Kq70.1
    refine own_go st70 ?_
    show OwnFin p e below s _ _ _ (T70.setTop (mkF m 248 #[iv wa, iv wb, iv wc, iv wd, iv (Int32.ofNat n), iv (Int32.ofNat s0), iv fl, iv (Int32.ofNat w), iv (Int32.ofNat s0), iv (Int32.ofNat s1), iv (Int32.ofNat s2), rv b1, iv dr, iv (Int32.ofNat rr), rv b5, rv b9, rv b16, .unset, .unset, .unset, .unset, .unset, .unset] []))
    refine own_go (fun t_ k_ => XS.iload X70.here hx rfl (hb hby at_248) rfl k_) ?_
    show OwnFin p e below s _ _ _ (T70.setTop (mkF m 250 #[iv wa, iv wb, iv wc, iv wd, iv (Int32.ofNat n), iv (Int32.ofNat s0), iv fl, iv (Int32.ofNat w), iv (Int32.ofNat s0), iv (Int32.ofNat s1), iv (Int32.ofNat s2), rv b1, iv dr, iv (Int32.ofNat rr), rv b5, rv b9, rv b16, .unset, .unset, .unset, .unset, .unset, .unset] [(.int (Int32.ofNat n))]))
    refine own_go (fun t_ k_ => XS.iconst X70.here hx rfl (hb hby at_250) k_) ?_
    show OwnFin p e below s _ _ _ (T70.setTop (mkF m 251 #[iv wa, iv wb, iv wc, iv wd, iv (Int32.ofNat n), iv (Int32.ofNat s0), iv fl, iv (Int32.ofNat w), iv (Int32.ofNat s0), iv (Int32.ofNat s1), iv (Int32.ofNat s2), rv b1, iv dr, iv (Int32.ofNat rr), rv b5, rv b9, rv b16, .unset, .unset, .unset, .unset, .unset, .unset] [(.int (1 : Int32)), (.int (Int32.ofNat n))]))
    have hc251 : ¬ ((1 : Int32) < (Int32.ofNat n)) := by rw [hN]; decide
    refine own_go (fun t_ k_ => XS.icmpYes X70.here hx rfl (pc0 := 251) (pc' := 262) rfl (hb hby at_251) rfl (flt hc251).2.2.2 (by decide) (by decide) k_) ?_
    show OwnFin p e below s _ _ _ (T70.setTop (mkF m 262 #[iv wa, iv wb, iv wc, iv wd, iv (Int32.ofNat n), iv (Int32.ofNat s0), iv fl, iv (Int32.ofNat w), iv (Int32.ofNat s0), iv (Int32.ofNat s1), iv (Int32.ofNat s2), rv b1, iv dr, iv (Int32.ofNat rr), rv b5, rv b9, rv b16, .unset, .unset, .unset, .unset, .unset, .unset] []))
    refine own_go (fun t_ k_ => XS.iload X70.here hx rfl (hb hby at_262) rfl k_) ?_
    show OwnFin p e below s _ _ _ (T70.setTop (mkF m 264 #[iv wa, iv wb, iv wc, iv wd, iv (Int32.ofNat n), iv (Int32.ofNat s0), iv fl, iv (Int32.ofNat w), iv (Int32.ofNat s0), iv (Int32.ofNat s1), iv (Int32.ofNat s2), rv b1, iv dr, iv (Int32.ofNat rr), rv b5, rv b9, rv b16, .unset, .unset, .unset, .unset, .unset, .unset] [(.int (Int32.ofNat n))]))
    refine own_go (fun t_ k_ => XS.iconst X70.here hx rfl (hb hby at_264) k_) ?_
    show OwnFin p e below s _ _ _ (T70.setTop (mkF m 265 #[iv wa, iv wb, iv wc, iv wd, iv (Int32.ofNat n), iv (Int32.ofNat s0), iv fl, iv (Int32.ofNat w), iv (Int32.ofNat s0), iv (Int32.ofNat s1), iv (Int32.ofNat s2), rv b1, iv dr, iv (Int32.ofNat rr), rv b5, rv b9, rv b16, .unset, .unset, .unset, .unset, .unset, .unset] [(.int (2 : Int32)), (.int (Int32.ofNat n))]))
    have hc265 : ¬ ((2 : Int32) < (Int32.ofNat n)) := by rw [hN]; decide
    refine own_go (fun t_ k_ => XS.icmpYes X70.here hx rfl (pc0 := 265) (pc' := 276) rfl (hb hby at_265) rfl (flt hc265).2.2.2 (by decide) (by decide) k_) ?_
    show OwnFin p e below s _ _ _ (T70.setTop (mkF m 276 #[iv wa, iv wb, iv wc, iv wd, iv (Int32.ofNat n), iv (Int32.ofNat s0), iv fl, iv (Int32.ofNat w), iv (Int32.ofNat s0), iv (Int32.ofNat s1), iv (Int32.ofNat s2), rv b1, iv dr, iv (Int32.ofNat rr), rv b5, rv b9, rv b16, .unset, .unset, .unset, .unset, .unset, .unset] []))
    subst hN
    exact jadd _ _ _ T70 _ _ X70 rfl N70 Z70 V_rn_70 V_pr_70 V_e_70 Eq70 Fq70_back Fq70_keys Fq70_retaken Fq70_positions Fq70_offeredFrom Fq70_starts Fq70_size Fq70_sorted Fq70_nextKey Fq70_retakenAt Fq70_retakenEnd Vq70B V_aK_70 V_aT_70 Vq70P Vq70O V_aS_70 (fun k hk => by rcases (by omega : k = 0) with rfl <;> rfl)
  · refine own_go (fun t_ k_ => XS.iload X17.here hx rfl (hb hby at_235) rfl k_) ?_
    show OwnFin p e below s _ _ _ (T17.setTop (mkF m 237 #[iv wa, iv wb, iv wc, iv wd, iv (Int32.ofNat n), iv (Int32.ofNat s0), iv fl, iv (Int32.ofNat w), iv (Int32.ofNat s0), iv (Int32.ofNat s1), iv (Int32.ofNat s2), rv b1, iv dr, iv (Int32.ofNat rr), rv b5, rv b9, rv b16, .unset, .unset, .unset, .unset, .unset, .unset] [(.int (Int32.ofNat n))]))
    have hc237 : (0 : Int32) < (Int32.ofNat n) := by rw [hN]; decide
    refine own_go (fun t_ k_ => XS.ifNo X17.here hx rfl (hb hby at_237) rfl ((if0 _ _).trans (tlt hc237).2.2.2) k_) ?_
    show OwnFin p e below s _ _ _ (T17.setTop (mkF m 240 #[iv wa, iv wb, iv wc, iv wd, iv (Int32.ofNat n), iv (Int32.ofNat s0), iv fl, iv (Int32.ofNat w), iv (Int32.ofNat s0), iv (Int32.ofNat s1), iv (Int32.ofNat s2), rv b1, iv dr, iv (Int32.ofNat rr), rv b5, rv b9, rv b16, .unset, .unset, .unset, .unset, .unset, .unset] []))
    refine own_go (fun t_ k_ => XS.aload X17.here hx rfl (hb hby at_240) rfl rfl k_) ?_
    show OwnFin p e below s _ _ _ (T17.setTop (mkF m 242 #[iv wa, iv wb, iv wc, iv wd, iv (Int32.ofNat n), iv (Int32.ofNat s0), iv fl, iv (Int32.ofNat w), iv (Int32.ofNat s0), iv (Int32.ofNat s1), iv (Int32.ofNat s2), rv b1, iv dr, iv (Int32.ofNat rr), rv b5, rv b9, rv b16, .unset, .unset, .unset, .unset, .unset, .unset] [(.ref b16)]))
    refine own_go (fun t_ k_ => XS.iload X17.here hx rfl (hb hby at_242) rfl k_) ?_
    show OwnFin p e below s _ _ _ (T17.setTop (mkF m 244 #[iv wa, iv wb, iv wc, iv wd, iv (Int32.ofNat n), iv (Int32.ofNat s0), iv fl, iv (Int32.ofNat w), iv (Int32.ofNat s0), iv (Int32.ofNat s1), iv (Int32.ofNat s2), rv b1, iv dr, iv (Int32.ofNat rr), rv b5, rv b9, rv b16, .unset, .unset, .unset, .unset, .unset, .unset] [(.int (Int32.ofNat s0)), (.ref b16)]))
    refine own_go (fun t_ k_ => XS.iconst X17.here hx rfl (hb hby at_244) k_) ?_
    show OwnFin p e below s _ _ _ (T17.setTop (mkF m 245 #[iv wa, iv wb, iv wc, iv wd, iv (Int32.ofNat n), iv (Int32.ofNat s0), iv fl, iv (Int32.ofNat w), iv (Int32.ofNat s0), iv (Int32.ofNat s1), iv (Int32.ofNat s2), rv b1, iv dr, iv (Int32.ofNat rr), rv b5, rv b9, rv b16, .unset, .unset, .unset, .unset, .unset, .unset] [(.int (0 : Int32)), (.int (Int32.ofNat s0)), (.ref b16)]))
    obtain ⟨v71, T71, L71, X71, hQ71, st71⟩ := own_callV X17 hx hZ (y := (⟨"com/example/nearside/nearside/slotted/delay/FairBack", "add", "(II)V"⟩ : MethodName)) (z := (⟨"com/example/nearside/nearside/slotted/delay/FairBack", "add", "(II)V"⟩ : MethodName)) hown (hw _ (List.mem_of_getElem? (i := 58) rfl)) (hw _ (List.mem_of_getElem? (i := 59) rfl)) (notFace_of_selects (args := #[]) (mvT hZ (hw _ (List.mem_of_getElem? (i := 61) rfl)))) (hw _ (List.mem_of_getElem? (i := 61) rfl)) (hw _ (List.mem_of_getElem? (i := 60) rfl)) (hw _ (List.mem_of_getElem? (i := 8) rfl)) (hw _ (List.mem_of_getElem? (i := 62) rfl)) (by decide) (W := 0) (rm9 l Z a0 hw [] b16 (Int32.ofNat s0) (0 : Int32) aB aK aT aP aO aS s0 0 _ _ _ T17.heap n0 Z17 rfl hl_s0 (by decide) Eq17 Fq17_back Fq17_keys Fq17_retaken Fq17_positions Fq17_offeredFrom Fq17_starts Fq17_size Fq17_sorted Fq17_nextKey Fq17_retakenAt Fq17_retakenEnd V_aB V_aP V_aO ne_b16_aB ne_b16_aP ne_b16_aO ne_aB_aP ne_aB_aO ne_aP_aO g_b16 g_aB g_aP g_aO) (by decide) (by decide) Eq17 (g := (mkF m 245 #[iv wa, iv wb, iv wc, iv wd, iv (Int32.ofNat n), iv (Int32.ofNat s0), iv fl, iv (Int32.ofNat w), iv (Int32.ofNat s0), iv (Int32.ofNat s1), iv (Int32.ofNat s2), rv b1, iv dr, iv (Int32.ofNat rr), rv b5, rv b9, rv b16, .unset, .unset, .unset, .unset, .unset, .unset] [(.int (0 : Int32)), (.int (Int32.ofNat s0)), (.ref b16)])) rfl (by rw [hml]; rfl) (argsL := [(.int (Int32.ofNat s0)), (.int (0 : Int32))]) (rest := []) (lenOf pd_0_1 rfl) rfl (by show 2 * 0 + _ ≤ _; exact Nat.le_of_eq rfl) (hb hby at_245) rfl rfl (by decide) (by decide)
    obtain ⟨rfl, Nq71, Kq71, Eq71, Fq71_back, Fq71_keys, Fq71_retaken, Fq71_positions, Fq71_offeredFrom, Fq71_starts, Fq71_size, Fq71_sorted, Fq71_nextKey, Fq71_retakenAt, Fq71_retakenEnd, Vq71B, gP71, gO71, Vq71P, Vq71O⟩ := hQ71
    have N71 := Fr.app N17 Nq71
    have V_rn_71 := V_rn_17.keep Kq71 (ninS ne_b1_b16 (ninS ne_b1_aB (ninS ne_b1_aP (ninS ne_b1_aO nin0))))
    have V_pr_71 := V_pr_17.keep Kq71 (ninS ne_b5_b16 (ninS ne_b5_aB (ninS ne_b5_aP (ninS ne_b5_aO nin0))))
    have V_e_71 := V_e_17.keep Kq71 (ninS ne_b9_b16 (ninS ne_b9_aB (ninS ne_b9_aP (ninS ne_b9_aO nin0))))
    have E_b16_71 := Eq17.keep Kq71
    have V_aK_71 := V_aK.keep Kq71 (ninS (Ne.symm ne_b16_aK) (ninS (Ne.symm ne_aB_aK) (ninS ne_aK_aP (ninS ne_aK_aO nin0))))
    have V_aT_71 := V_aT.keep Kq71 (ninS (Ne.symm ne_b16_aT) (ninS (Ne.symm ne_aB_aT) (ninS ne_aT_aP (ninS ne_aT_aO nin0))))
    have V_aS_71 := V_aS.keep Kq71 (ninS (Ne.symm ne_b16_aS) (ninS (Ne.symm ne_aB_aS) (ninS (Ne.symm ne_aP_aS) (ninS (Ne.symm ne_aO_aS) nin0))))
    have Z71 : n0 ≤ T71.heap.size := Nat.le_trans Z17 Kq71.1
    refine own_go st71 ?_
    show OwnFin p e below s _ _ _ (T71.setTop (mkF m 248 #[iv wa, iv wb, iv wc, iv wd, iv (Int32.ofNat n), iv (Int32.ofNat s0), iv fl, iv (Int32.ofNat w), iv (Int32.ofNat s0), iv (Int32.ofNat s1), iv (Int32.ofNat s2), rv b1, iv dr, iv (Int32.ofNat rr), rv b5, rv b9, rv b16, .unset, .unset, .unset, .unset, .unset, .unset] []))
    refine own_go (fun t_ k_ => XS.iload X71.here hx rfl (hb hby at_248) rfl k_) ?_
    show OwnFin p e below s _ _ _ (T71.setTop (mkF m 250 #[iv wa, iv wb, iv wc, iv wd, iv (Int32.ofNat n), iv (Int32.ofNat s0), iv fl, iv (Int32.ofNat w), iv (Int32.ofNat s0), iv (Int32.ofNat s1), iv (Int32.ofNat s2), rv b1, iv dr, iv (Int32.ofNat rr), rv b5, rv b9, rv b16, .unset, .unset, .unset, .unset, .unset, .unset] [(.int (Int32.ofNat n))]))
    refine own_go (fun t_ k_ => XS.iconst X71.here hx rfl (hb hby at_250) k_) ?_
    show OwnFin p e below s _ _ _ (T71.setTop (mkF m 251 #[iv wa, iv wb, iv wc, iv wd, iv (Int32.ofNat n), iv (Int32.ofNat s0), iv fl, iv (Int32.ofNat w), iv (Int32.ofNat s0), iv (Int32.ofNat s1), iv (Int32.ofNat s2), rv b1, iv dr, iv (Int32.ofNat rr), rv b5, rv b9, rv b16, .unset, .unset, .unset, .unset, .unset, .unset] [(.int (1 : Int32)), (.int (Int32.ofNat n))]))
    have hc251 : (1 : Int32) < (Int32.ofNat n) := by rw [hN]; decide
    refine own_go (fun t_ k_ => XS.icmpNo X71.here hx rfl (hb hby at_251) rfl (tlt hc251).2.2.2 k_) ?_
    show OwnFin p e below s _ _ _ (T71.setTop (mkF m 254 #[iv wa, iv wb, iv wc, iv wd, iv (Int32.ofNat n), iv (Int32.ofNat s0), iv fl, iv (Int32.ofNat w), iv (Int32.ofNat s0), iv (Int32.ofNat s1), iv (Int32.ofNat s2), rv b1, iv dr, iv (Int32.ofNat rr), rv b5, rv b9, rv b16, .unset, .unset, .unset, .unset, .unset, .unset] []))
    refine own_go (fun t_ k_ => XS.aload X71.here hx rfl (hb hby at_254) rfl rfl k_) ?_
    show OwnFin p e below s _ _ _ (T71.setTop (mkF m 256 #[iv wa, iv wb, iv wc, iv wd, iv (Int32.ofNat n), iv (Int32.ofNat s0), iv fl, iv (Int32.ofNat w), iv (Int32.ofNat s0), iv (Int32.ofNat s1), iv (Int32.ofNat s2), rv b1, iv dr, iv (Int32.ofNat rr), rv b5, rv b9, rv b16, .unset, .unset, .unset, .unset, .unset, .unset] [(.ref b16)]))
    refine own_go (fun t_ k_ => XS.iload X71.here hx rfl (hb hby at_256) rfl k_) ?_
    show OwnFin p e below s _ _ _ (T71.setTop (mkF m 258 #[iv wa, iv wb, iv wc, iv wd, iv (Int32.ofNat n), iv (Int32.ofNat s0), iv fl, iv (Int32.ofNat w), iv (Int32.ofNat s0), iv (Int32.ofNat s1), iv (Int32.ofNat s2), rv b1, iv dr, iv (Int32.ofNat rr), rv b5, rv b9, rv b16, .unset, .unset, .unset, .unset, .unset, .unset] [(.int (Int32.ofNat s1)), (.ref b16)]))
    refine own_go (fun t_ k_ => XS.iconst X71.here hx rfl (hb hby at_258) k_) ?_
    show OwnFin p e below s _ _ _ (T71.setTop (mkF m 259 #[iv wa, iv wb, iv wc, iv wd, iv (Int32.ofNat n), iv (Int32.ofNat s0), iv fl, iv (Int32.ofNat w), iv (Int32.ofNat s0), iv (Int32.ofNat s1), iv (Int32.ofNat s2), rv b1, iv dr, iv (Int32.ofNat rr), rv b5, rv b9, rv b16, .unset, .unset, .unset, .unset, .unset, .unset] [(.int (0 : Int32)), (.int (Int32.ofNat s1)), (.ref b16)]))
    obtain ⟨v72, T72, L72, X72, hQ72, st72⟩ := own_callV X71 hx hZ (y := (⟨"com/example/nearside/nearside/slotted/delay/FairBack", "add", "(II)V"⟩ : MethodName)) (z := (⟨"com/example/nearside/nearside/slotted/delay/FairBack", "add", "(II)V"⟩ : MethodName)) hown (hw _ (List.mem_of_getElem? (i := 58) rfl)) (hw _ (List.mem_of_getElem? (i := 59) rfl)) (notFace_of_selects (args := #[]) (mvT hZ (hw _ (List.mem_of_getElem? (i := 61) rfl)))) (hw _ (List.mem_of_getElem? (i := 61) rfl)) (hw _ (List.mem_of_getElem? (i := 60) rfl)) (hw _ (List.mem_of_getElem? (i := 8) rfl)) (hw _ (List.mem_of_getElem? (i := 62) rfl)) (by decide) (W := 0) (rm9 l Z a0 hw [] b16 (Int32.ofNat s1) (0 : Int32) aB aK aT aP aO aS s1 (0 + 1) _ _ _ T71.heap n0 Z71 rfl hl_s1 (by decide) Eq71 Fq71_back Fq71_keys Fq71_retaken Fq71_positions Fq71_offeredFrom Fq71_starts Fq71_size Fq71_sorted Fq71_nextKey Fq71_retakenAt Fq71_retakenEnd Vq71B Vq71P Vq71O ne_b16_aB ne_b16_aP ne_b16_aO ne_aB_aP ne_aB_aO ne_aP_aO g_b16 g_aB g_aP g_aO) (by decide) (by decide) Eq71 (g := (mkF m 259 #[iv wa, iv wb, iv wc, iv wd, iv (Int32.ofNat n), iv (Int32.ofNat s0), iv fl, iv (Int32.ofNat w), iv (Int32.ofNat s0), iv (Int32.ofNat s1), iv (Int32.ofNat s2), rv b1, iv dr, iv (Int32.ofNat rr), rv b5, rv b9, rv b16, .unset, .unset, .unset, .unset, .unset, .unset] [(.int (0 : Int32)), (.int (Int32.ofNat s1)), (.ref b16)])) rfl (by rw [hml]; rfl) (argsL := [(.int (Int32.ofNat s1)), (.int (0 : Int32))]) (rest := []) (lenOf pd_0_1 rfl) rfl (by show 2 * 0 + _ ≤ _; exact Nat.le_of_eq rfl) (hb hby at_259) rfl rfl (by decide) (by decide)
    obtain ⟨rfl, Nq72, Kq72, Eq72, Fq72_back, Fq72_keys, Fq72_retaken, Fq72_positions, Fq72_offeredFrom, Fq72_starts, Fq72_size, Fq72_sorted, Fq72_nextKey, Fq72_retakenAt, Fq72_retakenEnd, Vq72B, gP72, gO72, Vq72P, Vq72O⟩ := hQ72
    have N72 := Fr.app N71 Nq72
    have V_rn_72 := V_rn_71.keep Kq72 (ninS ne_b1_b16 (ninS ne_b1_aB (ninS ne_b1_aP (ninS ne_b1_aO nin0))))
    have V_pr_72 := V_pr_71.keep Kq72 (ninS ne_b5_b16 (ninS ne_b5_aB (ninS ne_b5_aP (ninS ne_b5_aO nin0))))
    have V_e_72 := V_e_71.keep Kq72 (ninS ne_b9_b16 (ninS ne_b9_aB (ninS ne_b9_aP (ninS ne_b9_aO nin0))))
    have E_b16_72 := Eq71.keep Kq72
    have V_aK_72 := V_aK_71.keep Kq72 (ninS (Ne.symm ne_b16_aK) (ninS (Ne.symm ne_aB_aK) (ninS ne_aK_aP (ninS ne_aK_aO nin0))))
    have V_aT_72 := V_aT_71.keep Kq72 (ninS (Ne.symm ne_b16_aT) (ninS (Ne.symm ne_aB_aT) (ninS ne_aT_aP (ninS ne_aT_aO nin0))))
    have V_aS_72 := V_aS_71.keep Kq72 (ninS (Ne.symm ne_b16_aS) (ninS (Ne.symm ne_aB_aS) (ninS (Ne.symm ne_aP_aS) (ninS (Ne.symm ne_aO_aS) nin0))))
    have Z72 : n0 ≤ T72.heap.size := Nat.le_trans Z71 Kq72.1
    refine own_go st72 ?_
    show OwnFin p e below s _ _ _ (T72.setTop (mkF m 262 #[iv wa, iv wb, iv wc, iv wd, iv (Int32.ofNat n), iv (Int32.ofNat s0), iv fl, iv (Int32.ofNat w), iv (Int32.ofNat s0), iv (Int32.ofNat s1), iv (Int32.ofNat s2), rv b1, iv dr, iv (Int32.ofNat rr), rv b5, rv b9, rv b16, .unset, .unset, .unset, .unset, .unset, .unset] []))
    refine own_go (fun t_ k_ => XS.iload X72.here hx rfl (hb hby at_262) rfl k_) ?_
    show OwnFin p e below s _ _ _ (T72.setTop (mkF m 264 #[iv wa, iv wb, iv wc, iv wd, iv (Int32.ofNat n), iv (Int32.ofNat s0), iv fl, iv (Int32.ofNat w), iv (Int32.ofNat s0), iv (Int32.ofNat s1), iv (Int32.ofNat s2), rv b1, iv dr, iv (Int32.ofNat rr), rv b5, rv b9, rv b16, .unset, .unset, .unset, .unset, .unset, .unset] [(.int (Int32.ofNat n))]))
    refine own_go (fun t_ k_ => XS.iconst X72.here hx rfl (hb hby at_264) k_) ?_
    show OwnFin p e below s _ _ _ (T72.setTop (mkF m 265 #[iv wa, iv wb, iv wc, iv wd, iv (Int32.ofNat n), iv (Int32.ofNat s0), iv fl, iv (Int32.ofNat w), iv (Int32.ofNat s0), iv (Int32.ofNat s1), iv (Int32.ofNat s2), rv b1, iv dr, iv (Int32.ofNat rr), rv b5, rv b9, rv b16, .unset, .unset, .unset, .unset, .unset, .unset] [(.int (2 : Int32)), (.int (Int32.ofNat n))]))
    have hc265 : ¬ ((2 : Int32) < (Int32.ofNat n)) := by rw [hN]; decide
    refine own_go (fun t_ k_ => XS.icmpYes X72.here hx rfl (pc0 := 265) (pc' := 276) rfl (hb hby at_265) rfl (flt hc265).2.2.2 (by decide) (by decide) k_) ?_
    show OwnFin p e below s _ _ _ (T72.setTop (mkF m 276 #[iv wa, iv wb, iv wc, iv wd, iv (Int32.ofNat n), iv (Int32.ofNat s0), iv fl, iv (Int32.ofNat w), iv (Int32.ofNat s0), iv (Int32.ofNat s1), iv (Int32.ofNat s2), rv b1, iv dr, iv (Int32.ofNat rr), rv b5, rv b9, rv b16, .unset, .unset, .unset, .unset, .unset, .unset] []))
    subst hN
    exact jadd _ _ _ T72 _ _ X72 rfl N72 Z72 V_rn_72 V_pr_72 V_e_72 Eq72 Fq72_back Fq72_keys Fq72_retaken Fq72_positions Fq72_offeredFrom Fq72_starts Fq72_size Fq72_sorted Fq72_nextKey Fq72_retakenAt Fq72_retakenEnd Vq72B V_aK_72 V_aT_72 Vq72P Vq72O V_aS_72 (fun k hk => by rcases (by omega : k = 0 ∨ k = 1) with rfl | rfl <;> rfl)
  · refine own_go (fun t_ k_ => XS.iload X17.here hx rfl (hb hby at_235) rfl k_) ?_
    show OwnFin p e below s _ _ _ (T17.setTop (mkF m 237 #[iv wa, iv wb, iv wc, iv wd, iv (Int32.ofNat n), iv (Int32.ofNat s0), iv fl, iv (Int32.ofNat w), iv (Int32.ofNat s0), iv (Int32.ofNat s1), iv (Int32.ofNat s2), rv b1, iv dr, iv (Int32.ofNat rr), rv b5, rv b9, rv b16, .unset, .unset, .unset, .unset, .unset, .unset] [(.int (Int32.ofNat n))]))
    have hc237 : (0 : Int32) < (Int32.ofNat n) := by rw [hN]; decide
    refine own_go (fun t_ k_ => XS.ifNo X17.here hx rfl (hb hby at_237) rfl ((if0 _ _).trans (tlt hc237).2.2.2) k_) ?_
    show OwnFin p e below s _ _ _ (T17.setTop (mkF m 240 #[iv wa, iv wb, iv wc, iv wd, iv (Int32.ofNat n), iv (Int32.ofNat s0), iv fl, iv (Int32.ofNat w), iv (Int32.ofNat s0), iv (Int32.ofNat s1), iv (Int32.ofNat s2), rv b1, iv dr, iv (Int32.ofNat rr), rv b5, rv b9, rv b16, .unset, .unset, .unset, .unset, .unset, .unset] []))
    refine own_go (fun t_ k_ => XS.aload X17.here hx rfl (hb hby at_240) rfl rfl k_) ?_
    show OwnFin p e below s _ _ _ (T17.setTop (mkF m 242 #[iv wa, iv wb, iv wc, iv wd, iv (Int32.ofNat n), iv (Int32.ofNat s0), iv fl, iv (Int32.ofNat w), iv (Int32.ofNat s0), iv (Int32.ofNat s1), iv (Int32.ofNat s2), rv b1, iv dr, iv (Int32.ofNat rr), rv b5, rv b9, rv b16, .unset, .unset, .unset, .unset, .unset, .unset] [(.ref b16)]))
    refine own_go (fun t_ k_ => XS.iload X17.here hx rfl (hb hby at_242) rfl k_) ?_
    show OwnFin p e below s _ _ _ (T17.setTop (mkF m 244 #[iv wa, iv wb, iv wc, iv wd, iv (Int32.ofNat n), iv (Int32.ofNat s0), iv fl, iv (Int32.ofNat w), iv (Int32.ofNat s0), iv (Int32.ofNat s1), iv (Int32.ofNat s2), rv b1, iv dr, iv (Int32.ofNat rr), rv b5, rv b9, rv b16, .unset, .unset, .unset, .unset, .unset, .unset] [(.int (Int32.ofNat s0)), (.ref b16)]))
    refine own_go (fun t_ k_ => XS.iconst X17.here hx rfl (hb hby at_244) k_) ?_
    show OwnFin p e below s _ _ _ (T17.setTop (mkF m 245 #[iv wa, iv wb, iv wc, iv wd, iv (Int32.ofNat n), iv (Int32.ofNat s0), iv fl, iv (Int32.ofNat w), iv (Int32.ofNat s0), iv (Int32.ofNat s1), iv (Int32.ofNat s2), rv b1, iv dr, iv (Int32.ofNat rr), rv b5, rv b9, rv b16, .unset, .unset, .unset, .unset, .unset, .unset] [(.int (0 : Int32)), (.int (Int32.ofNat s0)), (.ref b16)]))
    obtain ⟨v73, T73, L73, X73, hQ73, st73⟩ := own_callV X17 hx hZ (y := (⟨"com/example/nearside/nearside/slotted/delay/FairBack", "add", "(II)V"⟩ : MethodName)) (z := (⟨"com/example/nearside/nearside/slotted/delay/FairBack", "add", "(II)V"⟩ : MethodName)) hown (hw _ (List.mem_of_getElem? (i := 58) rfl)) (hw _ (List.mem_of_getElem? (i := 59) rfl)) (notFace_of_selects (args := #[]) (mvT hZ (hw _ (List.mem_of_getElem? (i := 61) rfl)))) (hw _ (List.mem_of_getElem? (i := 61) rfl)) (hw _ (List.mem_of_getElem? (i := 60) rfl)) (hw _ (List.mem_of_getElem? (i := 8) rfl)) (hw _ (List.mem_of_getElem? (i := 62) rfl)) (by decide) (W := 0) (rm9 l Z a0 hw [] b16 (Int32.ofNat s0) (0 : Int32) aB aK aT aP aO aS s0 0 _ _ _ T17.heap n0 Z17 rfl hl_s0 (by decide) Eq17 Fq17_back Fq17_keys Fq17_retaken Fq17_positions Fq17_offeredFrom Fq17_starts Fq17_size Fq17_sorted Fq17_nextKey Fq17_retakenAt Fq17_retakenEnd V_aB V_aP V_aO ne_b16_aB ne_b16_aP ne_b16_aO ne_aB_aP ne_aB_aO ne_aP_aO g_b16 g_aB g_aP g_aO) (by decide) (by decide) Eq17 (g := (mkF m 245 #[iv wa, iv wb, iv wc, iv wd, iv (Int32.ofNat n), iv (Int32.ofNat s0), iv fl, iv (Int32.ofNat w), iv (Int32.ofNat s0), iv (Int32.ofNat s1), iv (Int32.ofNat s2), rv b1, iv dr, iv (Int32.ofNat rr), rv b5, rv b9, rv b16, .unset, .unset, .unset, .unset, .unset, .unset] [(.int (0 : Int32)), (.int (Int32.ofNat s0)), (.ref b16)])) rfl (by rw [hml]; rfl) (argsL := [(.int (Int32.ofNat s0)), (.int (0 : Int32))]) (rest := []) (lenOf pd_0_1 rfl) rfl (by show 2 * 0 + _ ≤ _; exact Nat.le_of_eq rfl) (hb hby at_245) rfl rfl (by decide) (by decide)
    obtain ⟨rfl, Nq73, Kq73, Eq73, Fq73_back, Fq73_keys, Fq73_retaken, Fq73_positions, Fq73_offeredFrom, Fq73_starts, Fq73_size, Fq73_sorted, Fq73_nextKey, Fq73_retakenAt, Fq73_retakenEnd, Vq73B, gP73, gO73, Vq73P, Vq73O⟩ := hQ73
    have N73 := Fr.app N17 Nq73
    have V_rn_73 := V_rn_17.keep Kq73 (ninS ne_b1_b16 (ninS ne_b1_aB (ninS ne_b1_aP (ninS ne_b1_aO nin0))))
    have V_pr_73 := V_pr_17.keep Kq73 (ninS ne_b5_b16 (ninS ne_b5_aB (ninS ne_b5_aP (ninS ne_b5_aO nin0))))
    have V_e_73 := V_e_17.keep Kq73 (ninS ne_b9_b16 (ninS ne_b9_aB (ninS ne_b9_aP (ninS ne_b9_aO nin0))))
    have E_b16_73 := Eq17.keep Kq73
    have V_aK_73 := V_aK.keep Kq73 (ninS (Ne.symm ne_b16_aK) (ninS (Ne.symm ne_aB_aK) (ninS ne_aK_aP (ninS ne_aK_aO nin0))))
    have V_aT_73 := V_aT.keep Kq73 (ninS (Ne.symm ne_b16_aT) (ninS (Ne.symm ne_aB_aT) (ninS ne_aT_aP (ninS ne_aT_aO nin0))))
    have V_aS_73 := V_aS.keep Kq73 (ninS (Ne.symm ne_b16_aS) (ninS (Ne.symm ne_aB_aS) (ninS (Ne.symm ne_aP_aS) (ninS (Ne.symm ne_aO_aS) nin0))))
    have Z73 : n0 ≤ T73.heap.size := Nat.le_trans Z17 Kq73.1
    refine own_go st73 ?_
    show OwnFin p e below s _ _ _ (T73.setTop (mkF m 248 #[iv wa, iv wb, iv wc, iv wd, iv (Int32.ofNat n), iv (Int32.ofNat s0), iv fl, iv (Int32.ofNat w), iv (Int32.ofNat s0), iv (Int32.ofNat s1), iv (Int32.ofNat s2), rv b1, iv dr, iv (Int32.ofNat rr), rv b5, rv b9, rv b16, .unset, .unset, .unset, .unset, .unset, .unset] []))
    refine own_go (fun t_ k_ => XS.iload X73.here hx rfl (hb hby at_248) rfl k_) ?_
    show OwnFin p e below s _ _ _ (T73.setTop (mkF m 250 #[iv wa, iv wb, iv wc, iv wd, iv (Int32.ofNat n), iv (Int32.ofNat s0), iv fl, iv (Int32.ofNat w), iv (Int32.ofNat s0), iv (Int32.ofNat s1), iv (Int32.ofNat s2), rv b1, iv dr, iv (Int32.ofNat rr), rv b5, rv b9, rv b16, .unset, .unset, .unset, .unset, .unset, .unset] [(.int (Int32.ofNat n))]))
    refine own_go (fun t_ k_ => XS.iconst X73.here hx rfl (hb hby at_250) k_) ?_
    show OwnFin p e below s _ _ _ (T73.setTop (mkF m 251 #[iv wa, iv wb, iv wc, iv wd, iv (Int32.ofNat n), iv (Int32.ofNat s0), iv fl, iv (Int32.ofNat w), iv (Int32.ofNat s0), iv (Int32.ofNat s1), iv (Int32.ofNat s2), rv b1, iv dr, iv (Int32.ofNat rr), rv b5, rv b9, rv b16, .unset, .unset, .unset, .unset, .unset, .unset] [(.int (1 : Int32)), (.int (Int32.ofNat n))]))
    have hc251 : (1 : Int32) < (Int32.ofNat n) := by rw [hN]; decide
    refine own_go (fun t_ k_ => XS.icmpNo X73.here hx rfl (hb hby at_251) rfl (tlt hc251).2.2.2 k_) ?_
    show OwnFin p e below s _ _ _ (T73.setTop (mkF m 254 #[iv wa, iv wb, iv wc, iv wd, iv (Int32.ofNat n), iv (Int32.ofNat s0), iv fl, iv (Int32.ofNat w), iv (Int32.ofNat s0), iv (Int32.ofNat s1), iv (Int32.ofNat s2), rv b1, iv dr, iv (Int32.ofNat rr), rv b5, rv b9, rv b16, .unset, .unset, .unset, .unset, .unset, .unset] []))
    refine own_go (fun t_ k_ => XS.aload X73.here hx rfl (hb hby at_254) rfl rfl k_) ?_
    show OwnFin p e below s _ _ _ (T73.setTop (mkF m 256 #[iv wa, iv wb, iv wc, iv wd, iv (Int32.ofNat n), iv (Int32.ofNat s0), iv fl, iv (Int32.ofNat w), iv (Int32.ofNat s0), iv (Int32.ofNat s1), iv (Int32.ofNat s2), rv b1, iv dr, iv (Int32.ofNat rr), rv b5, rv b9, rv b16, .unset, .unset, .unset, .unset, .unset, .unset] [(.ref b16)]))
    refine own_go (fun t_ k_ => XS.iload X73.here hx rfl (hb hby at_256) rfl k_) ?_
    show OwnFin p e below s _ _ _ (T73.setTop (mkF m 258 #[iv wa, iv wb, iv wc, iv wd, iv (Int32.ofNat n), iv (Int32.ofNat s0), iv fl, iv (Int32.ofNat w), iv (Int32.ofNat s0), iv (Int32.ofNat s1), iv (Int32.ofNat s2), rv b1, iv dr, iv (Int32.ofNat rr), rv b5, rv b9, rv b16, .unset, .unset, .unset, .unset, .unset, .unset] [(.int (Int32.ofNat s1)), (.ref b16)]))
    refine own_go (fun t_ k_ => XS.iconst X73.here hx rfl (hb hby at_258) k_) ?_
    show OwnFin p e below s _ _ _ (T73.setTop (mkF m 259 #[iv wa, iv wb, iv wc, iv wd, iv (Int32.ofNat n), iv (Int32.ofNat s0), iv fl, iv (Int32.ofNat w), iv (Int32.ofNat s0), iv (Int32.ofNat s1), iv (Int32.ofNat s2), rv b1, iv dr, iv (Int32.ofNat rr), rv b5, rv b9, rv b16, .unset, .unset, .unset, .unset, .unset, .unset] [(.int (0 : Int32)), (.int (Int32.ofNat s1)), (.ref b16)]))
    obtain ⟨v74, T74, L74, X74, hQ74, st74⟩ := own_callV X73 hx hZ (y := (⟨"com/example/nearside/nearside/slotted/delay/FairBack", "add", "(II)V"⟩ : MethodName)) (z := (⟨"com/example/nearside/nearside/slotted/delay/FairBack", "add", "(II)V"⟩ : MethodName)) hown (hw _ (List.mem_of_getElem? (i := 58) rfl)) (hw _ (List.mem_of_getElem? (i := 59) rfl)) (notFace_of_selects (args := #[]) (mvT hZ (hw _ (List.mem_of_getElem? (i := 61) rfl)))) (hw _ (List.mem_of_getElem? (i := 61) rfl)) (hw _ (List.mem_of_getElem? (i := 60) rfl)) (hw _ (List.mem_of_getElem? (i := 8) rfl)) (hw _ (List.mem_of_getElem? (i := 62) rfl)) (by decide) (W := 0) (rm9 l Z a0 hw [] b16 (Int32.ofNat s1) (0 : Int32) aB aK aT aP aO aS s1 (0 + 1) _ _ _ T73.heap n0 Z73 rfl hl_s1 (by decide) Eq73 Fq73_back Fq73_keys Fq73_retaken Fq73_positions Fq73_offeredFrom Fq73_starts Fq73_size Fq73_sorted Fq73_nextKey Fq73_retakenAt Fq73_retakenEnd Vq73B Vq73P Vq73O ne_b16_aB ne_b16_aP ne_b16_aO ne_aB_aP ne_aB_aO ne_aP_aO g_b16 g_aB g_aP g_aO) (by decide) (by decide) Eq73 (g := (mkF m 259 #[iv wa, iv wb, iv wc, iv wd, iv (Int32.ofNat n), iv (Int32.ofNat s0), iv fl, iv (Int32.ofNat w), iv (Int32.ofNat s0), iv (Int32.ofNat s1), iv (Int32.ofNat s2), rv b1, iv dr, iv (Int32.ofNat rr), rv b5, rv b9, rv b16, .unset, .unset, .unset, .unset, .unset, .unset] [(.int (0 : Int32)), (.int (Int32.ofNat s1)), (.ref b16)])) rfl (by rw [hml]; rfl) (argsL := [(.int (Int32.ofNat s1)), (.int (0 : Int32))]) (rest := []) (lenOf pd_0_1 rfl) rfl (by show 2 * 0 + _ ≤ _; exact Nat.le_of_eq rfl) (hb hby at_259) rfl rfl (by decide) (by decide)
    obtain ⟨rfl, Nq74, Kq74, Eq74, Fq74_back, Fq74_keys, Fq74_retaken, Fq74_positions, Fq74_offeredFrom, Fq74_starts, Fq74_size, Fq74_sorted, Fq74_nextKey, Fq74_retakenAt, Fq74_retakenEnd, Vq74B, gP74, gO74, Vq74P, Vq74O⟩ := hQ74
    have N74 := Fr.app N73 Nq74
    have V_rn_74 := V_rn_73.keep Kq74 (ninS ne_b1_b16 (ninS ne_b1_aB (ninS ne_b1_aP (ninS ne_b1_aO nin0))))
    have V_pr_74 := V_pr_73.keep Kq74 (ninS ne_b5_b16 (ninS ne_b5_aB (ninS ne_b5_aP (ninS ne_b5_aO nin0))))
    have V_e_74 := V_e_73.keep Kq74 (ninS ne_b9_b16 (ninS ne_b9_aB (ninS ne_b9_aP (ninS ne_b9_aO nin0))))
    have E_b16_74 := Eq73.keep Kq74
    have V_aK_74 := V_aK_73.keep Kq74 (ninS (Ne.symm ne_b16_aK) (ninS (Ne.symm ne_aB_aK) (ninS ne_aK_aP (ninS ne_aK_aO nin0))))
    have V_aT_74 := V_aT_73.keep Kq74 (ninS (Ne.symm ne_b16_aT) (ninS (Ne.symm ne_aB_aT) (ninS ne_aT_aP (ninS ne_aT_aO nin0))))
    have V_aS_74 := V_aS_73.keep Kq74 (ninS (Ne.symm ne_b16_aS) (ninS (Ne.symm ne_aB_aS) (ninS (Ne.symm ne_aP_aS) (ninS (Ne.symm ne_aO_aS) nin0))))
    have Z74 : n0 ≤ T74.heap.size := Nat.le_trans Z73 Kq74.1
    refine own_go st74 ?_
    show OwnFin p e below s _ _ _ (T74.setTop (mkF m 262 #[iv wa, iv wb, iv wc, iv wd, iv (Int32.ofNat n), iv (Int32.ofNat s0), iv fl, iv (Int32.ofNat w), iv (Int32.ofNat s0), iv (Int32.ofNat s1), iv (Int32.ofNat s2), rv b1, iv dr, iv (Int32.ofNat rr), rv b5, rv b9, rv b16, .unset, .unset, .unset, .unset, .unset, .unset] []))
    refine own_go (fun t_ k_ => XS.iload X74.here hx rfl (hb hby at_262) rfl k_) ?_
    show OwnFin p e below s _ _ _ (T74.setTop (mkF m 264 #[iv wa, iv wb, iv wc, iv wd, iv (Int32.ofNat n), iv (Int32.ofNat s0), iv fl, iv (Int32.ofNat w), iv (Int32.ofNat s0), iv (Int32.ofNat s1), iv (Int32.ofNat s2), rv b1, iv dr, iv (Int32.ofNat rr), rv b5, rv b9, rv b16, .unset, .unset, .unset, .unset, .unset, .unset] [(.int (Int32.ofNat n))]))
    refine own_go (fun t_ k_ => XS.iconst X74.here hx rfl (hb hby at_264) k_) ?_
    show OwnFin p e below s _ _ _ (T74.setTop (mkF m 265 #[iv wa, iv wb, iv wc, iv wd, iv (Int32.ofNat n), iv (Int32.ofNat s0), iv fl, iv (Int32.ofNat w), iv (Int32.ofNat s0), iv (Int32.ofNat s1), iv (Int32.ofNat s2), rv b1, iv dr, iv (Int32.ofNat rr), rv b5, rv b9, rv b16, .unset, .unset, .unset, .unset, .unset, .unset] [(.int (2 : Int32)), (.int (Int32.ofNat n))]))
    have hc265 : (2 : Int32) < (Int32.ofNat n) := by rw [hN]; decide
    refine own_go (fun t_ k_ => XS.icmpNo X74.here hx rfl (hb hby at_265) rfl (tlt hc265).2.2.2 k_) ?_
    show OwnFin p e below s _ _ _ (T74.setTop (mkF m 268 #[iv wa, iv wb, iv wc, iv wd, iv (Int32.ofNat n), iv (Int32.ofNat s0), iv fl, iv (Int32.ofNat w), iv (Int32.ofNat s0), iv (Int32.ofNat s1), iv (Int32.ofNat s2), rv b1, iv dr, iv (Int32.ofNat rr), rv b5, rv b9, rv b16, .unset, .unset, .unset, .unset, .unset, .unset] []))
    refine own_go (fun t_ k_ => XS.aload X74.here hx rfl (hb hby at_268) rfl rfl k_) ?_
    show OwnFin p e below s _ _ _ (T74.setTop (mkF m 270 #[iv wa, iv wb, iv wc, iv wd, iv (Int32.ofNat n), iv (Int32.ofNat s0), iv fl, iv (Int32.ofNat w), iv (Int32.ofNat s0), iv (Int32.ofNat s1), iv (Int32.ofNat s2), rv b1, iv dr, iv (Int32.ofNat rr), rv b5, rv b9, rv b16, .unset, .unset, .unset, .unset, .unset, .unset] [(.ref b16)]))
    refine own_go (fun t_ k_ => XS.iload X74.here hx rfl (hb hby at_270) rfl k_) ?_
    show OwnFin p e below s _ _ _ (T74.setTop (mkF m 272 #[iv wa, iv wb, iv wc, iv wd, iv (Int32.ofNat n), iv (Int32.ofNat s0), iv fl, iv (Int32.ofNat w), iv (Int32.ofNat s0), iv (Int32.ofNat s1), iv (Int32.ofNat s2), rv b1, iv dr, iv (Int32.ofNat rr), rv b5, rv b9, rv b16, .unset, .unset, .unset, .unset, .unset, .unset] [(.int (Int32.ofNat s2)), (.ref b16)]))
    refine own_go (fun t_ k_ => XS.iconst X74.here hx rfl (hb hby at_272) k_) ?_
    show OwnFin p e below s _ _ _ (T74.setTop (mkF m 273 #[iv wa, iv wb, iv wc, iv wd, iv (Int32.ofNat n), iv (Int32.ofNat s0), iv fl, iv (Int32.ofNat w), iv (Int32.ofNat s0), iv (Int32.ofNat s1), iv (Int32.ofNat s2), rv b1, iv dr, iv (Int32.ofNat rr), rv b5, rv b9, rv b16, .unset, .unset, .unset, .unset, .unset, .unset] [(.int (0 : Int32)), (.int (Int32.ofNat s2)), (.ref b16)]))
    obtain ⟨v75, T75, L75, X75, hQ75, st75⟩ := own_callV X74 hx hZ (y := (⟨"com/example/nearside/nearside/slotted/delay/FairBack", "add", "(II)V"⟩ : MethodName)) (z := (⟨"com/example/nearside/nearside/slotted/delay/FairBack", "add", "(II)V"⟩ : MethodName)) hown (hw _ (List.mem_of_getElem? (i := 58) rfl)) (hw _ (List.mem_of_getElem? (i := 59) rfl)) (notFace_of_selects (args := #[]) (mvT hZ (hw _ (List.mem_of_getElem? (i := 61) rfl)))) (hw _ (List.mem_of_getElem? (i := 61) rfl)) (hw _ (List.mem_of_getElem? (i := 60) rfl)) (hw _ (List.mem_of_getElem? (i := 8) rfl)) (hw _ (List.mem_of_getElem? (i := 62) rfl)) (by decide) (W := 0) (rm9 l Z a0 hw [] b16 (Int32.ofNat s2) (0 : Int32) aB aK aT aP aO aS s2 ((0 + 1) + 1) _ _ _ T74.heap n0 Z74 rfl hl_s2 (by decide) Eq74 Fq74_back Fq74_keys Fq74_retaken Fq74_positions Fq74_offeredFrom Fq74_starts Fq74_size Fq74_sorted Fq74_nextKey Fq74_retakenAt Fq74_retakenEnd Vq74B Vq74P Vq74O ne_b16_aB ne_b16_aP ne_b16_aO ne_aB_aP ne_aB_aO ne_aP_aO g_b16 g_aB g_aP g_aO) (by decide) (by decide) Eq74 (g := (mkF m 273 #[iv wa, iv wb, iv wc, iv wd, iv (Int32.ofNat n), iv (Int32.ofNat s0), iv fl, iv (Int32.ofNat w), iv (Int32.ofNat s0), iv (Int32.ofNat s1), iv (Int32.ofNat s2), rv b1, iv dr, iv (Int32.ofNat rr), rv b5, rv b9, rv b16, .unset, .unset, .unset, .unset, .unset, .unset] [(.int (0 : Int32)), (.int (Int32.ofNat s2)), (.ref b16)])) rfl (by rw [hml]; rfl) (argsL := [(.int (Int32.ofNat s2)), (.int (0 : Int32))]) (rest := []) (lenOf pd_0_1 rfl) rfl (by show 2 * 0 + _ ≤ _; exact Nat.le_of_eq rfl) (hb hby at_273) rfl rfl (by decide) (by decide)
    obtain ⟨rfl, Nq75, Kq75, Eq75, Fq75_back, Fq75_keys, Fq75_retaken, Fq75_positions, Fq75_offeredFrom, Fq75_starts, Fq75_size, Fq75_sorted, Fq75_nextKey, Fq75_retakenAt, Fq75_retakenEnd, Vq75B, gP75, gO75, Vq75P, Vq75O⟩ := hQ75
    have N75 := Fr.app N74 Nq75
    have V_rn_75 := V_rn_74.keep Kq75 (ninS ne_b1_b16 (ninS ne_b1_aB (ninS ne_b1_aP (ninS ne_b1_aO nin0))))
    have V_pr_75 := V_pr_74.keep Kq75 (ninS ne_b5_b16 (ninS ne_b5_aB (ninS ne_b5_aP (ninS ne_b5_aO nin0))))
    have V_e_75 := V_e_74.keep Kq75 (ninS ne_b9_b16 (ninS ne_b9_aB (ninS ne_b9_aP (ninS ne_b9_aO nin0))))
    have E_b16_75 := Eq74.keep Kq75
    have V_aK_75 := V_aK_74.keep Kq75 (ninS (Ne.symm ne_b16_aK) (ninS (Ne.symm ne_aB_aK) (ninS ne_aK_aP (ninS ne_aK_aO nin0))))
    have V_aT_75 := V_aT_74.keep Kq75 (ninS (Ne.symm ne_b16_aT) (ninS (Ne.symm ne_aB_aT) (ninS ne_aT_aP (ninS ne_aT_aO nin0))))
    have V_aS_75 := V_aS_74.keep Kq75 (ninS (Ne.symm ne_b16_aS) (ninS (Ne.symm ne_aB_aS) (ninS (Ne.symm ne_aP_aS) (ninS (Ne.symm ne_aO_aS) nin0))))
    have Z75 : n0 ≤ T75.heap.size := Nat.le_trans Z74 Kq75.1
    refine own_go st75 ?_
    show OwnFin p e below s _ _ _ (T75.setTop (mkF m 276 #[iv wa, iv wb, iv wc, iv wd, iv (Int32.ofNat n), iv (Int32.ofNat s0), iv fl, iv (Int32.ofNat w), iv (Int32.ofNat s0), iv (Int32.ofNat s1), iv (Int32.ofNat s2), rv b1, iv dr, iv (Int32.ofNat rr), rv b5, rv b9, rv b16, .unset, .unset, .unset, .unset, .unset, .unset] []))
    subst hN
    exact jadd _ _ _ T75 _ _ X75 rfl N75 Z75 V_rn_75 V_pr_75 V_e_75 Eq75 Fq75_back Fq75_keys Fq75_retaken Fq75_positions Fq75_offeredFrom Fq75_starts Fq75_size Fq75_sorted Fq75_nextKey Fq75_retakenAt Fq75_retakenEnd Vq75B V_aK_75 V_aT_75 Vq75P Vq75O V_aS_75 (fun k hk => by rcases (by omega : k = 0 ∨ k = 1 ∨ k = 2) with rfl | rfl | rfl <;> rfl)
set_option maxRecDepth 65536 in
set_option maxHeartbeats 40000000 in
theorem comes_1 {Post : Tables → Env → Array Value → State → Outcome → State → Prop} (hpost : ∀ tb e args s v u, (limb_1_1.after args s (.returned v) u = true ∧ limb_1_2.after args s (.returned v) u = true ∧ True) → FrameEnd s (.returned v) u (Jvm.fieldLocs frame_1_writes args s ++ Jvm.arrayLocs frame_1_arrays args s ++ Jvm.staticLocs frame_1_statics s) 32 192 → Post tb e args s (.returned v) u) :
    ArmFor flags0 classFile x code maxLocals ret World_1 tables_1 room_1 Calls_1 rest_1 Pre_1 Post := by
  intro l hfl _ _ p e ha hc hk s m args below hf hA hF happ hP
  obtain ⟨hcalls, hrest, hpre⟩ := hP
  obtain ⟨-, -, -, hnamed, -, -, -, hat⟩ := (Spec.applies_iff hf).mp happ
  obtain ⟨hg, hn⟩ := and_e (Cond.before_iff.mp (show (Jvm.Cond.and given_1 narrow_1).before args s = true from hpre))
  obtain ⟨g1, g2⟩ := and_e hg
  obtain ⟨g3, g4⟩ := and_e g2
  obtain ⟨g5, g6⟩ := and_e g4
  obtain ⟨g7, g8⟩ := and_e g6
  obtain ⟨w0, w1, w2, w3, rfl⟩ : ∃ w0 w1 w2 w3 : Value, args = #[w0, w1, w2, w3] := by
    have hs : args.size = 4 := by simpa [Cond.value, given_1] using g1
    obtain ⟨L⟩ := args
    match L, hs with
    | [w0, w1, w2, w3], _ => exact ⟨w0, w1, w2, w3, rfl⟩
  have hw := fun d (hd : d ∈ tables_1) => atoms_spec (ws := Jvm.Cond.code x code maxLocals ret :: tables_1) hat d (List.mem_cons_of_mem _ hd)
  have hfit : Fit s := fun {y c} hc i hi => by
    obtain ⟨ha, rfl⟩ := Array.getElem?_eq_some_iff.mp hc
    have q := List.all_eq_true.mp ((Array.all_eq_true_iff_forall_mem.mp hF) _ (Array.getElem_mem ha)) i (List.mem_range.mpr hi)
    simpa [Array.getElem?_eq_getElem hi] using q
  obtain ⟨i0, ei0⟩ := is_v g3
  obtain rfl : w0 = (.int i0) := Option.some.inj ei0
  obtain ⟨i1, ei1⟩ := is_v g5
  obtain rfl : w1 = (.int i1) := Option.some.inj ei1
  obtain ⟨i2, ei2⟩ := is_v g7
  obtain rfl : w2 = (.int i2) := Option.some.inj ei2
  obtain ⟨i3, ei3⟩ := is_v g8
  obtain rfl : w3 = (.int i3) := Option.some.inj ei3
  obtain ⟨n, o, h1, h2, h3, _, L, rfl, ⟨rfl, N⟩, hq⟩ := rm0 l s _ hw tables_1 i0 i1 i2 i3 s.heap s.heap.size (Nat.le_refl _) p e ha hc hk s m _ below hf ((Spec.applies_iff_loose hf).mp happ).1 ⟨rfl, State.Warmed39.refl s, rfl⟩ trivial
  refine ⟨n, _, h1, h2, h3, hpost _ _ _ _ _ _ ⟨Cond.after_iff.mpr rfl, Cond.after_iff.mpr (eq_i res_at (Term.int_eval (1)) rfl), trivial⟩ ⟨hq.1, hq.2.1, (hq.2.2.sift fun y hy => Or.inr (N y hy)).mono (by decide) (by decide)⟩⟩
theorem main_1_1 : Claimed_1_1 := comes_1 fun _ _ _ _ _ _ h hF => ⟨h.1, hF⟩
theorem main_1_2 : Claimed_1_2 := comes_1 fun _ _ _ _ _ _ h hF => ⟨h.2.1, hF⟩
end Jvm.Pilot.@@N@@
namespace Jvm.Pilot.@@N@@
open Jvm Jvm.ClassFile Sem Op Lib Jvm.Free Jvm.Stand Jvm.Pilot.@@N@@.Jvm.D
/-! MADE BY PROGRAM (witnessworld.py) out of the Statement's table words and the real class files: 15 classes; the members and pool entries that the words name. The judged class is class 1, her method 3. -/
namespace start1
open Jvm.ClassFile
def u (s : String) : CpInfo := .utf8 (stringToUtf16 s)
/-- a pool by its gaps: so many unusable entries, then the entry; so many at the end -/
def gap : Nat → List CpInfo → List CpInfo
  | 0, r => r
  | n + 1, r => .unusable :: gap n r
def poolList (es : List (Nat × CpInfo)) (last : Nat) : List CpInfo := es.foldr (fun e r => gap e.1 (e.2 :: r)) (gap last [])
def pool (es : List (Nat × CpInfo)) (last : Nat) : Array CpInfo := ⟨poolList es last⟩
def fileOf (pool : Array CpInfo) (this : Nat) (attrs : Array Attribute := #[]) (ms : Array MethodInfo := #[]) (fl : Nat := 33) (sup : Nat := 0) (ifs : Array Nat := #[]) (fds : Array FieldInfo := #[]) : ClassFile where
  minorVersion := 0
  majorVersion := 65
  constantPool := pool
  accessFlags := fl
  thisClass := this
  superClass := sup
  interfaces := ifs
  fields := fds
  methods := ms
  attributes := attrs
def plain (name : String) (sup : Option ClassId) : Class where
  name := name
  kind := .ordinary
  loader := none
  accessFlags := 33
  super := sup
  interfaces := #[]
  cf := none
  fields := #[]
  methods := #[]
  instanceTypes := #[]
  staticTypes := #[]
  resolved := #[]
  callSites := []
  init := .initialized
  statics := none
  mirror := none

def pool0 : Array CpInfo := pool [(5, u "<init>"), (0, u "()V"), (1, .class_ 10), (1, u "java/lang/Object")] 113

def k0c0 : Code := { maxStack := 0, maxLocals := 1, code := object_method_1_code, exceptionTable := #[], attributes := #[] }
def k0m0 : Method := { name := "<init>", desc := "()V", sig := { parameters := [], returnType := none }, accessFlags := 1, code := some k0c0 }
/-- java/lang/Object -/
def k0 : Class := { plain "java/lang/Object" none with
  accessFlags := 33
  interfaces := #[]
  cf := some (fileOf pool0 8 #[] #[{ accessFlags := 1, nameIndex := 5, descriptorIndex := 6, attributes := #[] }] 33 0 #[] #[])
  fields := #[]
  methods := #[k0m0]
  instanceTypes := #[]
  staticTypes := #[]
  resolved := Array.replicate 124 none
  statics := none }

def pool1 : Array CpInfo := pool [(2, .class_ 4), (1, u "java/lang/Object"), (0, u "<init>"), (0, u "()V"), (0, .methodref 8 9), (0, .class_ 10), (0, .nameAndType 11 12), (0, u "com/example/nearside/nearside/slotted/delay/FairBackNextPinLaw"), (0, u "key"), (0, u "([II)I"), (0, .methodref 8 14), (0, .nameAndType 15 16), (0, u "place"), (0, u "([I[Z[II)V"), (0, .class_ 18), (0, u "com/example/nearside/nearside/slotted/delay/FairBack"), (0, .methodref 17 20), (0, .nameAndType 5 21), (0, u "(II)V"), (0, .methodref 17 23), (0, .nameAndType 24 21), (0, u "add"), (0, .methodref 17 26), (0, .nameAndType 27 28), (0, u "sort"), (0, u "([II)V"), (0, .methodref 17 30), (0, .nameAndType 31 32), (0, u "next"), (0, u "()I"), (0, .methodref 17 34), (0, .nameAndType 35 36), (0, u "retake"), (0, u "(III)V"), (3, u "law"), (0, u "(IIII)Z")] 6

def k1m0 : Method := { name := "<init>", desc := "()V", sig := { parameters := [], returnType := none }, accessFlags := 1, code := none }
def k1c1 : Code := { maxStack := 2, maxLocals := 2, code := method_2_code, exceptionTable := #[], attributes := #[] }
def k1m1 : Method := { name := "key", desc := "([II)I", sig := { parameters := [(.array .int), .int], returnType := some .int }, accessFlags := 10, code := some k1c1 }
def k1c2 : Code := { maxStack := 3, maxLocals := 7, code := method_3_code, exceptionTable := #[], attributes := #[] }
def k1m2 : Method := { name := "place", desc := "([I[Z[II)V", sig := { parameters := [(.array .int), (.array .boolean), (.array .int), .int], returnType := none }, accessFlags := 10, code := some k1c2 }
def k1c3 : Code := { maxStack := 5, maxLocals := 23, code := code, exceptionTable := #[], attributes := #[] }
def k1m3 : Method := { name := "law", desc := "(IIII)Z", sig := { parameters := [.int, .int, .int, .int], returnType := some .boolean }, accessFlags := 9, code := some k1c3 }
/-- com/example/nearside/nearside/slotted/delay/FairBackNextPinLaw -/
def k1 : Class := { plain "com/example/nearside/nearside/slotted/delay/FairBackNextPinLaw" (some 0) with
  accessFlags := 49
  interfaces := #[]
  cf := some (fileOf pool1 8 #[] #[{ accessFlags := 1, nameIndex := 5, descriptorIndex := 6, attributes := #[] }, { accessFlags := 10, nameIndex := 11, descriptorIndex := 12, attributes := #[] }, { accessFlags := 10, nameIndex := 15, descriptorIndex := 16, attributes := #[] }, { accessFlags := 9, nameIndex := 40, descriptorIndex := 41, attributes := #[] }] 49 2 #[] #[])
  fields := #[]
  methods := #[k1m0, k1m1, k1m2, k1m3]
  instanceTypes := #[]
  staticTypes := #[]
  resolved := Array.replicate 48 none
  statics := none }

def pool2 : Array CpInfo := pool [(1, .methodref 2 3), (0, .class_ 4), (0, .nameAndType 5 6), (0, u "java/lang/Object"), (0, u "<init>"), (0, u "()V"), (0, .fieldref 8 9), (0, .class_ 10), (0, .nameAndType 11 12), (0, u "com/example/nearside/nearside/slotted/delay/FairBack"), (0, u "starts"), (0, u "[I"), (0, .fieldref 8 14), (0, .nameAndType 15 12), (0, u "back"), (0, .fieldref 8 17), (0, .nameAndType 18 19), (0, u "keys"), (0, u "[J"), (0, .fieldref 8 21), (0, .nameAndType 22 19), (0, u "retaken"), (0, .fieldref 8 24), (0, .nameAndType 25 12), (0, u "positions"), (0, .fieldref 8 27), (0, .nameAndType 28 12), (0, u "offeredFrom"), (0, .fieldref 8 30), (0, .nameAndType 31 32), (0, u "size"), (0, u "I"), (0, .methodref 8 34), (0, .nameAndType 35 36), (0, u "key"), (0, u "(II)J"), (0, .methodref 38 39), (0, .class_ 40), (0, .nameAndType 41 42), (0, u "java/lang/Math"), (0, u "max"), (0, u "(II)I"), (0, .methodref 44 45), (0, .class_ 46), (0, .nameAndType 47 48), (0, u "java/util/Arrays"), (0, u "fill"), (0, u "([IIII)V"), (0, .fieldref 8 50), (0, .nameAndType 51 32), (0, u "sorted"), (0, .fieldref 8 53), (0, .nameAndType 54 32), (0, u "nextKey"), (0, .fieldref 8 56), (0, .nameAndType 57 32), (0, u "retakenAt"), (0, .fieldref 8 59), (0, .nameAndType 60 32), (0, u "retakenEnd"), (12, u "NONE"), (2, u "(II)V"), (2, u "()I"), (0, u "add"), (2, u "sort"), (0, u "([II)V"), (1, u "next"), (1, u "retake"), (0, u "(III)V")] 28

def k2c0 : Code := { maxStack := 2, maxLocals := 3, code := prog_156_method_1_code, exceptionTable := #[], attributes := #[] }
def k2m0 : Method := { name := "<init>", desc := "(II)V", sig := { parameters := [.int, .int], returnType := none }, accessFlags := 0, code := some k2c0 }
def k2c1 : Code := { maxStack := 3, maxLocals := 3, code := prog_156_method_3_code, exceptionTable := #[], attributes := #[] }
def k2m1 : Method := { name := "add", desc := "(II)V", sig := { parameters := [.int, .int], returnType := none }, accessFlags := 0, code := some k2c1 }
def k2c2 : Code := { maxStack := 6, maxLocals := 8, code := prog_156_method_5_code, exceptionTable := #[], attributes := #[] }
def k2m2 : Method := { name := "sort", desc := "([II)V", sig := { parameters := [(.array .int), .int], returnType := none }, accessFlags := 0, code := some k2c2 }
def k2c3 : Code := { maxStack := 4, maxLocals := 3, code := prog_156_method_6_code, exceptionTable := #[], attributes := #[] }
def k2m3 : Method := { name := "next", desc := "()I", sig := { parameters := [], returnType := some .int }, accessFlags := 0, code := some k2c3 }
def k2c4 : Code := { maxStack := 5, maxLocals := 7, code := prog_156_method_8_code, exceptionTable := #[], attributes := #[] }
def k2m4 : Method := { name := "retake", desc := "(III)V", sig := { parameters := [.int, .int, .int], returnType := none }, accessFlags := 0, code := some k2c4 }
def k2c5 : Code := { maxStack := 4, maxLocals := 2, code := prog_156_method_10_code, exceptionTable := #[], attributes := #[] }
def k2m5 : Method := { name := "key", desc := "(II)J", sig := { parameters := [.int, .int], returnType := some .long }, accessFlags := 10, code := some k2c5 }
/-- com/example/nearside/nearside/slotted/delay/FairBack -/
def k2 : Class := { plain "com/example/nearside/nearside/slotted/delay/FairBack" (some 0) with
  accessFlags := 48
  interfaces := #[]
  cf := some (fileOf pool2 8 #[] #[{ accessFlags := 0, nameIndex := 5, descriptorIndex := 76, attributes := #[] }, { accessFlags := 0, nameIndex := 80, descriptorIndex := 76, attributes := #[] }, { accessFlags := 0, nameIndex := 83, descriptorIndex := 84, attributes := #[] }, { accessFlags := 0, nameIndex := 86, descriptorIndex := 79, attributes := #[] }, { accessFlags := 0, nameIndex := 88, descriptorIndex := 89, attributes := #[] }, { accessFlags := 10, nameIndex := 35, descriptorIndex := 36, attributes := #[] }] 48 2 #[] #[{ accessFlags := 24, nameIndex := 73, descriptorIndex := 32, attributes := #[] }, { accessFlags := 18, nameIndex := 15, descriptorIndex := 12, attributes := #[] }, { accessFlags := 2, nameIndex := 31, descriptorIndex := 32, attributes := #[] }, { accessFlags := 2, nameIndex := 25, descriptorIndex := 12, attributes := #[] }, { accessFlags := 2, nameIndex := 28, descriptorIndex := 12, attributes := #[] }, { accessFlags := 18, nameIndex := 18, descriptorIndex := 19, attributes := #[] }, { accessFlags := 2, nameIndex := 11, descriptorIndex := 12, attributes := #[] }, { accessFlags := 18, nameIndex := 22, descriptorIndex := 19, attributes := #[] }, { accessFlags := 2, nameIndex := 51, descriptorIndex := 32, attributes := #[] }, { accessFlags := 2, nameIndex := 54, descriptorIndex := 32, attributes := #[] }, { accessFlags := 2, nameIndex := 57, descriptorIndex := 32, attributes := #[] }, { accessFlags := 2, nameIndex := 60, descriptorIndex := 32, attributes := #[] }])
  fields := #[{ name := "NONE", type := .int, accessFlags := 24, slot := 0, constantValue := 0 }, { name := "back", type := (.array .int), accessFlags := 18, slot := 0, constantValue := 0 }, { name := "size", type := .int, accessFlags := 2, slot := 1, constantValue := 0 }, { name := "positions", type := (.array .int), accessFlags := 2, slot := 2, constantValue := 0 }, { name := "offeredFrom", type := (.array .int), accessFlags := 2, slot := 3, constantValue := 0 }, { name := "keys", type := (.array .long), accessFlags := 18, slot := 4, constantValue := 0 }, { name := "starts", type := (.array .int), accessFlags := 2, slot := 5, constantValue := 0 }, { name := "retaken", type := (.array .long), accessFlags := 18, slot := 6, constantValue := 0 }, { name := "sorted", type := .int, accessFlags := 2, slot := 7, constantValue := 0 }, { name := "nextKey", type := .int, accessFlags := 2, slot := 8, constantValue := 0 }, { name := "retakenAt", type := .int, accessFlags := 2, slot := 9, constantValue := 0 }, { name := "retakenEnd", type := .int, accessFlags := 2, slot := 10, constantValue := 0 }]
  methods := #[k2m0, k2m1, k2m2, k2m3, k2m4, k2m5]
  instanceTypes := #[(.array .int), .int, (.array .int), (.array .int), (.array .long), (.array .int), (.array .long), .int, .int, .int, .int]
  staticTypes := #[.int]
  resolved := Array.replicate 118 none
  statics := none }

def pool3 : Array CpInfo := pool [(2, .class_ 4), (1, u "java/lang/Object"), (0, u "<init>"), (0, u "()V"), (5, u "([IIII)V"), (0, .methodref 14 15), (0, .class_ 16), (0, .nameAndType 17 18), (0, u "java/util/Arrays"), (0, u "rangeCheck"), (0, u "(III)V"), (55, .class_ 76), (1, u "java/util/Arrays$NaturalOrder"), (36, .class_ 115), (1, u "java/util/Arrays$LegacyMergeSort"), (1, u "Z"), (257, .class_ 376), (0, u "java/util/Arrays$ArrayList"), (68, u "$assertionsDisabled"), (269, u "MIN_ARRAY_SORT_GRAN"), (0, u "I"), (2, u "INSERTIONSORT_THRESHOLD"), (120, u "fill"), (134, .class_ 976), (0, u "java/util/Arrays$ArrayItr")] 52

def k3m0 : Method := { name := "<init>", desc := "()V", sig := { parameters := [], returnType := none }, accessFlags := 2, code := none }
def k3c1 : Code := { maxStack := 4, maxLocals := 3, code := jdk_65_method_30_code, exceptionTable := #[], attributes := #[] }
def k3m1 : Method := { name := "rangeCheck", desc := "(III)V", sig := { parameters := [.int, .int, .int], returnType := none }, accessFlags := 8, code := some k3c1 }
def k3c2 : Code := { maxStack := 3, maxLocals := 5, code := jdk_65_method_104_code, exceptionTable := #[], attributes := #[] }
def k3m2 : Method := { name := "fill", desc := "([IIII)V", sig := { parameters := [(.array .int), .int, .int, .int], returnType := none }, accessFlags := 9, code := some k3c2 }
/-- java/util/Arrays -/
def k3 : Class := { plain "java/util/Arrays" (some 0) with
  accessFlags := 49
  interfaces := #[]
  cf := some (fileOf pool3 14 #[.nestMembers #[975, 375, 113, 74]] #[{ accessFlags := 2, nameIndex := 5, descriptorIndex := 6, attributes := #[] }, { accessFlags := 8, nameIndex := 17, descriptorIndex := 18, attributes := #[] }, { accessFlags := 9, nameIndex := 840, descriptorIndex := 12, attributes := #[] }] 49 2 #[] #[{ accessFlags := 26, nameIndex := 715, descriptorIndex := 716, attributes := #[] }, { accessFlags := 26, nameIndex := 719, descriptorIndex := 716, attributes := #[] }, { accessFlags := 4120, nameIndex := 445, descriptorIndex := 117, attributes := #[] }])
  fields := #[{ name := "MIN_ARRAY_SORT_GRAN", type := .int, accessFlags := 26, slot := 0, constantValue := 0 }, { name := "INSERTIONSORT_THRESHOLD", type := .int, accessFlags := 26, slot := 1, constantValue := 0 }, { name := "$assertionsDisabled", type := .boolean, accessFlags := 4120, slot := 2, constantValue := 0 }]
  methods := #[k3m0, k3m1, k3m2]
  instanceTypes := #[]
  staticTypes := #[.int, .int, .boolean]
  resolved := Array.replicate 1029 none
  statics := none }

def pool4 : Array CpInfo := pool [(1, .class_ 2), (0, u "java/lang/Math"), (1, .class_ 6), (1, u "java/lang/Object"), (0, u "<init>"), (0, u "()V"), (89, .class_ 100), (1, u "java/lang/Math$RandomNumberGeneratorHolder"), (71, u "negativeZeroFloatBits"), (0, u "J"), (2, u "negativeZeroDoubleBits"), (21, u "max"), (46, u "$assertionsDisabled"), (0, u "Z"), (88, u "(II)I"), (2, u "twoToTheDoubleScaleDown"), (0, u "D"), (4, u "twoToTheDoubleScaleUp"), (9, u "E"), (3, u "PI"), (2, u "TAU"), (2, u "DEGREES_TO_RADIANS"), (0, u "RADIANS_TO_DEGREES")] 94

def k4m0 : Method := { name := "<init>", desc := "()V", sig := { parameters := [], returnType := none }, accessFlags := 2, code := none }
def k4c1 : Code := { maxStack := 2, maxLocals := 2, code := jdk_29_method_65_code, exceptionTable := #[], attributes := #[] }
def k4m1 : Method := { name := "max", desc := "(II)I", sig := { parameters := [.int, .int], returnType := some .int }, accessFlags := 9, code := some k4c1 }
/-- java/lang/Math -/
def k4 : Class := { plain "java/lang/Math" (some 0) with
  accessFlags := 49
  interfaces := #[]
  cf := some (fileOf pool4 1 #[.nestMembers #[98]] #[{ accessFlags := 2, nameIndex := 7, descriptorIndex := 8, attributes := #[] }, { accessFlags := 9, nameIndex := 198, descriptorIndex := 335, attributes := #[] }] 49 4 #[] #[{ accessFlags := 25, nameIndex := 354, descriptorIndex := 339, attributes := #[] }, { accessFlags := 25, nameIndex := 358, descriptorIndex := 339, attributes := #[] }, { accessFlags := 25, nameIndex := 361, descriptorIndex := 339, attributes := #[] }, { accessFlags := 26, nameIndex := 364, descriptorIndex := 339, attributes := #[] }, { accessFlags := 26, nameIndex := 365, descriptorIndex := 339, attributes := #[] }, { accessFlags := 26, nameIndex := 172, descriptorIndex := 173, attributes := #[] }, { accessFlags := 26, nameIndex := 176, descriptorIndex := 173, attributes := #[] }, { accessFlags := 8, nameIndex := 344, descriptorIndex := 339, attributes := #[] }, { accessFlags := 8, nameIndex := 338, descriptorIndex := 339, attributes := #[] }, { accessFlags := 4120, nameIndex := 245, descriptorIndex := 246, attributes := #[] }])
  fields := #[{ name := "E", type := .double, accessFlags := 25, slot := 0, constantValue := 0 }, { name := "PI", type := .double, accessFlags := 25, slot := 1, constantValue := 0 }, { name := "TAU", type := .double, accessFlags := 25, slot := 2, constantValue := 0 }, { name := "DEGREES_TO_RADIANS", type := .double, accessFlags := 26, slot := 3, constantValue := 0 }, { name := "RADIANS_TO_DEGREES", type := .double, accessFlags := 26, slot := 4, constantValue := 0 }, { name := "negativeZeroFloatBits", type := .long, accessFlags := 26, slot := 5, constantValue := 0 }, { name := "negativeZeroDoubleBits", type := .long, accessFlags := 26, slot := 6, constantValue := 0 }, { name := "twoToTheDoubleScaleUp", type := .double, accessFlags := 8, slot := 7, constantValue := 0 }, { name := "twoToTheDoubleScaleDown", type := .double, accessFlags := 8, slot := 8, constantValue := 0 }, { name := "$assertionsDisabled", type := .boolean, accessFlags := 4120, slot := 9, constantValue := 0 }]
  methods := #[k4m0, k4m1]
  instanceTypes := #[]
  staticTypes := #[.double, .double, .double, .double, .double, .long, .long, .double, .double, .boolean]
  resolved := Array.replicate 460 none
  statics := none }

def pool5 : Array CpInfo := pool [(1, u "java/lang/Cloneable"), (0, .class_ 1), (0, u "java/lang/Object"), (0, .class_ 3)] 3

/-- java/lang/Cloneable -/
def k5 : Class := { plain "java/lang/Cloneable" (some 0) with
  accessFlags := 1537
  interfaces := #[]
  cf := some (fileOf pool5 2 #[] #[] 1537 4 #[] #[])
  fields := #[]
  methods := #[]
  instanceTypes := #[]
  staticTypes := #[]
  resolved := Array.replicate 8 none
  statics := none }

def pool6 : Array CpInfo := pool [(1, u "java/io/Serializable"), (0, .class_ 1), (0, u "java/lang/Object"), (0, .class_ 3)] 3

/-- java/io/Serializable -/
def k6 : Class := { plain "java/io/Serializable" (some 0) with
  accessFlags := 1537
  interfaces := #[]
  cf := some (fileOf pool6 2 #[] #[] 1537 4 #[] #[])
  fields := #[]
  methods := #[]
  instanceTypes := #[]
  staticTypes := #[]
  resolved := Array.replicate 8 none
  statics := none }

/-- the primitive boolean -/
def k7 : Class := { plain "boolean" none with kind := .primitive 'Z', accessFlags := 0x411 }
/-- [Z -/
def k8 : Class := { plain "[Z" (some 0) with kind := .array 7 .boolean, interfaces := #[5, 6], accessFlags := 1041 }

/-- the primitive byte -/
def k9 : Class := { plain "byte" none with kind := .primitive 'B', accessFlags := 0x411 }
/-- [B -/
def k10 : Class := { plain "[B" (some 0) with kind := .array 9 .byte, interfaces := #[5, 6], accessFlags := 1041 }

/-- the primitive int -/
def k11 : Class := { plain "int" none with kind := .primitive 'I', accessFlags := 0x411 }
/-- [I -/
def k12 : Class := { plain "[I" (some 0) with kind := .array 11 .int, interfaces := #[5, 6], accessFlags := 1041 }

/-- the primitive long -/
def k13 : Class := { plain "long" none with kind := .primitive 'J', accessFlags := 0x411 }
/-- [J -/
def k14 : Class := { plain "[J" (some 0) with kind := .array 13 .long, interfaces := #[5, 6], accessFlags := 1041 }

def heap : Heap := #[]
def classes : Array Class := #[k0, k1, k2, k3, k4, k5, k6, k7, k8, k9, k10, k11, k12, k13, k14]
def interned : List (Array UInt16 × Addr) := []
def slotsUsed : Nat := 0
def theMethod : MethodId := ⟨1, 3⟩
def args0 : Array Value := #[.int 7, .int 300, .int 27, .int 5]
def aboutOver (below : List Frame) : State where
  vm := { classes := classes, interned := interned.toArray }
  heap := heap
  slotsUsed := slotsUsed
  threads := #[{ frames := .invoking theMethod args0 :: below }]
def below0 : List Frame := [.native { method := ⟨0, 0⟩, args := #[] }]
def about1 : State := aboutOver below0
def p0 : Program := .bare "" "" ""
def e0 : Env := launch0.env 0 0 0
theorem w_frames : about1.frames = Frame.invoking theMethod args0 :: below0 := rfl
set_option maxRecDepth 65536 in
theorem w_args : argsFit about1.vm theMethod args0 = true := by decide +kernel
set_option maxRecDepth 65536 in
theorem w_heap : heapFits about1 = true := by decide +kernel
set_option maxRecDepth 65536 in
theorem w_runnable : about1.curStatus? = some .runnable := by decide +kernel
set_option maxRecDepth 65536 in
theorem w_alone : about1.alone = true := by decide +kernel
set_option maxRecDepth 65536 in
theorem w_named : about1.methodNamed? x = some theMethod := by decide +kernel
set_option maxRecDepth 65536 in
theorem w_hears : about1.hears theMethod below0 = true := by decide +kernel
set_option maxRecDepth 65536 in
theorem w_ripe : about1.ripe theMethod args0 below0 = true := by decide +kernel
theorem w_running : about1.status = .running := rfl
set_option maxRecDepth 65536 in
theorem w_room : about1.hasRoom e0.platform room_1 = true :=
  launch0.hasRoom_least _ room_1 (by decide +kernel) (by decide +kernel) (by decide +kernel) (by decide +kernel) (by decide +kernel) (by decide +kernel)
theorem allAtoms_all (ts : List Jvm.Cond) (a : Array Jvm.Value) (st : Jvm.State) : (allAtoms ts).before a st = ts.all (fun c => c.before a st) := by
  induction ts with
  | nil => rfl
  | cons c t ih =>
    show (Jvm.Cond.and c (allAtoms t)).before a st = _
    rw [Jvm.Cond.before_and, ih, List.all_cons]
def words1 : List Jvm.Cond := Jvm.Cond.code x code maxLocals ret :: tables_1
/-- a 'code' word, met by the world's own term for the bytes: nothing is compared byte by byte -/
theorem code_word {y : MethodName} {bytes : ByteArray} {mx : Nat} {rt : Option FieldType} {a : Array Value} {s : State} {m : MethodId} {meth : Method} {c : Code} (h1 : s.methodNamed? y = some m) (h2 : s.vm.method? m = some meth) (h3 : meth.code = some c) (h4 : c.code = bytes)
    (h5 : (c.maxLocals == mx && c.exceptionTable.isEmpty && decide (c.maxStack ≤ mostOperands) && decide (meth.sig.returnType = rt) && !meth.locks && decide (parseMethodDescriptor y.desc = some meth.sig)) = true) : (Jvm.Cond.code y bytes mx rt).before a s = true := by
  simp only [Bool.and_eq_true, beq_iff_eq, Bool.not_eq_true', decide_eq_true_eq] at h5
  obtain ⟨⟨⟨⟨⟨g1, g2⟩, g3⟩, g4⟩, g5⟩, g6⟩ := h5
  simp [Cond.before, Cond.holds, Cond.value, h1, h2, h3, h4, g1, g2, g3, g4, g5, g6]
def isCode : Jvm.Cond → Bool
  | .code _ _ _ _ => true
  | _ => false
theorem all_split {L : List Jvm.Cond} {P : Jvm.Cond → Bool} (h1 : L.all (fun c => isCode c || P c) = true) (h2 : ∀ c ∈ L.filter isCode, P c = true) : L.all P = true := by
  refine List.all_eq_true.mpr fun c hc => ?_
  have h := List.all_eq_true.mp h1 c hc
  rcases Bool.eq_false_or_eq_true (isCode c) with hi | hi
  · exact h2 c (List.mem_filter.mpr ⟨hc, hi⟩)
  · simpa [hi] using h
set_option maxRecDepth 65536 in
theorem w_c0 : (Jvm.Cond.code x code maxLocals ret).before args0 about1 = true := code_word (m := ⟨1, 3⟩) (meth := k1m3) (c := k1c3) (by decide +kernel) rfl rfl rfl (by decide +kernel)
set_option maxRecDepth 65536 in
theorem w_c1 : (Jvm.Cond.code ({ cls := "com/example/nearside/nearside/slotted/delay/FairBackNextPinLaw", name := "place", desc := "([I[Z[II)V" } : Jvm.MethodName) method_3_code (7 : Nat) (Option.none : Option Jvm.ClassFile.FieldType)).before args0 about1 = true := code_word (m := ⟨1, 2⟩) (meth := k1m2) (c := k1c2) (by decide +kernel) rfl rfl rfl (by decide +kernel)
set_option maxRecDepth 65536 in
theorem w_c2 : (Jvm.Cond.code ({ cls := "com/example/nearside/nearside/slotted/delay/FairBack", name := "<init>", desc := "(II)V" } : Jvm.MethodName) prog_156_method_1_code (3 : Nat) (Option.none : Option Jvm.ClassFile.FieldType)).before args0 about1 = true := code_word (m := ⟨2, 0⟩) (meth := k2m0) (c := k2c0) (by decide +kernel) rfl rfl rfl (by decide +kernel)
set_option maxRecDepth 65536 in
theorem w_c3 : (Jvm.Cond.code ({ cls := "java/lang/Object", name := "<init>", desc := "()V" } : Jvm.MethodName) object_method_1_code (1 : Nat) (Option.none : Option Jvm.ClassFile.FieldType)).before args0 about1 = true := code_word (m := ⟨0, 0⟩) (meth := k0m0) (c := k0c0) (by decide +kernel) rfl rfl rfl (by decide +kernel)
set_option maxRecDepth 65536 in
theorem w_c4 : (Jvm.Cond.code ({ cls := "com/example/nearside/nearside/slotted/delay/FairBack", name := "sort", desc := "([II)V" } : Jvm.MethodName) prog_156_method_5_code (8 : Nat) (Option.none : Option Jvm.ClassFile.FieldType)).before args0 about1 = true := code_word (m := ⟨2, 2⟩) (meth := k2m2) (c := k2c2) (by decide +kernel) rfl rfl rfl (by decide +kernel)
set_option maxRecDepth 65536 in
theorem w_c5 : (Jvm.Cond.code ({ cls := "java/util/Arrays", name := "fill", desc := "([IIII)V" } : Jvm.MethodName) jdk_65_method_104_code (5 : Nat) (Option.none : Option Jvm.ClassFile.FieldType)).before args0 about1 = true := code_word (m := ⟨3, 2⟩) (meth := k3m2) (c := k3c2) (by decide +kernel) rfl rfl rfl (by decide +kernel)
set_option maxRecDepth 65536 in
theorem w_c6 : (Jvm.Cond.code ({ cls := "java/util/Arrays", name := "rangeCheck", desc := "(III)V" } : Jvm.MethodName) jdk_65_method_30_code (3 : Nat) (Option.none : Option Jvm.ClassFile.FieldType)).before args0 about1 = true := code_word (m := ⟨3, 1⟩) (meth := k3m1) (c := k3c1) (by decide +kernel) rfl rfl rfl (by decide +kernel)
set_option maxRecDepth 65536 in
theorem w_c7 : (Jvm.Cond.code ({ cls := "com/example/nearside/nearside/slotted/delay/FairBack", name := "next", desc := "()I" } : Jvm.MethodName) prog_156_method_6_code (3 : Nat) (Option.some Jvm.ClassFile.FieldType.int)).before args0 about1 = true := code_word (m := ⟨2, 3⟩) (meth := k2m3) (c := k2c3) (by decide +kernel) rfl rfl rfl (by decide +kernel)
set_option maxRecDepth 65536 in
theorem w_c8 : (Jvm.Cond.code ({ cls := "com/example/nearside/nearside/slotted/delay/FairBackNextPinLaw", name := "key", desc := "([II)I" } : Jvm.MethodName) method_2_code (2 : Nat) (Option.some Jvm.ClassFile.FieldType.int)).before args0 about1 = true := code_word (m := ⟨1, 1⟩) (meth := k1m1) (c := k1c1) (by decide +kernel) rfl rfl rfl (by decide +kernel)
set_option maxRecDepth 65536 in
theorem w_c9 : (Jvm.Cond.code ({ cls := "com/example/nearside/nearside/slotted/delay/FairBack", name := "add", desc := "(II)V" } : Jvm.MethodName) prog_156_method_3_code (3 : Nat) (Option.none : Option Jvm.ClassFile.FieldType)).before args0 about1 = true := code_word (m := ⟨2, 1⟩) (meth := k2m1) (c := k2c1) (by decide +kernel) rfl rfl rfl (by decide +kernel)
set_option maxRecDepth 65536 in
theorem w_c10 : (Jvm.Cond.code ({ cls := "com/example/nearside/nearside/slotted/delay/FairBack", name := "key", desc := "(II)J" } : Jvm.MethodName) prog_156_method_10_code (2 : Nat) (Option.some Jvm.ClassFile.FieldType.long)).before args0 about1 = true := code_word (m := ⟨2, 5⟩) (meth := k2m5) (c := k2c5) (by decide +kernel) rfl rfl rfl (by decide +kernel)
set_option maxRecDepth 65536 in
theorem w_c11 : (Jvm.Cond.code ({ cls := "java/lang/Math", name := "max", desc := "(II)I" } : Jvm.MethodName) jdk_29_method_65_code (2 : Nat) (Option.some Jvm.ClassFile.FieldType.int)).before args0 about1 = true := code_word (m := ⟨4, 1⟩) (meth := k4m1) (c := k4c1) (by decide +kernel) rfl rfl rfl (by decide +kernel)
set_option maxRecDepth 65536 in
theorem w_c12 : (Jvm.Cond.code ({ cls := "com/example/nearside/nearside/slotted/delay/FairBack", name := "retake", desc := "(III)V" } : Jvm.MethodName) prog_156_method_8_code (7 : Nat) (Option.none : Option Jvm.ClassFile.FieldType)).before args0 about1 = true := code_word (m := ⟨2, 4⟩) (meth := k2m4) (c := k2c4) (by decide +kernel) rfl rfl rfl (by decide +kernel)
def codes1 : List Jvm.Cond := [Jvm.Cond.code x code maxLocals ret, Jvm.Cond.code ({ cls := "com/example/nearside/nearside/slotted/delay/FairBackNextPinLaw", name := "place", desc := "([I[Z[II)V" } : Jvm.MethodName) method_3_code (7 : Nat) (Option.none : Option Jvm.ClassFile.FieldType), Jvm.Cond.code ({ cls := "com/example/nearside/nearside/slotted/delay/FairBack", name := "<init>", desc := "(II)V" } : Jvm.MethodName) prog_156_method_1_code (3 : Nat) (Option.none : Option Jvm.ClassFile.FieldType), Jvm.Cond.code ({ cls := "java/lang/Object", name := "<init>", desc := "()V" } : Jvm.MethodName) object_method_1_code (1 : Nat) (Option.none : Option Jvm.ClassFile.FieldType), Jvm.Cond.code ({ cls := "com/example/nearside/nearside/slotted/delay/FairBack", name := "sort", desc := "([II)V" } : Jvm.MethodName) prog_156_method_5_code (8 : Nat) (Option.none : Option Jvm.ClassFile.FieldType), Jvm.Cond.code ({ cls := "java/util/Arrays", name := "fill", desc := "([IIII)V" } : Jvm.MethodName) jdk_65_method_104_code (5 : Nat) (Option.none : Option Jvm.ClassFile.FieldType), Jvm.Cond.code ({ cls := "java/util/Arrays", name := "rangeCheck", desc := "(III)V" } : Jvm.MethodName) jdk_65_method_30_code (3 : Nat) (Option.none : Option Jvm.ClassFile.FieldType), Jvm.Cond.code ({ cls := "com/example/nearside/nearside/slotted/delay/FairBack", name := "next", desc := "()I" } : Jvm.MethodName) prog_156_method_6_code (3 : Nat) (Option.some Jvm.ClassFile.FieldType.int), Jvm.Cond.code ({ cls := "com/example/nearside/nearside/slotted/delay/FairBackNextPinLaw", name := "key", desc := "([II)I" } : Jvm.MethodName) method_2_code (2 : Nat) (Option.some Jvm.ClassFile.FieldType.int), Jvm.Cond.code ({ cls := "com/example/nearside/nearside/slotted/delay/FairBack", name := "add", desc := "(II)V" } : Jvm.MethodName) prog_156_method_3_code (3 : Nat) (Option.none : Option Jvm.ClassFile.FieldType), Jvm.Cond.code ({ cls := "com/example/nearside/nearside/slotted/delay/FairBack", name := "key", desc := "(II)J" } : Jvm.MethodName) prog_156_method_10_code (2 : Nat) (Option.some Jvm.ClassFile.FieldType.long), Jvm.Cond.code ({ cls := "java/lang/Math", name := "max", desc := "(II)I" } : Jvm.MethodName) jdk_29_method_65_code (2 : Nat) (Option.some Jvm.ClassFile.FieldType.int), Jvm.Cond.code ({ cls := "com/example/nearside/nearside/slotted/delay/FairBack", name := "retake", desc := "(III)V" } : Jvm.MethodName) prog_156_method_8_code (7 : Nat) (Option.none : Option Jvm.ClassFile.FieldType)]
set_option maxRecDepth 65536 in
theorem codes_eq : words1.filter isCode = codes1 := rfl
theorem w_codes : ∀ c ∈ words1.filter isCode, c.before args0 about1 = true := by
  rw [codes_eq]
  intro c hc
  simp only [codes1, List.mem_cons, List.not_mem_nil, or_false] at hc
  rcases hc with rfl | rfl | rfl | rfl | rfl | rfl | rfl | rfl | rfl | rfl | rfl | rfl | rfl
  · exact w_c0
  · exact w_c1
  · exact w_c2
  · exact w_c3
  · exact w_c4
  · exact w_c5
  · exact w_c6
  · exact w_c7
  · exact w_c8
  · exact w_c9
  · exact w_c10
  · exact w_c11
  · exact w_c12
set_option maxRecDepth 65536 in
theorem w_t1 : (words1.take 24).all (fun c => isCode c || c.before args0 about1) = true := by decide +kernel
set_option maxRecDepth 65536 in
theorem w_t2 : ((words1.drop 24).take 24).all (fun c => isCode c || c.before args0 about1) = true := by decide +kernel
set_option maxRecDepth 65536 in
theorem w_t3 : (((words1.drop 24).drop 24).take 24).all (fun c => isCode c || c.before args0 about1) = true := by decide +kernel
set_option maxRecDepth 65536 in
theorem w_t4 : (((words1.drop 24).drop 24).drop 24).all (fun c => isCode c || c.before args0 about1) = true := by decide +kernel
theorem w_tables : (allAtoms (Jvm.Cond.code x code maxLocals ret :: tables_1)).before args0 about1 = true := by
  rw [allAtoms_all]
  show words1.all (fun c => c.before args0 about1) = true
  refine all_split ?_ w_codes
  rw [← List.take_append_drop 24 words1, List.all_append, w_t1, ← List.take_append_drop 24 (words1.drop 24), List.all_append, w_t2, ← List.take_append_drop 24 ((words1.drop 24).drop 24), List.all_append, w_t3, w_t4]
  rfl
set_option maxRecDepth 65536 in
theorem w_case : (Jvm.Cond.and given_1 narrow_1).before args0 about1 = true := by decide +kernel
theorem w_applies : (headSpec (Jvm.Cond.code x code maxLocals ret :: tables_1) room_1).applies x e0.platform about1 = true :=
  (Spec.applies_iff w_frames).mpr ⟨w_running, w_runnable, w_alone, w_named, w_hears, w_ripe, w_room, w_tables⟩
theorem atStart : AtStart classFile x code maxLocals ret World_1 tables_1 room_1 Calls_1 rest_1 Pre_1 launch0 p0 e0 about1 theMethod args0 below0 :=
  ⟨lists_1, trivial, launch0.admits_env _ _ _, launch0.least_env, fairChoices_fair.cas, fairChoices_fair.clock, w_frames, w_args, w_heap, w_applies, trivial, trivial, w_case⟩
end start1
theorem witness_1 : WitnessClaimed_1 := ⟨start1.p0, start1.e0, start1.about1, start1.theMethod, start1.args0, start1.below0, start1.atStart⟩
end Jvm.Pilot.@@N@@
