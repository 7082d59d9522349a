import JvmDerived
import JvmDerived.Pilot.@@N@@Statement
import JvmDerived.Pilot.@@N@@Code
set_option linter.unusedVariables false
set_option linter.unusedSimpArgs false
@@BLOCK:NumsL.lean.txt@@
namespace Jvm.Pilot.@@N@@
open Jvm Jvm.ClassFile Sem Op Lib Jvm.Free Jvm.Stand Jvm.LawKit Jvm.RoadKit Bundle Jvm.Pilot.@@N@@.Jvm.D
section Own
variable {p : Program} {l : Launch} {e : Env} {R : Room} {s : State} {m : MethodId} {args : Array Value} {below : List Frame} {meth : Method} {c : Code} {T : State} {locs : List Loc} {cells slots : Nat} {Z : State} {a0 : Array Value} {h : Heap}
/-- from the state A the run comes to the method's end, and Q says what it leaves -/
def OwnFin (p : Program) (e : Env) (below : List Frame) (s : State) (Q : Option Value → Heap → List Loc → Prop) (C S : Nat) (A : State) : Prop :=
  ∃ s₂ o, Steps p.tables e below A s₂ ∧ s₂.status = .running ∧ Ended s₂ below o ∧ ∃ v L, o = .returned v ∧ Q v s₂.heap L ∧ FrameEnd s o s₂ L C S
variable {Q : Option Value → Heap → List Loc → Prop} {C S : Nat}
theorem own_go {A B : State} (h : ∀ t, Steps p.tables e below B t → Steps p.tables e below A t) (k : OwnFin p e below s Q C S B) : OwnFin p e below s Q C S A := by
  obtain ⟨s₂, o, h1, r⟩ := k
  exact ⟨s₂, o, h _ h1, r⟩
theorem own_ret (X : Stand p l e R s m args below meth c T locs cells slots) {v : Option Value} (hlk : meth.locks = false) (hv : meth.sig.returnType = none → v = none) {g : JFrame}
    (hstep : ∀ fs, (∀ (f : JFrame) (acts : List Action), f.method = m → f.locked = none → f.entered = [] → (doReturn e (T.setTop f) acts v).1 = T.setFrames fs) → Steps p.tables e below (T.setTop g) (T.setFrames fs))
    (hc : cells ≤ C) (hs : slots ≤ S) (hQ : Q v T.heap locs) : OwnFin p e below s Q C S (T.setTop g) := by
  obtain ⟨fs, hr, hrun, hended, hW, hsame⟩ := X.leave hv hlk
  exact ⟨_, _, hstep fs hr, hrun, hended, _, _, rfl, hQ, ⟨_, rfl⟩, hW, hsame.mono hc hs⟩
/-- a method's contract, in the form that backOf takes -/
abbrev OwnCtr (l : Launch) (Z : State) (y : MethodName) (ws : List Jvm.Cond) (bytes : ByteArray) (maxL : Nat) (ret : Option FieldType) (rm : Room) (as' : Array Value) (h0 : Heap) (Q : Option Value → Heap → List Loc → Prop) : Prop :=
  MetFree l y (head1 (Jvm.Cond.code y bytes maxL ret :: ws) rm) (fun a U => a = as' ∧ Z.Warmed39 U.vm ∧ U.heap = h0) (fun _ _ _ _ _ => True) (fun _ U o U' => ∃ v L, o = .returned v ∧ Q v U'.heap L ∧ FrameEnd U o U' L rm.cells rm.slots)
theorem own_body {l : Launch} {Z : State} {y : MethodName} {ws : List Jvm.Cond} {bytes : ByteArray} {maxL : Nat} {ret : Option FieldType} {rm : Room} {as' : Array Value} {h0 : Heap} {g0 : MethodId → JFrame}
    (hpl : plainFor y = true) (hef : ∀ m, entryFrame m as' maxL = g0 m)
    (body : ∀ (p : Program) (e : Env) (s : State) (m : MethodId) (below : List Frame) (meth : Method) (c : Code) (s₁ : State), Stand p l e rm s m as' below meth c s₁ [] 0 0 → p.tables.exec = Jvm.exec → c.code = bytes → c.maxLocals = maxL →
      s.vm.findClass y.cls = some m.cls → meth.name = y.name → Z.Warmed39 s.vm → s₁.heap = h0 → meth.sig.returnType = ret → meth.locks = false → OwnFin p e below s Q rm.cells rm.slots (s₁.setTop (g0 m))) :
    OwnCtr l Z y ws bytes maxL ret rm as' h0 Q := by
  refine MetFree.of_bodySF hpl hisR ?_
  intro p e s m args below meth c s₁ Bd hml0 hP hK
  obtain ⟨rfl, hZ, hh⟩ := hP
  have e0 : s₁.heap = h0 := by rw [← hh, Bd.state]; rfl
  have k := body p e s m below meth c s₁ (Stand.of_body Bd) Bd.exec Bd.bytes hml0 (findClass_of_methodNamed Bd.named) (name_of_methodNamed Bd.named Bd.method).1 hZ e0 Bd.returns Bd.notSynchronized
  rw [← hef m] at k
  exact k
/-- a static call by its contract -/
theorem own_callS (X : Stand p l e R s m args below meth c T locs cells slots) (hx : p.tables.exec = Jvm.exec) (hZ : Z.Warmed39 s.vm) {own : String} {index : Nat} {y : MethodName} {bytes : ByteArray} {maxL : Nat} {ret : Option FieldType} {rm : Room} {as' : Array Value} {Q : Option Value → Heap → List Loc → Prop}
    (hown : s.vm.findClass own = some m.cls) (hlink : (Cond.methodLink own index y).before a0 Z = true) (hstat : (Cond.static y).before a0 Z = true) (hinit : (Cond.initialized y.cls).before a0 Z = true) (hcode : (Cond.code y bytes maxL ret).before a0 Z = true)
    (hy : y.cls ≠ "java/lang/invoke/MethodHandle" ∧ y.cls ≠ "java/lang/invoke/VarHandle") {W : Nat} (hM : OwnCtr l Z y [] bytes maxL ret rm as' h Q) (hf : rm.frames + 1 ≤ R.frames) (hl : W + (maxL + 11) + rm.locals ≤ R.locals)
    {g : JFrame} (hg : g.method = m) (hsize : g.locals.size = c.maxLocals) {argsL rest : List Value} (hlen : ∀ sig, parseMethodDescriptor y.desc = some sig → argsL.length = sig.parameters.length)
    (hstack : g.stack = argsL.reverse ++ rest) (hW : 2 * g.monitorRoom + (rest.map fun v => v.category).sum ≤ W) (hdg : decode c.code g.pc = .ok (.invokestatic index, 3)) (eT : T.heap = h) (ha : argsL.toArray = as') (hc : cells + rm.cells ≤ R.cells) (hs : slots + rm.slots ≤ R.slots) :
    ∃ (v : Option Value) (T' : State) (L : List Loc), Stand p l e R s m args below meth c T' (locs ++ L) (cells + rm.cells) (slots + rm.slots) ∧ Q v T'.heap L ∧ ∀ target, Steps p.tables e below (T'.setTop { g with pc := g.pc + 3, stack := v.toList ++ rest }) target → Steps p.tables e below (T.setTop g) target := by
  obtain ⟨v, _, ⟨T', L', k, n⟩, -, X', ⟨L, hQ, l1, y1, z1⟩, st⟩ := Jvm.LawKit.callS X hx (y := y) hown (mvT hZ hlink) (mvT hZ hstat) (mvT hZ hinit) (mvT hZ hcode) hy (backOf (W := W) hM hZ hcode hinit hf hl) hg hsize hlen hstack hW hdg (fun _ _ => ⟨ha, eT, hc, hs⟩)
  dsimp only [Pt.U, Pt.locs, Pt.cells, Pt.slots] at X' l1 y1 z1 st hQ
  subst l1 y1 z1
  exact ⟨v, T', L, X', hQ, st⟩
/-- a constructor by its contract -/
theorem own_callI (X : Stand p l e R s m args below meth c T locs cells slots) (hx : p.tables.exec = Jvm.exec) (hZ : Z.Warmed39 s.vm) {own : String} {index : Nat} {y : MethodName} {bytes : ByteArray} {maxL : Nat} {rm : Room} {as' : Array Value} {Q : Option Value → Heap → List Loc → Prop}
    (hy1 : y.name = "<init>") (hown : s.vm.findClass own = some m.cls) (hlink : (Cond.methodLink own index y).before a0 Z = true) (hinst : (Cond.instanceMethod y).before a0 Z = true) (hinit : (Cond.initialized y.cls).before a0 Z = true) (hcode : (Cond.code y bytes maxL none).before a0 Z = true)
    (hy : y.cls ≠ "java/lang/invoke/MethodHandle" ∧ y.cls ≠ "java/lang/invoke/VarHandle") {W : Nat} (hM : OwnCtr l Z y [] bytes maxL none rm as' h Q) (hf : rm.frames + 1 ≤ R.frames) (hl : W + (maxL + 11) + rm.locals ≤ R.locals)
    {g : JFrame} (hg : g.method = m) (hsize : g.locals.size = c.maxLocals) {a : Addr} {argsL rest : List Value} (hlen : ∀ sig, parseMethodDescriptor y.desc = some sig → argsL.length = sig.parameters.length)
    (hstack : g.stack = argsL.reverse ++ .ref a :: rest) (hW : 2 * g.monitorRoom + (rest.map fun v => v.category).sum ≤ W) (hdg : decode c.code g.pc = .ok (.invokespecial index, 3)) (eT : T.heap = h) (ha : (.ref a :: argsL).toArray = as') (hc : cells + rm.cells ≤ R.cells) (hs : slots + rm.slots ≤ R.slots) :
    ∃ (v : Option Value) (T' : State) (L : List Loc), Stand p l e R s m args below meth c T' (locs ++ L) (cells + rm.cells) (slots + rm.slots) ∧ Q v T'.heap L ∧ ∀ target, Steps p.tables e below (T'.setTop { g with pc := g.pc + 3, stack := v.toList ++ rest }) target → Steps p.tables e below (T.setTop g) target := by
  obtain ⟨v, _, ⟨T', L', k, n⟩, -, X', ⟨L, hQ, l1, y1, z1⟩, st⟩ := X.specialBack hx (y := y) hy1 hown (mvT hZ hlink) (mvT hZ hinst) (mvT hZ hcode) hy (backOf (W := W) hM hZ hcode hinit hf hl) hg hsize (Steps.refl _) hlen hstack hW hdg (fun _ _ => ⟨ha, eT, hc, hs⟩)
  dsimp only [Pt.U, Pt.locs, Pt.cells, Pt.slots] at X' l1 y1 z1 st hQ
  subst l1 y1 z1
  exact ⟨v, T', L, X', hQ, fun t k => st.trans k⟩
/-- an instance method by its contract -/
theorem own_callV (X : Stand p l e R s m args below meth c T locs cells slots) (hx : p.tables.exec = Jvm.exec) (hZ : Z.Warmed39 s.vm) {own K : String} {index : Nat} {y z : MethodName} {bytes : ByteArray} {maxL : Nat} {ret : Option FieldType} {rm : Room} {as' : Array Value} {Q : Option Value → Heap → List Loc → Prop}
    (hown : s.vm.findClass own = some m.cls) (hlink : (Cond.methodLink own index y).before a0 Z = true) (hdecl : (Cond.declares y).before a0 Z = true) (hnf : NotFace s y) (hsel : (Cond.selects K y z).before a0 Z = true) (hinst : (Cond.instanceMethod z).before a0 Z = true) (hinit : (Cond.initialized z.cls).before a0 Z = true) (hcode : (Cond.code z bytes maxL ret).before a0 Z = true)
    (hy : y.cls ≠ "java/lang/invoke/MethodHandle" ∧ y.cls ≠ "java/lang/invoke/VarHandle") {W : Nat} (hM : OwnCtr l Z z [] bytes maxL ret rm as' h Q) (hf : rm.frames + 1 ≤ R.frames) (hl : W + (maxL + 11) + rm.locals ≤ R.locals)
    {b : Addr} (E : Exa Z h b K) {g : JFrame} (hg : g.method = m) (hsize : g.locals.size = c.maxLocals) {argsL rest : List Value} (hlen : ∀ sig, parseMethodDescriptor y.desc = some sig → argsL.length = sig.parameters.length)
    (hstack : g.stack = argsL.reverse ++ .ref b :: rest) (hW : 2 * g.monitorRoom + (rest.map fun v => v.category).sum ≤ W) (hdg : decode c.code g.pc = .ok (.invokevirtual index, 3)) (eT : T.heap = h) (ha : (.ref b :: argsL).toArray = as') (hc : cells + rm.cells ≤ R.cells) (hs : slots + rm.slots ≤ R.slots) :
    ∃ (v : Option Value) (T' : State) (L : List Loc), Stand p l e R s m args below meth c T' (locs ++ L) (cells + rm.cells) (slots + rm.slots) ∧ Q v T'.heap L ∧ ∀ target, Steps p.tables e below (T'.setTop { g with pc := g.pc + 3, stack := v.toList ++ rest }) target → Steps p.tables e below (T.setTop g) target := by
  obtain ⟨cq, kq, qa, qb, qc⟩ := isOf hZ eT E
  obtain ⟨v, _, ⟨T', L', k, n⟩, -, X', ⟨L, hQ, l1, y1, z1⟩, st⟩ := X.virtualBack hx (y := y) (z := z) hown (mvT hZ hlink) (mvT hZ hdecl) hnf (mvT hZ hsel) (mvT hZ hinst) hy (backOf (W := W) hM hZ hcode hinit hf hl) qa qc hg hsize (Steps.refl _) hlen hstack hW hdg (fun _ _ => ⟨ha, eT, hc, hs⟩)
  dsimp only [Pt.U, Pt.locs, Pt.cells, Pt.slots] at X' l1 y1 z1 st hQ
  subst l1 y1 z1
  exact ⟨v, T', L, X', hQ, fun t k => st.trans k⟩
/-- a private instance method, called by invokevirtual, by its contract -/
theorem own_callP (X : Stand p l e R s m args below meth c T locs cells slots) (hx : p.tables.exec = Jvm.exec) (hZ : Z.Warmed39 s.vm) {own : String} {index : Nat} {y : MethodName} {bytes : ByteArray} {maxL : Nat} {ret : Option FieldType} {rm : Room} {as' : Array Value} {Q : Option Value → Heap → List Loc → Prop}
    (hown : s.vm.findClass own = some m.cls) (hlink : (Cond.methodLink own index y).before a0 Z = true) (hinst : (Cond.instanceMethod y).before a0 Z = true) (hsel : (Cond.selects y.cls y y).before a0 Z = true) (hpriv : (Cond.privateMethod y).before a0 Z = true) (hinit : (Cond.initialized y.cls).before a0 Z = true) (hcode : (Cond.code y bytes maxL ret).before a0 Z = true)
    (hy : y.cls ≠ "java/lang/invoke/MethodHandle" ∧ y.cls ≠ "java/lang/invoke/VarHandle") {W : Nat} (hM : OwnCtr l Z y [] bytes maxL ret rm as' h Q) (hf : rm.frames + 1 ≤ R.frames) (hl : W + (maxL + 11) + rm.locals ≤ R.locals)
    {b : Addr} {K : String} (E : Exa Z h b K) {g : JFrame} (hg : g.method = m) (hsize : g.locals.size = c.maxLocals) {argsL rest : List Value} (hlen : ∀ sig, parseMethodDescriptor y.desc = some sig → argsL.length = sig.parameters.length)
    (hstack : g.stack = argsL.reverse ++ .ref b :: rest) (hW : 2 * g.monitorRoom + (rest.map fun v => v.category).sum ≤ W) (hdg : decode c.code g.pc = .ok (.invokevirtual index, 3)) (eT : T.heap = h) (ha : (.ref b :: argsL).toArray = as') (hc : cells + rm.cells ≤ R.cells) (hs : slots + rm.slots ≤ R.slots) :
    ∃ (v : Option Value) (T' : State) (L : List Loc), Stand p l e R s m args below meth c T' (locs ++ L) (cells + rm.cells) (slots + rm.slots) ∧ Q v T'.heap L ∧ ∀ target, Steps p.tables e below (T'.setTop { g with pc := g.pc + 3, stack := v.toList ++ rest }) target → Steps p.tables e below (T.setTop g) target := by
  obtain ⟨cq, q1, q2⟩ := E.cell
  obtain ⟨v, _, ⟨T', L', k, n⟩, -, X', ⟨L, hQ, l1, y1, z1⟩, st⟩ := X.privateBack hx (y := y) hown (mvT hZ hlink) (mvT hZ hinst) (mvT hZ hsel) (Cond.privateMethod_at (mvP hZ hpriv (args := #[]))) (mvT hZ hcode) hy (backOf (W := W) hM hZ hcode hinit hf hl) hg hsize (Steps.refl _) (by rw [eT]; exact q1) q2 hlen hstack hW hdg (fun _ _ => ⟨ha, eT, hc, hs⟩)
  dsimp only [Pt.U, Pt.locs, Pt.cells, Pt.slots] at X' l1 y1 z1 st hQ
  subst l1 y1 z1
  exact ⟨v, T', L, X', hQ, fun t k => st.trans k⟩
theorem own_retI (X : Stand p l e R s m args below meth c T locs cells slots) (hx : p.tables.exec = Jvm.exec) {pc : Nat} {Ls : Array Slot} {z : Int32} {rest : List Value} (hret : meth.sig.returnType = some .int) (hd : decode c.code pc = .ok (.ireturn, 1)) {fs : List Frame}
    (hl : ∀ (f : JFrame) (acts : List Action), f.method = m → f.locked = none → f.entered = [] → (doReturn e (T.setTop f) acts (some (.int z))).1 = T.setFrames fs) : Steps p.tables e below (T.setTop (mkF m pc Ls (.int z :: rest))) (T.setFrames fs) :=
  retOut X hx hret rfl (Or.inl ⟨rfl, Or.inl rfl, _, rfl⟩) hd hl
theorem own_retJ (X : Stand p l e R s m args below meth c T locs cells slots) (hx : p.tables.exec = Jvm.exec) {pc : Nat} {Ls : Array Slot} {z : Int64} {rest : List Value} (hret : meth.sig.returnType = some .long) (hd : decode c.code pc = .ok (.lreturn, 1)) {fs : List Frame}
    (hl : ∀ (f : JFrame) (acts : List Action), f.method = m → f.locked = none → f.entered = [] → (doReturn e (T.setTop f) acts (some (.long z))).1 = T.setFrames fs) : Steps p.tables e below (T.setTop (mkF m pc Ls (.long z :: rest))) (T.setFrames fs) :=
  retOut X hx hret rfl (Or.inr (Or.inl ⟨rfl, rfl, _, rfl⟩)) hd hl
theorem own_retR (X : Stand p l e R s m args below meth c T locs cells slots) (hx : p.tables.exec = Jvm.exec) {pc : Nat} {Ls : Array Slot} {w : Value} {t : FieldType} {rest : List Value} (hret : meth.sig.returnType = some t) (ht : t.isReference = true) (hw : w.isRef = true) (hd : decode c.code pc = .ok (.areturn, 1)) {fs : List Frame}
    (hl : ∀ (f : JFrame) (acts : List Action), f.method = m → f.locked = none → f.entered = [] → (doReturn e (T.setTop f) acts (some w)).1 = T.setFrames fs) : Steps p.tables e below (T.setTop (mkF m pc Ls (w :: rest))) (T.setFrames fs) :=
  retOut X hx hret (by cases t <;> simp [FieldType.isReference] at ht <;> cases w <;> simp [Value.isRef] at hw <;> rfl) (Or.inr (Or.inr (Or.inr (Or.inr ⟨rfl, ht, hw⟩)))) hd hl
theorem own_nf {K : String} {y y' : MethodName} (hsel : (Cond.selects K y' y').before args s = true) (hc : y'.cls = y.cls) : NotFace s y := fun r0 h0 => by
  obtain ⟨c2, r2, m2, q1, q2, q3, q4, kP, hkP, hkPi⟩ := Cond.selects_spec hsel
  have e1 := findClass_of_methodNamed q3
  have e2 := findClass_of_methodNamed h0
  rw [hc, e2] at e1
  have e3 := Option.some.inj e1
  exact ⟨kP, by rw [e3]; exact hkP, hkPi⟩
theorem own_stakeep {h' : Heap} {O n d : String} {v : Value} (F : Sta Z h O n d v) (K : Keep h h' []) : Sta Z h' O n d v := by
  obtain ⟨cf, i, k, f, st, cell, h1, h2, h3, h4, h5, r⟩ := F
  exact ⟨cf, i, k, f, st, cell, h1, h2, h3, h4, K.2.1 _ _ h5 nin0, r⟩
end Own

section OwnArrays
variable {p : Program} {l : Launch} {e : Env} {R : Room} {s : State} {m : MethodId} {args : Array Value} {below : List Frame} {meth : Method} {c : Code} {T : State} {locs : List Loc} {cells slots : Nat} {Z : State} {a0 : Array Value} {h h' : Heap} {a b : Addr} {ty : FieldType} {n : Nat} {f : Nat → Value}
/-- at a lies an array of n places of the kind ty, and its i-th place holds f i -/
def OwnArr (Z : State) (h : Heap) (a : Addr) (ty : FieldType) (n : Nat) (f : Nat → Value) : Prop := ∃ c : Cell, Arr Z h a c ty ∧ c.slots.size = n ∧ n < 2 ^ 31 ∧ ∀ i, i < n → c.slots[i]? = some (f i)
theorem OwnArr.lt (F : OwnArr Z h a ty n f) : a < h.size := by obtain ⟨c, A, -⟩ := F; exact A.lt
theorem OwnArr.ext (F : OwnArr Z h a ty n f) (E : Ext h h') : OwnArr Z h' a ty n f := by obtain ⟨c, A, r⟩ := F; exact ⟨c, A.ext E, r⟩
theorem OwnArr.other {sl : Nat} {v : Value} (F : OwnArr Z h b ty n f) (W : Wr h h' a sl v) (q : b ≠ a) : OwnArr Z h' b ty n f := by obtain ⟨c, A, r⟩ := F; exact ⟨c, A.other W q, r⟩
theorem OwnArr.keep {ws : List Addr} (F : OwnArr Z h a ty n f) (K : Keep h h' ws) (q : a ∉ ws) : OwnArr Z h' a ty n f := by obtain ⟨c, A, r⟩ := F; exact ⟨c, ⟨K.2.1 a c A.1 q, A.2⟩, r⟩
theorem OwnArr.congr {f' : Nat → Value} (F : OwnArr Z h a ty n f) (q : ∀ i, i < n → f i = f' i) : OwnArr Z h a ty n f' := by obtain ⟨c, A, r1, r2, r3⟩ := F; exact ⟨c, A, r1, r2, fun i hi => by rw [← q i hi]; exact r3 i hi⟩
theorem OwnArr.set {i : Nat} {v : Value} (F : OwnArr Z h a ty n f) (W : Wr h h' a i v) : OwnArr Z h' a ty n (fun k => if k = i then v else f k) := by
  obtain ⟨c, A, r1, r2, r3⟩ := F
  refine ⟨_, A.same W, by rw [sz_set]; exact r1, r2, fun k hk => ?_⟩
  show (c.slots.setIfInBounds i v)[k]? = _
  by_cases e : k = i
  · subst e; simp [r1, hk]
  · rw [Array.getElem?_setIfInBounds_ne (Ne.symm e), r3 k hk]; simp [e]
theorem own_newarr (X : Stand p l e R s m args below meth c T locs cells slots) (hx : p.tables.exec = Jvm.exec) (hZ : Z.Warmed39 s.vm) {aty : ArrayType} (w : (Cond.arrayClass (newarray.typeOf aty)).before a0 Z = true) (eT : T.heap = h) {g : JFrame} (hg : g.method = m) (hd : decode c.code g.pc = .ok (.newarray aty, 2)) {z : Int32} {rest : List Value} (hs : g.stack = .int z :: rest)
    {n cap : Nat} (hz : z = Int32.ofNat n) (hcap : n ≤ cap) (hb : cap * 8 ≤ 536870912) (hc : cells + 1 ≤ R.cells) (hl : slots + cap ≤ R.slots) :
    ∃ T' h', Stand p l e R s m args below meth c T' locs (cells + 1) (slots + cap) ∧ T'.heap = h' ∧ Ext h h' ∧ OwnArr Z h' h.size (newarray.typeOf aty) n (fun _ => defaultValue (newarray.typeOf aty)) ∧
      ∀ target, Steps p.tables e below (T'.setTop { g with pc := g.pc + 2, stack := .ref h.size :: rest }) target → Steps p.tables e below (T.setTop g) target := by
  have hn31 : n < 2 ^ 31 := by omega
  have hcl : z.toNatClampNeg = n := clamp_of hz hn31
  have hnn : ¬ z < 0 := by
    have q := toInt_of hz hn31
    rw [Int32.lt_iff_toInt_lt, q, Int32.toInt_zero]; omega
  obtain ⟨T', h', cA, X', e', E', A', st⟩ := newP X hx hZ w eT hg hd hs hnn (cap := cap) (by rw [hcl]; exact hcap) hb hc hl
  refine ⟨T', h', X', e', E', ⟨_, A', by rw [sz_new, hcl], hn31, fun i hi => ?_⟩, st⟩
  show (Array.replicate z.toNatClampNeg _)[i]? = _
  rw [hcl]; simp [hi]
theorem own_laload (X : Stand p l e R s m args below meth c T locs cells slots) (hx : p.tables.exec = Jvm.exec) (hZ : Z.Warmed39 s.vm) (eT : T.heap = h) (A : OwnArr Z h a .long n f) {j : Int32} {i : Nat} (hj : j = Int32.ofNat i) (hi : i < n) {g : JFrame} (hg : g.method = m) {rest : List Value} (hs : g.stack = .int j :: .ref a :: rest) (hd : decode c.code g.pc = .ok (.laload, 1)) :
    ∀ target, Steps p.tables e below (T.setTop { g with pc := g.pc + 1, stack := f i :: rest }) target → Steps p.tables e below (T.setTop g) target := by
  obtain ⟨cl, A, r1, r2, r3⟩ := A
  exact fun t k => X.laload hx (j := j) (v := f i) (by rw [eT]; exact A.1) (State.isArrayOf_alike hZ.alike A.2.1) A.2.2 (by rw [r1]; exact within hj hi r2) (by rw [clamp_of hj (by omega)]; exact r3 i hi) hg hs hd t k
theorem own_iaload (X : Stand p l e R s m args below meth c T locs cells slots) (hx : p.tables.exec = Jvm.exec) (hZ : Z.Warmed39 s.vm) (eT : T.heap = h) (A : OwnArr Z h a .int n f) {j : Int32} {i : Nat} (hj : j = Int32.ofNat i) (hi : i < n) {g : JFrame} (hg : g.method = m) {rest : List Value} (hs : g.stack = .int j :: .ref a :: rest) (hd : decode c.code g.pc = .ok (.iaload, 1)) :
    ∀ target, Steps p.tables e below (T.setTop { g with pc := g.pc + 1, stack := f i :: rest }) target → Steps p.tables e below (T.setTop g) target := by
  obtain ⟨cl, A, r1, r2, r3⟩ := A
  exact fun t k => X.iaload hx (j := j) (v := f i) (by rw [eT]; exact A.1) (State.isArrayOf_alike hZ.alike A.2.1) A.2.2 (by rw [r1]; exact within hj hi r2) (by rw [clamp_of hj (by omega)]; exact r3 i hi) hg hs hd t k
theorem own_zaload (X : Stand p l e R s m args below meth c T locs cells slots) (hx : p.tables.exec = Jvm.exec) (hZ : Z.Warmed39 s.vm) (eT : T.heap = h) (A : OwnArr Z h a .boolean n f) {j : Int32} {i : Nat} (hj : j = Int32.ofNat i) (hi : i < n) {g : JFrame} (hg : g.method = m) {rest : List Value} (hs : g.stack = .int j :: .ref a :: rest) (hd : decode c.code g.pc = .ok (.baload, 1)) :
    ∀ target, Steps p.tables e below (T.setTop { g with pc := g.pc + 1, stack := f i :: rest }) target → Steps p.tables e below (T.setTop g) target := by
  obtain ⟨cl, A, r1, r2, r3⟩ := A
  exact fun t k => X.baloadBooleans hx (j := j) (v := f i) (by rw [eT]; exact A.1) (State.isArrayOf_alike hZ.alike A.2.1) A.2.2 (by rw [r1]; exact within hj hi r2) (by rw [clamp_of hj (by omega)]; exact r3 i hi) hg hs hd t k
theorem own_alength (X : Stand p l e R s m args below meth c T locs cells slots) (hx : p.tables.exec = Jvm.exec) (hZ : Z.Warmed39 s.vm) (eT : T.heap = h) (A : OwnArr Z h a ty n f) {g : JFrame} (hg : g.method = m) {rest : List Value} (hs : g.stack = .ref a :: rest) (hd : decode c.code g.pc = .ok (.arraylength, 1)) :
    ∀ target, Steps p.tables e below (T.setTop { g with pc := g.pc + 1, stack := .int (Int32.ofNat n) :: rest }) target → Steps p.tables e below (T.setTop g) target := by
  obtain ⟨cl, A, r1, r2, r3⟩ := A
  subst r1
  exact fun t k => X.arraylength hx (by rw [eT]; exact A.1) (State.isArrayOf_alike hZ.alike A.2.1) hg hs hd t k
theorem own_lastore (X : Stand p l e R s m args below meth c T locs cells slots) (hx : p.tables.exec = Jvm.exec) (hZ : Z.Warmed39 s.vm) (eT : T.heap = h) (A : OwnArr Z h a .long n f) {j : Int32} {i : Nat} {x : Int64} (hj : j = Int32.ofNat i) (hi : i < n) {g : JFrame} (hg : g.method = m) {rest : List Value} (hs : g.stack = .long x :: .int j :: .ref a :: rest) (hd : decode c.code g.pc = .ok (.lastore, 1)) :
    ∃ T' h', Stand p l e R s m args below meth c T' (locs ++ [⟨a, i⟩]) cells slots ∧ T'.heap = h' ∧ Wr h h' a i (.long x) ∧ OwnArr Z h' a .long n (fun k => if k = i then .long x else f k) ∧ ∀ target, Steps p.tables e below (T'.setTop { g with pc := g.pc + 1, stack := rest }) target → Steps p.tables e below (T.setTop g) target := by
  have A0 := A
  obtain ⟨cl, A, r1, r2, r3⟩ := A
  obtain ⟨T', h', X', e', W, st⟩ := stJ X hx hZ eT A (j := j) (x := x) (by rw [r1]; exact within hj hi r2) hg hs hd
  rw [clamp_of hj (by omega)] at X' W
  exact ⟨T', h', X', e', W, A0.set W, st⟩
theorem own_iastore (X : Stand p l e R s m args below meth c T locs cells slots) (hx : p.tables.exec = Jvm.exec) (hZ : Z.Warmed39 s.vm) (eT : T.heap = h) (A : OwnArr Z h a .int n f) {j : Int32} {i : Nat} {x : Int32} (hj : j = Int32.ofNat i) (hi : i < n) {g : JFrame} (hg : g.method = m) {rest : List Value} (hs : g.stack = .int x :: .int j :: .ref a :: rest) (hd : decode c.code g.pc = .ok (.iastore, 1)) :
    ∃ T' h', Stand p l e R s m args below meth c T' (locs ++ [⟨a, i⟩]) cells slots ∧ T'.heap = h' ∧ Wr h h' a i (.int x) ∧ OwnArr Z h' a .int n (fun k => if k = i then .int x else f k) ∧ ∀ target, Steps p.tables e below (T'.setTop { g with pc := g.pc + 1, stack := rest }) target → Steps p.tables e below (T.setTop g) target := by
  have A0 := A
  obtain ⟨cl, A, r1, r2, r3⟩ := A
  obtain ⟨T', h', X', e', W, st⟩ := stI X hx hZ eT A (j := j) (x := x) (by rw [r1]; exact within hj hi r2) hg hs hd
  rw [clamp_of hj (by omega)] at X' W
  exact ⟨T', h', X', e', W, A0.set W, st⟩
theorem own_zastore (X : Stand p l e R s m args below meth c T locs cells slots) (hx : p.tables.exec = Jvm.exec) (hZ : Z.Warmed39 s.vm) (eT : T.heap = h) (A : OwnArr Z h a .boolean n f) {j : Int32} {i : Nat} {x : Int32} (hj : j = Int32.ofNat i) (hi : i < n) {g : JFrame} (hg : g.method = m) {rest : List Value} (hs : g.stack = .int x :: .int j :: .ref a :: rest) (hd : decode c.code g.pc = .ok (.bastore, 1)) :
    ∃ T' h', Stand p l e R s m args below meth c T' (locs ++ [⟨a, i⟩]) cells slots ∧ T'.heap = h' ∧ Wr h h' a i (.int (nar .boolean x)) ∧ OwnArr Z h' a .boolean n (fun k => if k = i then .int (nar .boolean x) else f k) ∧ ∀ target, Steps p.tables e below (T'.setTop { g with pc := g.pc + 1, stack := rest }) target → Steps p.tables e below (T.setTop g) target := by
  have A0 := A
  obtain ⟨cl, A, r1, r2, r3⟩ := A
  obtain ⟨T', h', X', e', W, st⟩ := stZ X hx hZ eT A (j := j) (x := x) (by rw [r1]; exact within hj hi r2) hg hs hd
  rw [clamp_of hj (by omega)] at X' W
  exact ⟨T', h', X', e', W, A0.set W, st⟩
theorem own_longs (F : OwnArr Z h a .long n f) (q : ∀ i, i < n → ∃ x : Int64, f i = .long x) : ∃ g : Nat → Int64, OwnArr Z h a .long n (fun i => .long (g i)) := by
  have q' : ∀ i, ∃ x : Int64, i < n → f i = .long x := fun i => by
    by_cases hi : i < n
    · obtain ⟨x, hx⟩ := q i hi; exact ⟨x, fun _ => hx⟩
    · exact ⟨0, fun z => absurd z hi⟩
  exact ⟨fun i => Classical.choose (q' i), F.congr fun i hi => Classical.choose_spec (q' i) hi⟩
end OwnArrays

section OwnRefArrays
variable {p : Program} {l : Launch} {e : Env} {R : Room} {s : State} {m : MethodId} {args : Array Value} {below : List Frame} {meth : Method} {c : Code} {T : State} {locs : List Loc} {cells slots : Nat} {Z : State} {a0 : Array Value} {h h' : Heap} {a b : Addr} {C : String} {n : Nat} {f : Nat → Value}
/-- at a lies an array of n references over the class C, and its i-th place holds f i -/
def OwnRA (Z : State) (h : Heap) (a : Addr) (C : String) (n : Nat) (f : Nat → Value) : Prop := ∃ c : Cell, Arr Z h a c (.object C) ∧ Ovr Z c.cls C ∧ c.slots.size = n ∧ n < 2 ^ 31 ∧ ∀ i, i < n → c.slots[i]? = some (f i)
theorem OwnRA.lt (F : OwnRA Z h a C n f) : a < h.size := by obtain ⟨c, A, -⟩ := F; exact A.lt
theorem OwnRA.ext (F : OwnRA Z h a C n f) (E : Ext h h') : OwnRA Z h' a C n f := by obtain ⟨c, A, r⟩ := F; exact ⟨c, A.ext E, r⟩
theorem OwnRA.other {sl : Nat} {v : Value} (F : OwnRA Z h b C n f) (W : Wr h h' a sl v) (q : b ≠ a) : OwnRA Z h' b C n f := by obtain ⟨c, A, r⟩ := F; exact ⟨c, A.other W q, r⟩
theorem OwnRA.keep {ws : List Addr} (F : OwnRA Z h a C n f) (K : Keep h h' ws) (q : a ∉ ws) : OwnRA Z h' a C n f := by obtain ⟨c, A, r⟩ := F; exact ⟨c, ⟨K.2.1 a c A.1 q, A.2⟩, r⟩
theorem OwnRA.congr {f' : Nat → Value} (F : OwnRA Z h a C n f) (q : ∀ i, i < n → f i = f' i) : OwnRA Z h a C n f' := by obtain ⟨c, A, O, r1, r2, r3⟩ := F; exact ⟨c, A, O, r1, r2, fun i hi => by rw [← q i hi]; exact r3 i hi⟩
theorem OwnRA.set {i : Nat} {v : Value} (F : OwnRA Z h a C n f) (W : Wr h h' a i v) : OwnRA Z h' a C n (fun k => if k = i then v else f k) := by
  obtain ⟨c, A, O, r1, r2, r3⟩ := F
  refine ⟨_, A.same W, O, by rw [sz_set]; exact r1, r2, fun k hk => ?_⟩
  show (c.slots.setIfInBounds i v)[k]? = _
  by_cases e : k = i
  · subst e; simp [r1, hk]
  · rw [Array.getElem?_setIfInBounds_ne (Ne.symm e), r3 k hk]; simp [e]
theorem own_newra (X : Stand p l e R s m args below meth c T locs cells slots) (hx : p.tables.exec = Jvm.exec) (hZ : Z.Warmed39 s.vm) {own : String} {index : Nat} (hown : s.vm.findClass own = some m.cls) (w1 : (Cond.classLink own index C).before a0 Z = true) (w2 : (Cond.arrayOver (.object C)).before a0 Z = true) (eT : T.heap = h) {g : JFrame} (hg : g.method = m) (hd : decode c.code g.pc = .ok (.anewarray index, 3)) {z : Int32} {rest : List Value} (hs : g.stack = .int z :: rest)
    {n cap : Nat} (hz : z = Int32.ofNat n) (hcap : n ≤ cap) (hb : cap * 8 ≤ 536870912) (hc : cells + 1 ≤ R.cells) (hl : slots + cap ≤ R.slots) :
    ∃ T' h', Stand p l e R s m args below meth c T' locs (cells + 1) (slots + cap) ∧ T'.heap = h' ∧ Ext h h' ∧ OwnRA Z h' h.size C n (fun _ => .null) ∧
      ∀ target, Steps p.tables e below (T'.setTop { g with pc := g.pc + 3, stack := .ref h.size :: rest }) target → Steps p.tables e below (T.setTop g) target := by
  have hn31 : n < 2 ^ 31 := by omega
  have hcl : z.toNatClampNeg = n := clamp_of hz hn31
  have hnn : ¬ z < 0 := by
    have q := toInt_of hz hn31
    rw [Int32.lt_iff_toInt_lt, q, Int32.toInt_zero]; omega
  obtain ⟨T', h', cA, X', e', E', A', O', st⟩ := newR X hx hZ hown w1 w2 eT hg hd hs hnn (cap := cap) (by rw [hcl]; exact hcap) hb hc hl
  refine ⟨T', h', X', e', E', ⟨_, A', O', by rw [sz_new, hcl], hn31, fun i hi => ?_⟩, st⟩
  show (Array.replicate z.toNatClampNeg _)[i]? = _
  rw [hcl]; simp [hi]; rfl
theorem own_aaload (X : Stand p l e R s m args below meth c T locs cells slots) (hx : p.tables.exec = Jvm.exec) (hZ : Z.Warmed39 s.vm) (eT : T.heap = h) (A : OwnRA Z h a C n f) {j : Int32} {i : Nat} (hj : j = Int32.ofNat i) (hi : i < n) {g : JFrame} (hg : g.method = m) {rest : List Value} (hs : g.stack = .int j :: .ref a :: rest) (hd : decode c.code g.pc = .ok (.aaload, 1)) :
    ∀ target, Steps p.tables e below (T.setTop { g with pc := g.pc + 1, stack := f i :: rest }) target → Steps p.tables e below (T.setTop g) target := by
  obtain ⟨cl, A, O, r1, r2, r3⟩ := A
  exact fun t k => X.aaload hx (j := j) (v := f i) (by rw [eT]; exact A.1) (State.isArrayOf_alike hZ.alike A.2.1) rfl A.2.2 (by rw [r1]; exact within hj hi r2) (by rw [clamp_of hj (by omega)]; exact r3 i hi) hg hs hd t k
theorem own_ralength (X : Stand p l e R s m args below meth c T locs cells slots) (hx : p.tables.exec = Jvm.exec) (hZ : Z.Warmed39 s.vm) (eT : T.heap = h) (A : OwnRA Z h a C n f) {g : JFrame} (hg : g.method = m) {rest : List Value} (hs : g.stack = .ref a :: rest) (hd : decode c.code g.pc = .ok (.arraylength, 1)) :
    ∀ target, Steps p.tables e below (T.setTop { g with pc := g.pc + 1, stack := .int (Int32.ofNat n) :: rest }) target → Steps p.tables e below (T.setTop g) target := by
  obtain ⟨cl, A, O, r1, r2, r3⟩ := A
  subst r1
  exact fun t k => X.arraylength hx (by rw [eT]; exact A.1) (State.isArrayOf_alike hZ.alike A.2.1) hg hs hd t k
theorem own_aastore (X : Stand p l e R s m args below meth c T locs cells slots) (hx : p.tables.exec = Jvm.exec) (hZ : Z.Warmed39 s.vm) (eT : T.heap = h) (A : OwnRA Z h a C n f) {j : Int32} {i : Nat} {v : Value} (hj : j = Int32.ofNat i) (hi : i < n) (hv : v = .null ∨ ∃ y, v = .ref y ∧ Ins Z h y C true) {g : JFrame} (hg : g.method = m) {rest : List Value} (hs : g.stack = v :: .int j :: .ref a :: rest) (hd : decode c.code g.pc = .ok (.aastore, 1)) :
    ∃ T' h', Stand p l e R s m args below meth c T' (locs ++ [⟨a, i⟩]) cells slots ∧ T'.heap = h' ∧ Wr h h' a i v ∧ OwnRA Z h' a C n (fun k => if k = i then v else f k) ∧ ∀ target, Steps p.tables e below (T'.setTop { g with pc := g.pc + 1, stack := rest }) target → Steps p.tables e below (T.setTop g) target := by
  have A0 := A
  obtain ⟨cl, A, O, r1, r2, r3⟩ := A
  have F : Sto Z h a v := by
    rcases hv with rfl | ⟨y, rfl, I⟩
    · exact Or.inl rfl
    · exact Sto.of A O I
  obtain ⟨T', h', X', e', W, st⟩ := stR X hx hZ eT A (j := j) (v := v) (by rw [r1]; exact within hj hi r2) rfl F hg hs hd
  rw [clamp_of hj (by omega)] at X' W
  exact ⟨T', h', X', e', W, A0.set W, st⟩
end OwnRefArrays

theorem own_n4 (x : Int32) : ∃ k : Nat, (1 : Int32) + (x &&& (3 : Int32)) = Int32.ofNat k ∧ 1 ≤ k ∧ k ≤ 4 := by
  have h := c_mask x 3 2 (by decide) (by decide)
  have e1 : (1 : Int32).toInt = 1 := by decide
  have ha : ((1 : Int32) + (x &&& 3)).toInt = 1 + (x &&& 3).toInt := by rw [Jvm.Kit.i32_add (by rw [e1]; omega) (by rw [e1]; omega), e1]
  refine ⟨((1 : Int32) + (x &&& 3)).toInt.toNat, ?_, by omega, by omega⟩
  apply Int32.toInt_inj.mp
  rw [toInt_of (n := Int32.ofNat ((1 : Int32) + (x &&& 3)).toInt.toNat) rfl (by omega)]
  omega
theorem own_remM (x : Int32) {d : Nat} (hd : 0 < d) (hd4 : d ≤ 4) : ∃ k : Nat, ((x &&& (1023 : Int32)) % (Int32.ofNat d)) = Int32.ofNat k ∧ k < d := by
  have h := c_mask x 1023 10 (by decide) (by decide)
  have hq' : (Int32.ofNat d).toInt = (d : Int) := toInt_of rfl (by omega)
  have h1 := Jvm.Kit.i32_rem_nonneg (x := (x &&& (1023 : Int32))) (y := Int32.ofNat d) (by rw [h]; exact Int.emod_nonneg _ (by decide))
  have h2 : 0 ≤ ((x &&& (1023 : Int32)) % (Int32.ofNat d)).toInt := by rw [h1, hq']; exact Int.emod_nonneg _ (by omega)
  have h3 : ((x &&& (1023 : Int32)) % (Int32.ofNat d)).toInt < d := by rw [h1, hq']; exact Int.emod_lt_of_pos _ (by omega)
  refine ⟨((x &&& (1023 : Int32)) % (Int32.ofNat d)).toInt.toNat, ?_, by omega⟩
  apply Int32.toInt_inj.mp
  rw [toInt_of (n := Int32.ofNat ((x &&& (1023 : Int32)) % (Int32.ofNat d)).toInt.toNat) rfl (by omega)]
  omega
theorem own_nzd {d : Nat} (h1 : 1 ≤ d) (h4 : d ≤ 4) : Int32.ofNat d ≠ 0 := fun q => by
  have h : (Int32.ofNat d).toInt = (d : Int) := toInt_of rfl (by omega)
  rw [q, Int32.toInt_zero] at h
  omega
theorem own_ofNat_inj {a b : Nat} (ha : a < 100) (hb : b < 100) (h : Int32.ofNat a = Int32.ofNat b) : a = b := by
  have h1 : (Int32.ofNat a).toInt = (a : Int) := toInt_of rfl (by omega)
  have h2 : (Int32.ofNat b).toInt = (b : Int) := toInt_of rfl (by omega)
  rw [h] at h1
  omega
def own_c (q : Int64) : Int64 := if q = (-9223372036854775808 : Int64) then 0 else q
theorem own_cw (q : Int64) : ¬ own_c q = (-9223372036854775808 : Int64) := by
  unfold own_c
  split
  · decide
  · assumption
theorem d8_0 : decode prog_175_method_1_code 0 = .ok (.aload_n 0, 1) := by decide +kernel
theorem d8_1 : decode prog_175_method_1_code 1 = .ok (.invokespecial 7, 3) := by decide +kernel
theorem d8_4 : decode prog_175_method_1_code 4 = .ok (.aload_n 0, 1) := by decide +kernel
theorem d8_5 : decode prog_175_method_1_code 5 = .ok (.lload_n 1, 1) := by decide +kernel
theorem d8_6 : decode prog_175_method_1_code 6 = .ok (.putfield 13, 3) := by decide +kernel
theorem d8_9 : decode prog_175_method_1_code 9 = .ok (.aload_n 0, 1) := by decide +kernel
theorem d8_10 : decode prog_175_method_1_code 10 = .ok (.iload_n 3, 1) := by decide +kernel
theorem d8_11 : decode prog_175_method_1_code 11 = .ok (.putfield 17, 3) := by decide +kernel
theorem d8_14 : decode prog_175_method_1_code 14 = .ok (.aload_n 0, 1) := by decide +kernel
theorem d8_15 : decode prog_175_method_1_code 15 = .ok (.aconst_null, 1) := by decide +kernel
theorem d8_16 : decode prog_175_method_1_code 16 = .ok (.putfield 21, 3) := by decide +kernel
theorem d8_19 : decode prog_175_method_1_code 19 = .ok (.aload_n 0, 1) := by decide +kernel
theorem d8_20 : decode prog_175_method_1_code 20 = .ok (.aconst_null, 1) := by decide +kernel
theorem d8_21 : decode prog_175_method_1_code 21 = .ok (.putfield 25, 3) := by decide +kernel
theorem d8_24 : decode prog_175_method_1_code 24 = .ok (.return_, 1) := by decide +kernel
theorem pn_8 : plainFor (⟨"com/example/nearside/nearside/support/SplitDecimal", "<init>", "(JI)V"⟩ : MethodName) = true := plainFor_of_name (by first | (simp [plainName, overriddenIn]; done) | decide +kernel)
theorem ef_8 (m : MethodId) (a1 : Addr) (q2 : Int64) (p3 : Int32) : entryFrame m #[(.ref a1), (.long q2), (.int p3)] 4 = mkF m 0 #[.val (.ref a1), .val (.long q2), .second, .val (.int p3)] [] := by first | (simp [entryFrame, mkF, argsToLocals, Value.category]; done) | rfl
set_option maxRecDepth 65536 in
set_option maxHeartbeats 40000000 in
theorem rm8 (l : Launch) (Z : State) (a0 : Array Value) (hw : ∀ d ∈ tables_1, d.before a0 Z = true) (ws : List Jvm.Cond) (a1 : Addr) (q2 : Int64) (p3 : Int32) {u_compact : Value} {u_scale : Value} {u_head : Value} {u_tail : Value} (h0 : Heap) (n0 : Nat) (Z0 : n0 ≤ h0.size) (E_a1 : Exa Z h0 a1 "com/example/nearside/nearside/support/SplitDecimal") (g_a1 : n0 ≤ a1) (F_compact_a1 : Fld Z h0 a1 "com/example/nearside/nearside/support/SplitDecimal" "compact" "J" u_compact) (F_scale_a1 : Fld Z h0 a1 "com/example/nearside/nearside/support/SplitDecimal" "scale" "I" u_scale) (F_head_a1 : Fld Z h0 a1 "com/example/nearside/nearside/support/SplitDecimal" "head" "Ljava/math/BigDecimal;" u_head) (F_tail_a1 : Fld Z h0 a1 "com/example/nearside/nearside/support/SplitDecimal" "tail" "[Ljava/math/BigDecimal;" u_tail) :
    OwnCtr l Z (⟨"com/example/nearside/nearside/support/SplitDecimal", "<init>", "(JI)V"⟩ : MethodName) ws prog_175_method_1_code 4 none ({ frames := 1, cells := 0, slots := 0, locals := 12 } : Room) #[(.ref a1), (.long q2), (.int p3)] h0 (fun v h L => v = none ∧ Fr n0 L ∧ Keep h0 h [a1] ∧ Exa Z h a1 "com/example/nearside/nearside/support/SplitDecimal" ∧ Fld Z h a1 "com/example/nearside/nearside/support/SplitDecimal" "compact" "J" (.long q2) ∧ Fld Z h a1 "com/example/nearside/nearside/support/SplitDecimal" "scale" "I" (.int p3) ∧ Fld Z h a1 "com/example/nearside/nearside/support/SplitDecimal" "head" "Ljava/math/BigDecimal;" .null ∧ Fld Z h a1 "com/example/nearside/nearside/support/SplitDecimal" "tail" "[Ljava/math/BigDecimal;" .null) := by
  refine own_body (g0 := fun m => mkF m 0 #[.val (.ref a1), .val (.long q2), .second, .val (.int p3)] []) pn_8 (fun m => ef_8 m a1 q2 p3) ?_
  intro p e s m below meth c s₁ X0 hx hby hml hown hnm hZ e0 hret hlk
  have hml : c.maxLocals = 4 := hml
  have hown : s.vm.findClass "com/example/nearside/nearside/support/SplitDecimal" = some m.cls := hown
  have hnm : meth.name = "<init>" := hnm
  have hret : meth.sig.returnType = none := hret
  have N0 := Fr.nil n0
  have K0 := Keep.refl h0 [a1]
  show OwnFin p e below s _ _ _ (s₁.setTop (mkF m 0 #[.val (.ref a1), .val (.long q2), .second, .val (.int p3)] []))
  refine own_go (fun t_ k_ => XS.aloadN X0.here hx rfl (hb hby d8_0) rfl rfl k_) ?_
  show OwnFin p e below s _ _ _ (s₁.setTop (mkF m 1 #[.val (.ref a1), .val (.long q2), .second, .val (.int p3)] [(.ref a1)]))
  obtain ⟨T1, X1, e1, st1⟩ := initO X0 hx hZ hown (hw _ (List.mem_of_getElem? (i := 46) rfl)) (hw _ (List.mem_of_getElem? (i := 11) rfl)) (hw _ (List.mem_of_getElem? (i := 12) rfl)) e0 (g := (mkF m 1 #[.val (.ref a1), .val (.long q2), .second, .val (.int p3)] [(.ref a1)])) rfl (by rw [hml]; rfl) rfl (hb hby d8_1) (by decide) (W := 0) (by show 2 * 0 + _ ≤ _; exact Nat.le_of_eq rfl) (by decide)
  refine own_go st1 ?_
  show OwnFin p e below s _ _ _ (T1.setTop (mkF m 4 #[.val (.ref a1), .val (.long q2), .second, .val (.int p3)] []))
  refine own_go (fun t_ k_ => XS.aloadN X1.here hx rfl (hb hby d8_4) rfl rfl k_) ?_
  show OwnFin p e below s _ _ _ (T1.setTop (mkF m 5 #[.val (.ref a1), .val (.long q2), .second, .val (.int p3)] [(.ref a1)]))
  refine own_go (fun t_ k_ => XS.lloadN X1.here hx rfl (hb hby d8_5) rfl k_) ?_
  show OwnFin p e below s _ _ _ (T1.setTop (mkF m 6 #[.val (.ref a1), .val (.long q2), .second, .val (.int p3)] [(.long q2), (.ref a1)]))
  obtain ⟨T2, h2, X2, e2, W2, st2⟩ := putF X1 hx hZ hown (host := "") (Or.inl (hw _ (List.mem_of_getElem? (i := 47) rfl))) Via.refl e1 F_compact_a1 E_a1 (Or.inr ⟨(hw _ (List.mem_of_getElem? (i := 48) rfl)), rfl, hnm⟩) (hw _ (List.mem_of_getElem? (i := 40) rfl)) (ty := .long) (by decide) rfl rfl (g := (mkF m 6 #[.val (.ref a1), .val (.long q2), .second, .val (.int p3)] [(.long q2), (.ref a1)])) rfl rfl (hb hby d8_6)
  have E_a1_2 := E_a1.wr W2
  have F_compact_a1_2 := F_compact_a1.same W2
  have F_scale_a1_2 := F_scale_a1.other W2 (Or.inr (slot_ne (Or.inr (hw _ (List.mem_of_getElem? (i := 50) rfl))) (Or.inr (hw _ (List.mem_of_getElem? (i := 48) rfl))) (by decide) (t := .int) (t' := .long) (by decide) (by decide)))
  have F_head_a1_2 := F_head_a1.other W2 (Or.inr (slot_ne (Or.inr (hw _ (List.mem_of_getElem? (i := 52) rfl))) (Or.inr (hw _ (List.mem_of_getElem? (i := 48) rfl))) (by decide) (t := (.object "java/math/BigDecimal")) (t' := .long) (by decide) (by decide)))
  have F_tail_a1_2 := F_tail_a1.other W2 (Or.inr (slot_ne (Or.inr (hw _ (List.mem_of_getElem? (i := 54) rfl))) (Or.inr (hw _ (List.mem_of_getElem? (i := 48) rfl))) (by decide) (t := (.array (.object "java/math/BigDecimal"))) (t' := .long) (by decide) (by decide)))
  have Z2 : n0 ≤ h2.size := Nat.le_trans Z0 (Keep.of_wr W2).1
  have K2 : Keep h0 h2 [a1] := K0.wr W2 (Or.inl (List.mem_of_getElem? (i := 0) rfl))
  have N2 := Fr.snoc X2 N0 g_a1
  refine own_go st2 ?_
  show OwnFin p e below s _ _ _ (T2.setTop (mkF m 9 #[.val (.ref a1), .val (.long q2), .second, .val (.int p3)] []))
  refine own_go (fun t_ k_ => XS.aloadN X2.here hx rfl (hb hby d8_9) rfl rfl k_) ?_
  show OwnFin p e below s _ _ _ (T2.setTop (mkF m 10 #[.val (.ref a1), .val (.long q2), .second, .val (.int p3)] [(.ref a1)]))
  refine own_go (fun t_ k_ => XS.iloadN X2.here hx rfl (hb hby d8_10) rfl k_) ?_
  show OwnFin p e below s _ _ _ (T2.setTop (mkF m 11 #[.val (.ref a1), .val (.long q2), .second, .val (.int p3)] [(.int p3), (.ref a1)]))
  obtain ⟨T3, h3, X3, e3, W3, st3⟩ := putF X2 hx hZ hown (host := "") (Or.inl (hw _ (List.mem_of_getElem? (i := 49) rfl))) Via.refl e2 F_scale_a1_2 E_a1_2 (Or.inr ⟨(hw _ (List.mem_of_getElem? (i := 50) rfl)), rfl, hnm⟩) (hw _ (List.mem_of_getElem? (i := 40) rfl)) (ty := .int) (by decide) rfl rfl (g := (mkF m 11 #[.val (.ref a1), .val (.long q2), .second, .val (.int p3)] [(.int p3), (.ref a1)])) rfl rfl (hb hby d8_11)
  have E_a1_3 := E_a1_2.wr W3
  have F_compact_a1_3 := F_compact_a1_2.other W3 (Or.inr (slot_ne (Or.inr (hw _ (List.mem_of_getElem? (i := 48) rfl))) (Or.inr (hw _ (List.mem_of_getElem? (i := 50) rfl))) (by decide) (t := .long) (t' := .int) (by decide) (by decide)))
  have F_scale_a1_3 := F_scale_a1_2.same W3
  have F_head_a1_3 := F_head_a1_2.other W3 (Or.inr (slot_ne (Or.inr (hw _ (List.mem_of_getElem? (i := 52) rfl))) (Or.inr (hw _ (List.mem_of_getElem? (i := 50) rfl))) (by decide) (t := (.object "java/math/BigDecimal")) (t' := .int) (by decide) (by decide)))
  have F_tail_a1_3 := F_tail_a1_2.other W3 (Or.inr (slot_ne (Or.inr (hw _ (List.mem_of_getElem? (i := 54) rfl))) (Or.inr (hw _ (List.mem_of_getElem? (i := 50) rfl))) (by decide) (t := (.array (.object "java/math/BigDecimal"))) (t' := .int) (by decide) (by decide)))
  have Z3 : n0 ≤ h3.size := Nat.le_trans Z2 (Keep.of_wr W3).1
  have K3 : Keep h0 h3 [a1] := K2.wr W3 (Or.inl (List.mem_of_getElem? (i := 0) rfl))
  have N3 := Fr.snoc X3 N2 g_a1
  refine own_go st3 ?_
  show OwnFin p e below s _ _ _ (T3.setTop (mkF m 14 #[.val (.ref a1), .val (.long q2), .second, .val (.int p3)] []))
  refine own_go (fun t_ k_ => XS.aloadN X3.here hx rfl (hb hby d8_14) rfl rfl k_) ?_
  show OwnFin p e below s _ _ _ (T3.setTop (mkF m 15 #[.val (.ref a1), .val (.long q2), .second, .val (.int p3)] [(.ref a1)]))
  refine own_go (fun t_ k_ => XS.aconstNull X3.here hx rfl (hb hby d8_15) k_) ?_
  show OwnFin p e below s _ _ _ (T3.setTop (mkF m 16 #[.val (.ref a1), .val (.long q2), .second, .val (.int p3)] [.null, (.ref a1)]))
  obtain ⟨T4, h4, X4, e4, W4, st4⟩ := putF X3 hx hZ hown (host := "") (Or.inl (hw _ (List.mem_of_getElem? (i := 51) rfl))) Via.refl e3 F_head_a1_3 E_a1_3 (Or.inr ⟨(hw _ (List.mem_of_getElem? (i := 52) rfl)), rfl, hnm⟩) (hw _ (List.mem_of_getElem? (i := 40) rfl)) (ty := (.object "java/math/BigDecimal")) (by decide) rfl rfl (g := (mkF m 16 #[.val (.ref a1), .val (.long q2), .second, .val (.int p3)] [.null, (.ref a1)])) rfl rfl (hb hby d8_16)
  have E_a1_4 := E_a1_3.wr W4
  have F_compact_a1_4 := F_compact_a1_3.other W4 (Or.inr (slot_ne (Or.inr (hw _ (List.mem_of_getElem? (i := 48) rfl))) (Or.inr (hw _ (List.mem_of_getElem? (i := 52) rfl))) (by decide) (t := .long) (t' := (.object "java/math/BigDecimal")) (by decide) (by decide)))
  have F_scale_a1_4 := F_scale_a1_3.other W4 (Or.inr (slot_ne (Or.inr (hw _ (List.mem_of_getElem? (i := 50) rfl))) (Or.inr (hw _ (List.mem_of_getElem? (i := 52) rfl))) (by decide) (t := .int) (t' := (.object "java/math/BigDecimal")) (by decide) (by decide)))
  have F_head_a1_4 := F_head_a1_3.same W4
  have F_tail_a1_4 := F_tail_a1_3.other W4 (Or.inr (slot_ne (Or.inr (hw _ (List.mem_of_getElem? (i := 54) rfl))) (Or.inr (hw _ (List.mem_of_getElem? (i := 52) rfl))) (by decide) (t := (.array (.object "java/math/BigDecimal"))) (t' := (.object "java/math/BigDecimal")) (by decide) (by decide)))
  have Z4 : n0 ≤ h4.size := Nat.le_trans Z3 (Keep.of_wr W4).1
  have K4 : Keep h0 h4 [a1] := K3.wr W4 (Or.inl (List.mem_of_getElem? (i := 0) rfl))
  have N4 := Fr.snoc X4 N3 g_a1
  refine own_go st4 ?_
  show OwnFin p e below s _ _ _ (T4.setTop (mkF m 19 #[.val (.ref a1), .val (.long q2), .second, .val (.int p3)] []))
  refine own_go (fun t_ k_ => XS.aloadN X4.here hx rfl (hb hby d8_19) rfl rfl k_) ?_
  show OwnFin p e below s _ _ _ (T4.setTop (mkF m 20 #[.val (.ref a1), .val (.long q2), .second, .val (.int p3)] [(.ref a1)]))
  refine own_go (fun t_ k_ => XS.aconstNull X4.here hx rfl (hb hby d8_20) k_) ?_
  show OwnFin p e below s _ _ _ (T4.setTop (mkF m 21 #[.val (.ref a1), .val (.long q2), .second, .val (.int p3)] [.null, (.ref a1)]))
  obtain ⟨T5, h5, X5, e5, W5, st5⟩ := putF X4 hx hZ hown (host := "") (Or.inl (hw _ (List.mem_of_getElem? (i := 53) rfl))) Via.refl e4 F_tail_a1_4 E_a1_4 (Or.inr ⟨(hw _ (List.mem_of_getElem? (i := 54) rfl)), rfl, hnm⟩) (hw _ (List.mem_of_getElem? (i := 40) rfl)) (ty := (.array (.object "java/math/BigDecimal"))) (by decide) rfl rfl (g := (mkF m 21 #[.val (.ref a1), .val (.long q2), .second, .val (.int p3)] [.null, (.ref a1)])) rfl rfl (hb hby d8_21)
  have E_a1_5 := E_a1_4.wr W5
  have F_compact_a1_5 := F_compact_a1_4.other W5 (Or.inr (slot_ne (Or.inr (hw _ (List.mem_of_getElem? (i := 48) rfl))) (Or.inr (hw _ (List.mem_of_getElem? (i := 54) rfl))) (by decide) (t := .long) (t' := (.array (.object "java/math/BigDecimal"))) (by decide) (by decide)))
  have F_scale_a1_5 := F_scale_a1_4.other W5 (Or.inr (slot_ne (Or.inr (hw _ (List.mem_of_getElem? (i := 50) rfl))) (Or.inr (hw _ (List.mem_of_getElem? (i := 54) rfl))) (by decide) (t := .int) (t' := (.array (.object "java/math/BigDecimal"))) (by decide) (by decide)))
  have F_head_a1_5 := F_head_a1_4.other W5 (Or.inr (slot_ne (Or.inr (hw _ (List.mem_of_getElem? (i := 52) rfl))) (Or.inr (hw _ (List.mem_of_getElem? (i := 54) rfl))) (by decide) (t := (.object "java/math/BigDecimal")) (t' := (.array (.object "java/math/BigDecimal"))) (by decide) (by decide)))
  have F_tail_a1_5 := F_tail_a1_4.same W5
  have Z5 : n0 ≤ h5.size := Nat.le_trans Z4 (Keep.of_wr W5).1
  have K5 : Keep h0 h5 [a1] := K4.wr W5 (Or.inl (List.mem_of_getElem? (i := 0) rfl))
  have N5 := Fr.snoc X5 N4 g_a1
  refine own_go st5 ?_
  show OwnFin p e below s _ _ _ (T5.setTop (mkF m 24 #[.val (.ref a1), .val (.long q2), .second, .val (.int p3)] []))
  refine own_ret X5 (v := none) hlk (fun _ => rfl) (fun fs hr => X5.returnOut hx hret (hb hby d8_24) hr) (by decide) (by decide) ?_
  rw [e5]
  exact ⟨rfl, N5, K5, E_a1_5, F_compact_a1_5, F_scale_a1_5, F_head_a1_5, F_tail_a1_5⟩
theorem d1_0 : decode method_2_code 0 = .ok (.iload_n 0, 1) := by decide +kernel
theorem d1_1 : decode method_2_code 1 = .ok (.ifCond .ne 5, 3) := by decide +kernel
theorem d1_4 : decode method_2_code 4 = .ok (.aconst_null, 1) := by decide +kernel
theorem d1_5 : decode method_2_code 5 = .ok (.areturn, 1) := by decide +kernel
theorem d1_6 : decode method_2_code 6 = .ok (.iload_n 0, 1) := by decide +kernel
theorem d1_7 : decode method_2_code 7 = .ok (.iconst 1, 1) := by decide +kernel
theorem d1_8 : decode method_2_code 8 = .ok (.if_icmp .ne 25, 3) := by decide +kernel
theorem d1_11 : decode method_2_code 11 = .ok (.new 7, 3) := by decide +kernel
theorem d1_14 : decode method_2_code 14 = .ok (.dup, 1) := by decide +kernel
theorem d1_15 : decode method_2_code 15 = .ok (.lload_n 1, 1) := by decide +kernel
theorem d1_16 : decode method_2_code 16 = .ok (.ldc2_w 9, 3) := by decide +kernel
theorem d1_19 : decode method_2_code 19 = .ok (.lcmp, 1) := by decide +kernel
theorem d1_20 : decode method_2_code 20 = .ok (.ifCond .ne 7, 3) := by decide +kernel
theorem d1_23 : decode method_2_code 23 = .ok (.lconst 0, 1) := by decide +kernel
theorem d1_24 : decode method_2_code 24 = .ok (.goto 4, 3) := by decide +kernel
theorem d1_27 : decode method_2_code 27 = .ok (.lload_n 1, 1) := by decide +kernel
theorem d1_28 : decode method_2_code 28 = .ok (.iload_n 3, 1) := by decide +kernel
theorem d1_29 : decode method_2_code 29 = .ok (.invokespecial 11, 3) := by decide +kernel
theorem d1_32 : decode method_2_code 32 = .ok (.areturn, 1) := by decide +kernel
theorem d1_33 : decode method_2_code 33 = .ok (.new 7, 3) := by decide +kernel
theorem d1_36 : decode method_2_code 36 = .ok (.dup, 1) := by decide +kernel
theorem d1_37 : decode method_2_code 37 = .ok (.ldc2_w 9, 3) := by decide +kernel
theorem d1_40 : decode method_2_code 40 = .ok (.iconst 0, 1) := by decide +kernel
theorem d1_41 : decode method_2_code 41 = .ok (.invokespecial 11, 3) := by decide +kernel
theorem d1_44 : decode method_2_code 44 = .ok (.areturn, 1) := by decide +kernel
theorem pn_1 : plainFor (⟨"com/example/nearside/nearside/support/SplitDecimalArraySetPinLaw", "make", "(IJI)Lcom/example/nearside/nearside/support/SplitDecimal;"⟩ : MethodName) = true := plainFor_of_name (by first | (simp [plainName, overriddenIn]; done) | decide +kernel)
theorem pd_1_7 : parseMethodDescriptor "(JI)V" = some ⟨[.long, .int], none⟩ := by decide +kernel
theorem ef_1 (m : MethodId) (p1 : Int32) (q2 : Int64) (p3 : Int32) : entryFrame m #[(.int p1), (.long q2), (.int p3)] 4 = mkF m 0 #[.val (.int p1), .val (.long q2), .second, .val (.int p3)] [] := by first | (simp [entryFrame, mkF, argsToLocals, Value.category]; done) | rfl
set_option maxRecDepth 65536 in
set_option maxHeartbeats 40000000 in
theorem rm1_0 (l : Launch) (Z : State) (a0 : Array Value) (hw : ∀ d ∈ tables_1, d.before a0 Z = true) (ws : List Jvm.Cond) (pk : Int32) (qc : Int64) (ps : Int32) (h0 : Heap) (n0 : Nat) (Z0 : n0 ≤ h0.size) (hk : pk = (0 : Int32)) :
    OwnCtr l Z (⟨"com/example/nearside/nearside/support/SplitDecimalArraySetPinLaw", "make", "(IJI)Lcom/example/nearside/nearside/support/SplitDecimal;"⟩ : MethodName) ws method_2_code 4 (some (.object "com/example/nearside/nearside/support/SplitDecimal")) ({ frames := 0, cells := 0, slots := 0, locals := 0 } : Room) #[(.int pk), (.long qc), (.int ps)] h0 (fun v h L => v = some .null ∧ Fr n0 L ∧ h = h0) := by
  refine own_body (g0 := fun m => mkF m 0 #[.val (.int pk), .val (.long qc), .second, .val (.int ps)] []) pn_1 (fun m => ef_1 m pk qc ps) ?_
  intro p e s m below meth c s₁ X0 hx hby hml hown hnm hZ e0 hret hlk
  have hml : c.maxLocals = 4 := hml
  have hown : s.vm.findClass "com/example/nearside/nearside/support/SplitDecimalArraySetPinLaw" = some m.cls := hown
  have hnm : meth.name = "make" := hnm
  have hret : meth.sig.returnType = (some (.object "com/example/nearside/nearside/support/SplitDecimal")) := hret
  have N0 := Fr.nil n0
  show OwnFin p e below s _ _ _ (s₁.setTop (mkF m 0 #[.val (.int pk), .val (.long qc), .second, .val (.int ps)] []))
  refine own_go (fun t_ k_ => XS.iloadN X0.here hx rfl (hb hby d1_0) rfl k_) ?_
  show OwnFin p e below s _ _ _ (s₁.setTop (mkF m 1 #[.val (.int pk), .val (.long qc), .second, .val (.int ps)] [(.int pk)]))
  have hc1 : pk = (0 : Int32) := hk
  refine own_go (fun t_ k_ => XS.ifNo X0.here hx rfl (hb hby d1_1) rfl ((if0 _ _).trans (teq hc1).2) k_) ?_
  show OwnFin p e below s _ _ _ (s₁.setTop (mkF m 4 #[.val (.int pk), .val (.long qc), .second, .val (.int ps)] []))
  refine own_go (fun t_ k_ => XS.aconstNull X0.here hx rfl (hb hby d1_4) k_) ?_
  show OwnFin p e below s _ _ _ (s₁.setTop (mkF m 5 #[.val (.int pk), .val (.long qc), .second, .val (.int ps)] [.null]))
  refine own_ret X0 (v := some .null) hlk (fun hh => by rw [hret] at hh; cases hh) (fun fs hr => own_retR X0 hx hret rfl rfl (hb hby d1_5) hr) (by decide) (by decide) ?_
  rw [e0]
  exact ⟨rfl, N0, rfl⟩
set_option maxRecDepth 65536 in
set_option maxHeartbeats 40000000 in
theorem rm1_1 (l : Launch) (Z : State) (a0 : Array Value) (hw : ∀ d ∈ tables_1, d.before a0 Z = true) (ws : List Jvm.Cond) (pk : Int32) (qc : Int64) (ps : Int32) (h0 : Heap) (n0 : Nat) (Z0 : n0 ≤ h0.size) (hk : pk = (1 : Int32)) :
    OwnCtr l Z (⟨"com/example/nearside/nearside/support/SplitDecimalArraySetPinLaw", "make", "(IJI)Lcom/example/nearside/nearside/support/SplitDecimal;"⟩ : MethodName) ws method_2_code 4 (some (.object "com/example/nearside/nearside/support/SplitDecimal")) ({ frames := 2, cells := 1, slots := 4, locals := 28 } : Room) #[(.int pk), (.long qc), (.int ps)] h0 (fun v h L => ∃ b : Addr, v = some (.ref b) ∧ Fr n0 L ∧ Keep h0 h [] ∧ h0.size ≤ b ∧ Exa Z h b "com/example/nearside/nearside/support/SplitDecimal" ∧ Fld Z h b "com/example/nearside/nearside/support/SplitDecimal" "compact" "J" (.long (own_c qc)) ∧ Fld Z h b "com/example/nearside/nearside/support/SplitDecimal" "scale" "I" (.int ps)) := by
  refine own_body (g0 := fun m => mkF m 0 #[.val (.int pk), .val (.long qc), .second, .val (.int ps)] []) pn_1 (fun m => ef_1 m pk qc ps) ?_
  intro p e s m below meth c s₁ X0 hx hby hml hown hnm hZ e0 hret hlk
  have hml : c.maxLocals = 4 := hml
  have hown : s.vm.findClass "com/example/nearside/nearside/support/SplitDecimalArraySetPinLaw" = some m.cls := hown
  have hnm : meth.name = "make" := hnm
  have hret : meth.sig.returnType = (some (.object "com/example/nearside/nearside/support/SplitDecimal")) := hret
  have N0 := Fr.nil n0
  have K0 := Keep.refl h0 []
  show OwnFin p e below s _ _ _ (s₁.setTop (mkF m 0 #[.val (.int pk), .val (.long qc), .second, .val (.int ps)] []))
  refine own_go (fun t_ k_ => XS.iloadN X0.here hx rfl (hb hby d1_0) rfl k_) ?_
  show OwnFin p e below s _ _ _ (s₁.setTop (mkF m 1 #[.val (.int pk), .val (.long qc), .second, .val (.int ps)] [(.int pk)]))
  have hc1 : ¬ (pk = (0 : Int32)) := by rw [hk]; decide
  refine own_go (fun t_ k_ => XS.ifYes X0.here hx rfl (pc0 := 1) (pc' := 6) rfl (hb hby d1_1) rfl ((if0 _ _).trans (feq hc1).2) (by decide) (by decide) k_) ?_
  show OwnFin p e below s _ _ _ (s₁.setTop (mkF m 6 #[.val (.int pk), .val (.long qc), .second, .val (.int ps)] []))
  refine own_go (fun t_ k_ => XS.iloadN X0.here hx rfl (hb hby d1_6) rfl k_) ?_
  show OwnFin p e below s _ _ _ (s₁.setTop (mkF m 7 #[.val (.int pk), .val (.long qc), .second, .val (.int ps)] [(.int pk)]))
  refine own_go (fun t_ k_ => XS.iconst X0.here hx rfl (hb hby d1_7) k_) ?_
  show OwnFin p e below s _ _ _ (s₁.setTop (mkF m 8 #[.val (.int pk), .val (.long qc), .second, .val (.int ps)] [(.int (1 : Int32)), (.int pk)]))
  have hc8 : pk = (1 : Int32) := hk
  refine own_go (fun t_ k_ => XS.icmpNo X0.here hx rfl (hb hby d1_8) rfl (teq hc8).2 k_) ?_
  show OwnFin p e below s _ _ _ (s₁.setTop (mkF m 11 #[.val (.int pk), .val (.long qc), .second, .val (.int ps)] []))
  obtain ⟨T1, h1, X1, e1, E1, A1, D1, -, st1⟩ := newO X0 hx hZ hown (hw _ (List.mem_of_getElem? (i := 39) rfl)) (hw _ (List.mem_of_getElem? (i := 40) rfl)) (hw _ (List.mem_of_getElem? (i := 41) rfl)) e0 (g := (mkF m 11 #[.val (.int pk), .val (.long qc), .second, .val (.int ps)] [])) rfl (hb hby d1_11) (by decide) (by decide)
  obtain ⟨b1, g1⟩ : ∃ z, z = h0.size := ⟨_, rfl⟩
  rw [← g1] at A1 D1 st1
  have g_b1 : n0 ≤ b1 := Nat.le_trans Z0 (Nat.le_of_eq g1.symm)
  have sz_b1 : h0.size ≤ b1 := Nat.le_trans K0.1 (Nat.le_of_eq g1.symm)
  have Z1 : n0 ≤ h1.size := Nat.le_trans Z0 E1.1
  have K1 : Keep h0 h1 [] := K0.ext E1
  have E_b1 := A1
  have F_compact_b1 : Fld Z h1 b1 "com/example/nearside/nearside/support/SplitDecimal" "compact" "J" (.long (0 : Int64)) := D1 (Or.inr (hw _ (List.mem_of_getElem? (i := 48) rfl))) (ty := .long) (by decide)
  have F_scale_b1 : Fld Z h1 b1 "com/example/nearside/nearside/support/SplitDecimal" "scale" "I" (.int (0 : Int32)) := D1 (Or.inr (hw _ (List.mem_of_getElem? (i := 50) rfl))) (ty := .int) (by decide)
  have F_head_b1 : Fld Z h1 b1 "com/example/nearside/nearside/support/SplitDecimal" "head" "Ljava/math/BigDecimal;" .null := D1 (Or.inr (hw _ (List.mem_of_getElem? (i := 52) rfl))) (ty := (.object "java/math/BigDecimal")) (by decide)
  have F_tail_b1 : Fld Z h1 b1 "com/example/nearside/nearside/support/SplitDecimal" "tail" "[Ljava/math/BigDecimal;" .null := D1 (Or.inr (hw _ (List.mem_of_getElem? (i := 54) rfl))) (ty := (.array (.object "java/math/BigDecimal"))) (by decide)
  refine own_go st1 ?_
  show OwnFin p e below s _ _ _ (T1.setTop (mkF m 14 #[.val (.int pk), .val (.long qc), .second, .val (.int ps)] [(.ref b1)]))
  refine own_go (fun t_ k_ => XS.dup X1.here hx rfl (hb hby d1_14) rfl rfl k_) ?_
  show OwnFin p e below s _ _ _ (T1.setTop (mkF m 15 #[.val (.int pk), .val (.long qc), .second, .val (.int ps)] [(.ref b1), (.ref b1)]))
  refine own_go (fun t_ k_ => XS.lloadN X1.here hx rfl (hb hby d1_15) rfl k_) ?_
  show OwnFin p e below s _ _ _ (T1.setTop (mkF m 16 #[.val (.int pk), .val (.long qc), .second, .val (.int ps)] [(.long qc), (.ref b1), (.ref b1)]))
  refine own_go (X1.ldc2Long hx hown (mvT hZ (hw _ (List.mem_of_getElem? (i := 42) rfl))) (g := (mkF m 16 #[.val (.int pk), .val (.long qc), .second, .val (.int ps)] [(.long qc), (.ref b1), (.ref b1)])) rfl (hb hby d1_16)) ?_
  show OwnFin p e below s _ _ _ (T1.setTop (mkF m 19 #[.val (.int pk), .val (.long qc), .second, .val (.int ps)] [(.long (-9223372036854775808 : Int64)), (.long qc), (.ref b1), (.ref b1)]))
  refine own_go (fun t_ k_ => XS.lcmp X1.here hx rfl (hb hby d1_19) rfl k_) ?_
  show OwnFin p e below s _ _ _ (T1.setTop (mkF m 20 #[.val (.int pk), .val (.long qc), .second, .val (.int ps)] [(.int (lcmpW qc (-9223372036854775808 : Int64))), (.ref b1), (.ref b1)]))
  by_cases hc20 : qc = (-9223372036854775808 : Int64)
  · refine own_go (fun t_ k_ => XS.ifNo X1.here hx rfl (hb hby d1_20) rfl ((if0 _ _).trans (teq ((lw_eq qc (-9223372036854775808 : Int64)).mpr hc20)).2) k_) ?_
    show OwnFin p e below s _ _ _ (T1.setTop (mkF m 23 #[.val (.int pk), .val (.long qc), .second, .val (.int ps)] [(.ref b1), (.ref b1)]))
    refine own_go (fun t_ k_ => XS.lconst X1.here hx rfl (hb hby d1_23) k_) ?_
    show OwnFin p e below s _ _ _ (T1.setTop (mkF m 24 #[.val (.int pk), .val (.long qc), .second, .val (.int ps)] [(.long (0 : Int64)), (.ref b1), (.ref b1)]))
    refine own_go (fun t_ k_ => XS.goto X1.here hx rfl (pc0 := 24) (pc' := 28) rfl (hb hby d1_24) (by decide) (by decide) k_) ?_
    show OwnFin p e below s _ _ _ (T1.setTop (mkF m 28 #[.val (.int pk), .val (.long qc), .second, .val (.int ps)] [(.long (0 : Int64)), (.ref b1), (.ref b1)]))
    refine own_go (fun t_ k_ => XS.iloadN X1.here hx rfl (hb hby d1_28) rfl k_) ?_
    show OwnFin p e below s _ _ _ (T1.setTop (mkF m 29 #[.val (.int pk), .val (.long qc), .second, .val (.int ps)] [(.int ps), (.long (0 : Int64)), (.ref b1), (.ref b1)]))
    obtain ⟨v2, T2, L2, X2, hQ2, st2⟩ := own_callI X1 hx hZ (y := (⟨"com/example/nearside/nearside/support/SplitDecimal", "<init>", "(JI)V"⟩ : MethodName)) rfl hown (hw _ (List.mem_of_getElem? (i := 43) rfl)) (hw _ (List.mem_of_getElem? (i := 44) rfl)) (hw _ (List.mem_of_getElem? (i := 41) rfl)) (hw _ (List.mem_of_getElem? (i := 45) rfl)) (by decide) (W := 1) (rm8 l Z a0 hw [] b1 (0 : Int64) ps h1 n0 Z1 E_b1 g_b1 F_compact_b1 F_scale_b1 F_head_b1 F_tail_b1) (by decide) (by decide) (g := (mkF m 29 #[.val (.int pk), .val (.long qc), .second, .val (.int ps)] [(.int ps), (.long (0 : Int64)), (.ref b1), (.ref b1)])) rfl (by rw [hml]; rfl) (a := b1) (argsL := [(.long (0 : Int64)), (.int ps)]) (rest := [(.ref b1)]) (lenOf pd_1_7 rfl) rfl (by show 2 * 0 + _ ≤ _; exact Nat.le_of_eq rfl) (hb hby d1_29) e1 rfl (by decide) (by decide)
    obtain ⟨rfl, Nq2, Kq2, Eq2, Fq2_0, Fq2_1, Fq2_2, Fq2_3⟩ := hQ2
    have N2 := Fr.app N0 Nq2
    have E_b1_2 := E_b1.keep Kq2
    have Z2 : n0 ≤ T2.heap.size := Nat.le_trans Z1 Kq2.1
    have K2 : Keep h0 T2.heap [] := K1.trans Kq2 (allS (Or.inr sz_b1) all0)
    refine own_go st2 ?_
    show OwnFin p e below s _ _ _ (T2.setTop (mkF m 32 #[.val (.int pk), .val (.long qc), .second, .val (.int ps)] [(.ref b1)]))
    refine own_ret X2 (v := some (.ref b1)) hlk (fun hh => by rw [hret] at hh; cases hh) (fun fs hr => own_retR X2 hx hret rfl rfl (hb hby d1_32) hr) (by decide) (by decide) ?_
    refine ⟨b1, rfl, N2, K2, sz_b1, Eq2, ?_, ?_⟩
    · rw [own_c, if_pos hc20]; exact Fq2_0
    · exact Fq2_1
  · refine own_go (fun t_ k_ => XS.ifYes X1.here hx rfl (pc0 := 20) (pc' := 27) rfl (hb hby d1_20) rfl ((if0 _ _).trans (feq (mt (lw_eq qc (-9223372036854775808 : Int64)).mp hc20)).2) (by decide) (by decide) k_) ?_
    show OwnFin p e below s _ _ _ (T1.setTop (mkF m 27 #[.val (.int pk), .val (.long qc), .second, .val (.int ps)] [(.ref b1), (.ref b1)]))
    refine own_go (fun t_ k_ => XS.lloadN X1.here hx rfl (hb hby d1_27) rfl k_) ?_
    show OwnFin p e below s _ _ _ (T1.setTop (mkF m 28 #[.val (.int pk), .val (.long qc), .second, .val (.int ps)] [(.long qc), (.ref b1), (.ref b1)]))
    refine own_go (fun t_ k_ => XS.iloadN X1.here hx rfl (hb hby d1_28) rfl k_) ?_
    show OwnFin p e below s _ _ _ (T1.setTop (mkF m 29 #[.val (.int pk), .val (.long qc), .second, .val (.int ps)] [(.int ps), (.long qc), (.ref b1), (.ref b1)]))
    obtain ⟨v3, T3, L3, X3, hQ3, st3⟩ := own_callI X1 hx hZ (y := (⟨"com/example/nearside/nearside/support/SplitDecimal", "<init>", "(JI)V"⟩ : MethodName)) rfl hown (hw _ (List.mem_of_getElem? (i := 43) rfl)) (hw _ (List.mem_of_getElem? (i := 44) rfl)) (hw _ (List.mem_of_getElem? (i := 41) rfl)) (hw _ (List.mem_of_getElem? (i := 45) rfl)) (by decide) (W := 1) (rm8 l Z a0 hw [] b1 qc ps h1 n0 Z1 E_b1 g_b1 F_compact_b1 F_scale_b1 F_head_b1 F_tail_b1) (by decide) (by decide) (g := (mkF m 29 #[.val (.int pk), .val (.long qc), .second, .val (.int ps)] [(.int ps), (.long qc), (.ref b1), (.ref b1)])) rfl (by rw [hml]; rfl) (a := b1) (argsL := [(.long qc), (.int ps)]) (rest := [(.ref b1)]) (lenOf pd_1_7 rfl) rfl (by show 2 * 0 + _ ≤ _; exact Nat.le_of_eq rfl) (hb hby d1_29) e1 rfl (by decide) (by decide)
    obtain ⟨rfl, Nq3, Kq3, Eq3, Fq3_0, Fq3_1, Fq3_2, Fq3_3⟩ := hQ3
    have N3 := Fr.app N0 Nq3
    have E_b1_3 := E_b1.keep Kq3
    have Z3 : n0 ≤ T3.heap.size := Nat.le_trans Z1 Kq3.1
    have K3 : Keep h0 T3.heap [] := K1.trans Kq3 (allS (Or.inr sz_b1) all0)
    refine own_go st3 ?_
    show OwnFin p e below s _ _ _ (T3.setTop (mkF m 32 #[.val (.int pk), .val (.long qc), .second, .val (.int ps)] [(.ref b1)]))
    refine own_ret X3 (v := some (.ref b1)) hlk (fun hh => by rw [hret] at hh; cases hh) (fun fs hr => own_retR X3 hx hret rfl rfl (hb hby d1_32) hr) (by decide) (by decide) ?_
    refine ⟨b1, rfl, N3, K3, sz_b1, Eq3, ?_, ?_⟩
    · rw [own_c, if_neg hc20]; exact Fq3_0
    · exact Fq3_1
set_option maxRecDepth 65536 in
set_option maxHeartbeats 40000000 in
theorem rm1_2 (l : Launch) (Z : State) (a0 : Array Value) (hw : ∀ d ∈ tables_1, d.before a0 Z = true) (ws : List Jvm.Cond) (pk : Int32) (qc : Int64) (ps : Int32) (h0 : Heap) (n0 : Nat) (Z0 : n0 ≤ h0.size) (hk0 : ¬ pk = (0 : Int32)) (hk1 : ¬ pk = (1 : Int32)) :
    OwnCtr l Z (⟨"com/example/nearside/nearside/support/SplitDecimalArraySetPinLaw", "make", "(IJI)Lcom/example/nearside/nearside/support/SplitDecimal;"⟩ : MethodName) ws method_2_code 4 (some (.object "com/example/nearside/nearside/support/SplitDecimal")) ({ frames := 2, cells := 1, slots := 4, locals := 28 } : Room) #[(.int pk), (.long qc), (.int ps)] h0 (fun v h L => ∃ b : Addr, v = some (.ref b) ∧ Fr n0 L ∧ Keep h0 h [] ∧ h0.size ≤ b ∧ Exa Z h b "com/example/nearside/nearside/support/SplitDecimal" ∧ Fld Z h b "com/example/nearside/nearside/support/SplitDecimal" "compact" "J" (.long (-9223372036854775808 : Int64)) ∧ Fld Z h b "com/example/nearside/nearside/support/SplitDecimal" "scale" "I" (.int (0 : Int32))) := by
  refine own_body (g0 := fun m => mkF m 0 #[.val (.int pk), .val (.long qc), .second, .val (.int ps)] []) pn_1 (fun m => ef_1 m pk qc ps) ?_
  intro p e s m below meth c s₁ X0 hx hby hml hown hnm hZ e0 hret hlk
  have hml : c.maxLocals = 4 := hml
  have hown : s.vm.findClass "com/example/nearside/nearside/support/SplitDecimalArraySetPinLaw" = some m.cls := hown
  have hnm : meth.name = "make" := hnm
  have hret : meth.sig.returnType = (some (.object "com/example/nearside/nearside/support/SplitDecimal")) := hret
  have N0 := Fr.nil n0
  have K0 := Keep.refl h0 []
  show OwnFin p e below s _ _ _ (s₁.setTop (mkF m 0 #[.val (.int pk), .val (.long qc), .second, .val (.int ps)] []))
  refine own_go (fun t_ k_ => XS.iloadN X0.here hx rfl (hb hby d1_0) rfl k_) ?_
  show OwnFin p e below s _ _ _ (s₁.setTop (mkF m 1 #[.val (.int pk), .val (.long qc), .second, .val (.int ps)] [(.int pk)]))
  have hc1 : ¬ (pk = (0 : Int32)) := hk0
  refine own_go (fun t_ k_ => XS.ifYes X0.here hx rfl (pc0 := 1) (pc' := 6) rfl (hb hby d1_1) rfl ((if0 _ _).trans (feq hc1).2) (by decide) (by decide) k_) ?_
  show OwnFin p e below s _ _ _ (s₁.setTop (mkF m 6 #[.val (.int pk), .val (.long qc), .second, .val (.int ps)] []))
  refine own_go (fun t_ k_ => XS.iloadN X0.here hx rfl (hb hby d1_6) rfl k_) ?_
  show OwnFin p e below s _ _ _ (s₁.setTop (mkF m 7 #[.val (.int pk), .val (.long qc), .second, .val (.int ps)] [(.int pk)]))
  refine own_go (fun t_ k_ => XS.iconst X0.here hx rfl (hb hby d1_7) k_) ?_
  show OwnFin p e below s _ _ _ (s₁.setTop (mkF m 8 #[.val (.int pk), .val (.long qc), .second, .val (.int ps)] [(.int (1 : Int32)), (.int pk)]))
  have hc8 : ¬ (pk = (1 : Int32)) := hk1
  refine own_go (fun t_ k_ => XS.icmpYes X0.here hx rfl (pc0 := 8) (pc' := 33) rfl (hb hby d1_8) rfl (feq hc8).2 (by decide) (by decide) k_) ?_
  show OwnFin p e below s _ _ _ (s₁.setTop (mkF m 33 #[.val (.int pk), .val (.long qc), .second, .val (.int ps)] []))
  obtain ⟨T1, h1, X1, e1, E1, A1, D1, -, st1⟩ := newO X0 hx hZ hown (hw _ (List.mem_of_getElem? (i := 39) rfl)) (hw _ (List.mem_of_getElem? (i := 40) rfl)) (hw _ (List.mem_of_getElem? (i := 41) rfl)) e0 (g := (mkF m 33 #[.val (.int pk), .val (.long qc), .second, .val (.int ps)] [])) rfl (hb hby d1_33) (by decide) (by decide)
  obtain ⟨b1, g1⟩ : ∃ z, z = h0.size := ⟨_, rfl⟩
  rw [← g1] at A1 D1 st1
  have g_b1 : n0 ≤ b1 := Nat.le_trans Z0 (Nat.le_of_eq g1.symm)
  have sz_b1 : h0.size ≤ b1 := Nat.le_trans K0.1 (Nat.le_of_eq g1.symm)
  have Z1 : n0 ≤ h1.size := Nat.le_trans Z0 E1.1
  have K1 : Keep h0 h1 [] := K0.ext E1
  have E_b1 := A1
  have F_compact_b1 : Fld Z h1 b1 "com/example/nearside/nearside/support/SplitDecimal" "compact" "J" (.long (0 : Int64)) := D1 (Or.inr (hw _ (List.mem_of_getElem? (i := 48) rfl))) (ty := .long) (by decide)
  have F_scale_b1 : Fld Z h1 b1 "com/example/nearside/nearside/support/SplitDecimal" "scale" "I" (.int (0 : Int32)) := D1 (Or.inr (hw _ (List.mem_of_getElem? (i := 50) rfl))) (ty := .int) (by decide)
  have F_head_b1 : Fld Z h1 b1 "com/example/nearside/nearside/support/SplitDecimal" "head" "Ljava/math/BigDecimal;" .null := D1 (Or.inr (hw _ (List.mem_of_getElem? (i := 52) rfl))) (ty := (.object "java/math/BigDecimal")) (by decide)
  have F_tail_b1 : Fld Z h1 b1 "com/example/nearside/nearside/support/SplitDecimal" "tail" "[Ljava/math/BigDecimal;" .null := D1 (Or.inr (hw _ (List.mem_of_getElem? (i := 54) rfl))) (ty := (.array (.object "java/math/BigDecimal"))) (by decide)
  refine own_go st1 ?_
  show OwnFin p e below s _ _ _ (T1.setTop (mkF m 36 #[.val (.int pk), .val (.long qc), .second, .val (.int ps)] [(.ref b1)]))
  refine own_go (fun t_ k_ => XS.dup X1.here hx rfl (hb hby d1_36) rfl rfl k_) ?_
  show OwnFin p e below s _ _ _ (T1.setTop (mkF m 37 #[.val (.int pk), .val (.long qc), .second, .val (.int ps)] [(.ref b1), (.ref b1)]))
  refine own_go (X1.ldc2Long hx hown (mvT hZ (hw _ (List.mem_of_getElem? (i := 42) rfl))) (g := (mkF m 37 #[.val (.int pk), .val (.long qc), .second, .val (.int ps)] [(.ref b1), (.ref b1)])) rfl (hb hby d1_37)) ?_
  show OwnFin p e below s _ _ _ (T1.setTop (mkF m 40 #[.val (.int pk), .val (.long qc), .second, .val (.int ps)] [(.long (-9223372036854775808 : Int64)), (.ref b1), (.ref b1)]))
  refine own_go (fun t_ k_ => XS.iconst X1.here hx rfl (hb hby d1_40) k_) ?_
  show OwnFin p e below s _ _ _ (T1.setTop (mkF m 41 #[.val (.int pk), .val (.long qc), .second, .val (.int ps)] [(.int (0 : Int32)), (.long (-9223372036854775808 : Int64)), (.ref b1), (.ref b1)]))
  obtain ⟨v2, T2, L2, X2, hQ2, st2⟩ := own_callI X1 hx hZ (y := (⟨"com/example/nearside/nearside/support/SplitDecimal", "<init>", "(JI)V"⟩ : MethodName)) rfl hown (hw _ (List.mem_of_getElem? (i := 43) rfl)) (hw _ (List.mem_of_getElem? (i := 44) rfl)) (hw _ (List.mem_of_getElem? (i := 41) rfl)) (hw _ (List.mem_of_getElem? (i := 45) rfl)) (by decide) (W := 1) (rm8 l Z a0 hw [] b1 (-9223372036854775808 : Int64) (0 : Int32) h1 n0 Z1 E_b1 g_b1 F_compact_b1 F_scale_b1 F_head_b1 F_tail_b1) (by decide) (by decide) (g := (mkF m 41 #[.val (.int pk), .val (.long qc), .second, .val (.int ps)] [(.int (0 : Int32)), (.long (-9223372036854775808 : Int64)), (.ref b1), (.ref b1)])) rfl (by rw [hml]; rfl) (a := b1) (argsL := [(.long (-9223372036854775808 : Int64)), (.int (0 : Int32))]) (rest := [(.ref b1)]) (lenOf pd_1_7 rfl) rfl (by show 2 * 0 + _ ≤ _; exact Nat.le_of_eq rfl) (hb hby d1_41) e1 rfl (by decide) (by decide)
  obtain ⟨rfl, Nq2, Kq2, Eq2, Fq2_0, Fq2_1, Fq2_2, Fq2_3⟩ := hQ2
  have N2 := Fr.app N0 Nq2
  have E_b1_2 := E_b1.keep Kq2
  have Z2 : n0 ≤ T2.heap.size := Nat.le_trans Z1 Kq2.1
  have K2 : Keep h0 T2.heap [] := K1.trans Kq2 (allS (Or.inr sz_b1) all0)
  refine own_go st2 ?_
  show OwnFin p e below s _ _ _ (T2.setTop (mkF m 44 #[.val (.int pk), .val (.long qc), .second, .val (.int ps)] [(.ref b1)]))
  refine own_ret X2 (v := some (.ref b1)) hlk (fun hh => by rw [hret] at hh; cases hh) (fun fs hr => own_retR X2 hx hret rfl rfl (hb hby d1_44) hr) (by decide) (by decide) ?_
  refine ⟨b1, rfl, N2, K2, sz_b1, Eq2, ?_, ?_⟩
  · exact Fq2_0
  · exact Fq2_1
theorem d4_0 : decode jdk_65_method_101_code 0 = .ok (.iconst 0, 1) := by decide +kernel
theorem d4_1 : decode jdk_65_method_101_code 1 = .ok (.istore_n 3, 1) := by decide +kernel
theorem d4_2 : decode jdk_65_method_101_code 2 = .ok (.aload_n 0, 1) := by decide +kernel
theorem d4_3 : decode jdk_65_method_101_code 3 = .ok (.arraylength, 1) := by decide +kernel
theorem d4_4 : decode jdk_65_method_101_code 4 = .ok (.istore 4, 2) := by decide +kernel
theorem d4_6 : decode jdk_65_method_101_code 6 = .ok (.iload_n 3, 1) := by decide +kernel
theorem d4_7 : decode jdk_65_method_101_code 7 = .ok (.iload 4, 2) := by decide +kernel
theorem d4_9 : decode jdk_65_method_101_code 9 = .ok (.if_icmp .ge 13, 3) := by decide +kernel
theorem d4_12 : decode jdk_65_method_101_code 12 = .ok (.aload_n 0, 1) := by decide +kernel
theorem d4_13 : decode jdk_65_method_101_code 13 = .ok (.iload_n 3, 1) := by decide +kernel
theorem d4_14 : decode jdk_65_method_101_code 14 = .ok (.lload_n 1, 1) := by decide +kernel
theorem d4_15 : decode jdk_65_method_101_code 15 = .ok (.lastore, 1) := by decide +kernel
theorem d4_16 : decode jdk_65_method_101_code 16 = .ok (.iinc 3 1, 3) := by decide +kernel
theorem d4_19 : decode jdk_65_method_101_code 19 = .ok (.goto (-13), 3) := by decide +kernel
theorem d4_22 : decode jdk_65_method_101_code 22 = .ok (.return_, 1) := by decide +kernel
theorem pn_4 : plainFor (⟨"java/util/Arrays", "fill", "([JJ)V"⟩ : MethodName) = true := plainFor_of_name (by first | (simp [plainName, overriddenIn]; done) | decide +kernel)
theorem ef_4 (m : MethodId) (ca : Addr) (qw : Int64) : entryFrame m #[(.ref ca), (.long qw)] 5 = mkF m 0 #[.val (.ref ca), .val (.long qw), .second, .unset, .unset] [] := by first | (simp [entryFrame, mkF, argsToLocals, Value.category]; done) | rfl
set_option maxRecDepth 65536 in
set_option maxHeartbeats 40000000 in
theorem rm4 (l : Launch) (Z : State) (a0 : Array Value) (hw : ∀ d ∈ tables_1, d.before a0 Z = true) (ws : List Jvm.Cond) (ca : Addr) (qw : Int64) (n : Nat) (f : Nat → Value) (h0 : Heap) (n0 : Nat) (Z0 : n0 ≤ h0.size) (V_ca : OwnArr Z h0 ca .long n f) (g_ca : n0 ≤ ca) (hn : n < 1000) :
    OwnCtr l Z (⟨"java/util/Arrays", "fill", "([JJ)V"⟩ : MethodName) ws jdk_65_method_101_code 5 none ({ frames := 0, cells := 0, slots := 0, locals := 0 } : Room) #[(.ref ca), (.long qw)] h0 (fun v h L => v = none ∧ Fr n0 L ∧ Keep h0 h [ca] ∧ OwnArr Z h ca .long n (fun _ => .long qw)) := by
  refine own_body (g0 := fun m => mkF m 0 #[.val (.ref ca), .val (.long qw), .second, .unset, .unset] []) pn_4 (fun m => ef_4 m ca qw) ?_
  intro p e s m below meth c s₁ X0 hx hby hml hown hnm hZ e0 hret hlk
  have hml : c.maxLocals = 5 := hml
  have hown : s.vm.findClass "java/util/Arrays" = some m.cls := hown
  have hnm : meth.name = "fill" := hnm
  have hret : meth.sig.returnType = none := hret
  have N0 := Fr.nil n0
  have K0 := Keep.refl h0 [ca]
  show OwnFin p e below s _ _ _ (s₁.setTop (mkF m 0 #[.val (.ref ca), .val (.long qw), .second, .unset, .unset] []))
  refine own_go (fun t_ k_ => XS.iconst X0.here hx rfl (hb hby d4_0) k_) ?_
  show OwnFin p e below s _ _ _ (s₁.setTop (mkF m 1 #[.val (.ref ca), .val (.long qw), .second, .unset, .unset] [(.int (0 : Int32))]))
  refine own_go (fun t_ k_ => XS.istoreN X0.here hx rfl (hb hby d4_1) rfl (l' := #[.val (.ref ca), .val (.long qw), .second, .val (.int (0 : Int32)), .unset]) rfl k_) ?_
  show OwnFin p e below s _ _ _ (s₁.setTop (mkF m 2 #[.val (.ref ca), .val (.long qw), .second, .val (.int (0 : Int32)), .unset] []))
  refine own_go (fun t_ k_ => XS.aloadN X0.here hx rfl (hb hby d4_2) rfl rfl k_) ?_
  show OwnFin p e below s _ _ _ (s₁.setTop (mkF m 3 #[.val (.ref ca), .val (.long qw), .second, .val (.int (0 : Int32)), .unset] [(.ref ca)]))
  refine own_go (own_alength X0 hx hZ e0 V_ca (g := (mkF m 3 #[.val (.ref ca), .val (.long qw), .second, .val (.int (0 : Int32)), .unset] [(.ref ca)])) rfl rfl (hb hby d4_3)) ?_
  show OwnFin p e below s _ _ _ (s₁.setTop (mkF m 4 #[.val (.ref ca), .val (.long qw), .second, .val (.int (0 : Int32)), .unset] [(.int (Int32.ofNat n))]))
  refine own_go (fun t_ k_ => XS.istore X0.here hx rfl (hb hby d4_4) rfl (l' := #[.val (.ref ca), .val (.long qw), .second, .val (.int (0 : Int32)), .val (.int (Int32.ofNat n))]) rfl k_) ?_
  show OwnFin p e below s _ _ _ (s₁.setTop (mkF m 6 #[.val (.ref ca), .val (.long qw), .second, .val (.int (0 : Int32)), .val (.int (Int32.ofNat n))] []))
  have loop : ∀ (d i : Nat) (T : State) (locs : List Loc) (h1 : Heap) (fi : Nat → Value), Stand p l e ({ frames := 0, cells := 0, slots := 0, locals := 0 } : Room) s m #[(.ref ca), (.long qw)] below meth c T locs 0 0 → T.heap = h1 → Fr n0 locs → Keep h0 h1 [ca] → OwnArr Z h1 ca .long n fi → i + d = n → (∀ k, k < i → fi k = .long qw) → OwnFin p e below s (fun v h L => v = none ∧ Fr n0 L ∧ Keep h0 h [ca] ∧ OwnArr Z h ca .long n (fun _ => .long qw)) 0 0 (T.setTop (mkF m 6 #[.val (.ref ca), .val (.long qw), .second, .val (.int (Int32.ofNat i)), .val (.int (Int32.ofNat n))] [])) := by
    intro d
    induction d with
    | zero =>
      intro i T locs h1 fi X e1 N1 K1 V1 hid hk
      have Zi : n0 ≤ h1.size := Nat.le_trans Z0 K1.1
      refine own_go (fun t_ k_ => XS.iloadN X.here hx rfl (hb hby d4_6) rfl k_) ?_
      show OwnFin p e below s _ _ _ (T.setTop (mkF m 7 #[.val (.ref ca), .val (.long qw), .second, .val (.int (Int32.ofNat i)), .val (.int (Int32.ofNat n))] [(.int (Int32.ofNat i))]))
      refine own_go (fun t_ k_ => XS.iload X.here hx rfl (hb hby d4_7) rfl k_) ?_
      show OwnFin p e below s _ _ _ (T.setTop (mkF m 9 #[.val (.ref ca), .val (.long qw), .second, .val (.int (Int32.ofNat i)), .val (.int (Int32.ofNat n))] [(.int (Int32.ofNat n)), (.int (Int32.ofNat i))]))
      have hc9 : ¬ ((Int32.ofNat i) < (Int32.ofNat n)) := by rw [Int32.lt_iff_toInt_lt, toInt_of (n := Int32.ofNat i) rfl (by omega), toInt_of (n := Int32.ofNat n) rfl (by omega)]; omega
      refine own_go (fun t_ k_ => XS.icmpYes X.here hx rfl (pc0 := 9) (pc' := 22) rfl (hb hby d4_9) rfl (flt hc9).2.1 (by decide) (by decide) k_) ?_
      show OwnFin p e below s _ _ _ (T.setTop (mkF m 22 #[.val (.ref ca), .val (.long qw), .second, .val (.int (Int32.ofNat i)), .val (.int (Int32.ofNat n))] []))
      refine own_ret X (v := none) hlk (fun _ => rfl) (fun fs hr => X.returnOut hx hret (hb hby d4_22) hr) (by decide) (by decide) ?_
      rw [e1]
      exact ⟨rfl, N1, K1, V1.congr (fun z hz => hk z (by omega))⟩
    | succ d ih =>
      intro i T locs h1 fi X e1 N1 K1 V1 hid hk
      have Zi : n0 ≤ h1.size := Nat.le_trans Z0 K1.1
      refine own_go (fun t_ k_ => XS.iloadN X.here hx rfl (hb hby d4_6) rfl k_) ?_
      show OwnFin p e below s _ _ _ (T.setTop (mkF m 7 #[.val (.ref ca), .val (.long qw), .second, .val (.int (Int32.ofNat i)), .val (.int (Int32.ofNat n))] [(.int (Int32.ofNat i))]))
      refine own_go (fun t_ k_ => XS.iload X.here hx rfl (hb hby d4_7) rfl k_) ?_
      show OwnFin p e below s _ _ _ (T.setTop (mkF m 9 #[.val (.ref ca), .val (.long qw), .second, .val (.int (Int32.ofNat i)), .val (.int (Int32.ofNat n))] [(.int (Int32.ofNat n)), (.int (Int32.ofNat i))]))
      have hc9 : (Int32.ofNat i) < (Int32.ofNat n) := by rw [Int32.lt_iff_toInt_lt, toInt_of (n := Int32.ofNat i) rfl (by omega), toInt_of (n := Int32.ofNat n) rfl (by omega)]; omega
      refine own_go (fun t_ k_ => XS.icmpNo X.here hx rfl (hb hby d4_9) rfl (tlt hc9).2.1 k_) ?_
      show OwnFin p e below s _ _ _ (T.setTop (mkF m 12 #[.val (.ref ca), .val (.long qw), .second, .val (.int (Int32.ofNat i)), .val (.int (Int32.ofNat n))] []))
      refine own_go (fun t_ k_ => XS.aloadN X.here hx rfl (hb hby d4_12) rfl rfl k_) ?_
      show OwnFin p e below s _ _ _ (T.setTop (mkF m 13 #[.val (.ref ca), .val (.long qw), .second, .val (.int (Int32.ofNat i)), .val (.int (Int32.ofNat n))] [(.ref ca)]))
      refine own_go (fun t_ k_ => XS.iloadN X.here hx rfl (hb hby d4_13) rfl k_) ?_
      show OwnFin p e below s _ _ _ (T.setTop (mkF m 14 #[.val (.ref ca), .val (.long qw), .second, .val (.int (Int32.ofNat i)), .val (.int (Int32.ofNat n))] [(.int (Int32.ofNat i)), (.ref ca)]))
      refine own_go (fun t_ k_ => XS.lloadN X.here hx rfl (hb hby d4_14) rfl k_) ?_
      show OwnFin p e below s _ _ _ (T.setTop (mkF m 15 #[.val (.ref ca), .val (.long qw), .second, .val (.int (Int32.ofNat i)), .val (.int (Int32.ofNat n))] [(.long qw), (.int (Int32.ofNat i)), (.ref ca)]))
      obtain ⟨T1, h1, X1, e1, W1, A1, st1⟩ := own_lastore X hx hZ e1 V1 (i := i) rfl (by omega) (g := (mkF m 15 #[.val (.ref ca), .val (.long qw), .second, .val (.int (Int32.ofNat i)), .val (.int (Int32.ofNat n))] [(.long qw), (.int (Int32.ofNat i)), (.ref ca)])) rfl rfl (hb hby d4_15)
      have Z1 : n0 ≤ h1.size := Nat.le_trans Zi (Keep.of_wr W1).1
      have K1 : Keep h0 h1 [ca] := K1.wr W1 (Or.inl (List.mem_of_getElem? (i := 0) rfl))
      have N1 := Fr.snoc X1 N1 g_ca
      refine own_go st1 ?_
      show OwnFin p e below s _ _ _ (T1.setTop (mkF m 16 #[.val (.ref ca), .val (.long qw), .second, .val (.int (Int32.ofNat i)), .val (.int (Int32.ofNat n))] []))
      refine own_go (fun t_ k_ => XS.iinc X1.here hx rfl (hb hby d4_16) rfl (l' := #[.val (.ref ca), .val (.long qw), .second, .val (.int ((Int32.ofNat i) + (1 : Int32))), .val (.int (Int32.ofNat n))]) rfl k_) ?_
      show OwnFin p e below s _ _ _ (T1.setTop (mkF m 19 #[.val (.ref ca), .val (.long qw), .second, .val (.int ((Int32.ofNat i) + (1 : Int32))), .val (.int (Int32.ofNat n))] []))
      refine own_go (fun t_ k_ => XS.goto X1.here hx rfl (pc0 := 19) (pc' := 6) rfl (hb hby d4_19) (by decide) (by decide) k_) ?_
      show OwnFin p e below s _ _ _ (T1.setTop (mkF m 6 #[.val (.ref ca), .val (.long qw), .second, .val (.int ((Int32.ofNat i) + (1 : Int32))), .val (.int (Int32.ofNat n))] []))
      have einc : Int32.ofNat i + (1 : Int32) = Int32.ofNat (i + 1) := (inc_ofNat i).symm
      rw [einc]
      exact ih (i + 1) T1 _ _ _ X1 e1 N1 K1 A1 (by omega) (fun k hk' => by
        by_cases e : k = i
        · simp [e]
        · simp [e, hk k (by omega)])
  exact loop n 0 s₁ _ _ _ X0 e0 N0 K0 V_ca (by omega) (fun k hk => absurd hk (Nat.not_lt_zero k))
theorem d2_0 : decode prog_177_method_1_code 0 = .ok (.aload_n 0, 1) := by decide +kernel
theorem d2_1 : decode prog_177_method_1_code 1 = .ok (.invokespecial 5, 3) := by decide +kernel
theorem d2_4 : decode prog_177_method_1_code 4 = .ok (.aload_n 0, 1) := by decide +kernel
theorem d2_5 : decode prog_177_method_1_code 5 = .ok (.iload_n 1, 1) := by decide +kernel
theorem d2_6 : decode prog_177_method_1_code 6 = .ok (.newarray .long, 2) := by decide +kernel
theorem d2_8 : decode prog_177_method_1_code 8 = .ok (.putfield 11, 3) := by decide +kernel
theorem d2_11 : decode prog_177_method_1_code 11 = .ok (.aload_n 0, 1) := by decide +kernel
theorem d2_12 : decode prog_177_method_1_code 12 = .ok (.iload_n 1, 1) := by decide +kernel
theorem d2_13 : decode prog_177_method_1_code 13 = .ok (.newarray .int, 2) := by decide +kernel
theorem d2_15 : decode prog_177_method_1_code 15 = .ok (.putfield 17, 3) := by decide +kernel
theorem d2_18 : decode prog_177_method_1_code 18 = .ok (.aload_n 0, 1) := by decide +kernel
theorem d2_19 : decode prog_177_method_1_code 19 = .ok (.getfield 11, 3) := by decide +kernel
theorem d2_22 : decode prog_177_method_1_code 22 = .ok (.ldc2_w 23, 3) := by decide +kernel
theorem d2_25 : decode prog_177_method_1_code 25 = .ok (.invokestatic 25, 3) := by decide +kernel
theorem d2_28 : decode prog_177_method_1_code 28 = .ok (.return_, 1) := by decide +kernel
theorem pn_2 : plainFor (⟨"com/example/nearside/nearside/support/SplitDecimalArray", "<init>", "(I)V"⟩ : MethodName) = true := plainFor_of_name (by first | (simp [plainName, overriddenIn]; done) | decide +kernel)
theorem pd_2_3 : parseMethodDescriptor "([JJ)V" = some ⟨[(.array .long), .long], none⟩ := by decide +kernel
theorem ef_2 (m : MethodId) (ao : Addr) (pn : Int32) : entryFrame m #[(.ref ao), (.int pn)] 2 = mkF m 0 #[.val (.ref ao), .val (.int pn)] [] := by first | (simp [entryFrame, mkF, argsToLocals, Value.category]; done) | rfl
set_option maxRecDepth 65536 in
set_option maxHeartbeats 40000000 in
theorem rm2 (l : Launch) (Z : State) (a0 : Array Value) (hw : ∀ d ∈ tables_1, d.before a0 Z = true) (ws : List Jvm.Cond) (ao : Addr) (pn : Int32) (n : Nat) {u1 : Value} {u2 : Value} (h0 : Heap) (n0 : Nat) (Z0 : n0 ≤ h0.size) (hn : pn = Int32.ofNat n) (hn4 : n ≤ 4) (E_ao : Exa Z h0 ao "com/example/nearside/nearside/support/SplitDecimalArray") (g_ao : n0 ≤ ao) (F_compact : Fld Z h0 ao "com/example/nearside/nearside/support/SplitDecimalArray" "compact" "[J" u1) (F_scale : Fld Z h0 ao "com/example/nearside/nearside/support/SplitDecimalArray" "scale" "[I" u2) (F_whole : Fld Z h0 ao "com/example/nearside/nearside/support/SplitDecimalArray" "whole" "[Lcom/example/nearside/nearside/support/SplitDecimal;" .null) :
    OwnCtr l Z (⟨"com/example/nearside/nearside/support/SplitDecimalArray", "<init>", "(I)V"⟩ : MethodName) ws prog_177_method_1_code 2 none ({ frames := 1, cells := 2, slots := 8, locals := 16 } : Room) #[(.ref ao), (.int pn)] h0 (fun v h L => v = none ∧ Fr n0 L ∧ Keep h0 h [ao] ∧ Exa Z h ao "com/example/nearside/nearside/support/SplitDecimalArray" ∧ ∃ ca sc : Addr, h0.size ≤ ca ∧ h0.size ≤ sc ∧ ca ≠ sc ∧ Fld Z h ao "com/example/nearside/nearside/support/SplitDecimalArray" "compact" "[J" (.ref ca) ∧ Fld Z h ao "com/example/nearside/nearside/support/SplitDecimalArray" "scale" "[I" (.ref sc) ∧ Fld Z h ao "com/example/nearside/nearside/support/SplitDecimalArray" "whole" "[Lcom/example/nearside/nearside/support/SplitDecimal;" .null ∧ OwnArr Z h ca .long n (fun _ => .long (-9223372036854775808 : Int64)) ∧ OwnArr Z h sc .int n (fun _ => .int 0)) := by
  refine own_body (g0 := fun m => mkF m 0 #[.val (.ref ao), .val (.int pn)] []) pn_2 (fun m => ef_2 m ao pn) ?_
  intro p e s m below meth c s₁ X0 hx hby hml hown hnm hZ e0 hret hlk
  have hml : c.maxLocals = 2 := hml
  have hown : s.vm.findClass "com/example/nearside/nearside/support/SplitDecimalArray" = some m.cls := hown
  have hnm : meth.name = "<init>" := hnm
  have hret : meth.sig.returnType = none := hret
  have N0 := Fr.nil n0
  have K0 := Keep.refl h0 [ao]
  show OwnFin p e below s _ _ _ (s₁.setTop (mkF m 0 #[.val (.ref ao), .val (.int pn)] []))
  refine own_go (fun t_ k_ => XS.aloadN X0.here hx rfl (hb hby d2_0) rfl rfl k_) ?_
  show OwnFin p e below s _ _ _ (s₁.setTop (mkF m 1 #[.val (.ref ao), .val (.int pn)] [(.ref ao)]))
  obtain ⟨T1, X1, e1, st1⟩ := initO X0 hx hZ hown (hw _ (List.mem_of_getElem? (i := 10) rfl)) (hw _ (List.mem_of_getElem? (i := 11) rfl)) (hw _ (List.mem_of_getElem? (i := 12) rfl)) e0 (g := (mkF m 1 #[.val (.ref ao), .val (.int pn)] [(.ref ao)])) rfl (by rw [hml]; rfl) rfl (hb hby d2_1) (by decide) (W := 0) (by show 2 * 0 + _ ≤ _; exact Nat.le_of_eq rfl) (by decide)
  refine own_go st1 ?_
  show OwnFin p e below s _ _ _ (T1.setTop (mkF m 4 #[.val (.ref ao), .val (.int pn)] []))
  refine own_go (fun t_ k_ => XS.aloadN X1.here hx rfl (hb hby d2_4) rfl rfl k_) ?_
  show OwnFin p e below s _ _ _ (T1.setTop (mkF m 5 #[.val (.ref ao), .val (.int pn)] [(.ref ao)]))
  refine own_go (fun t_ k_ => XS.iloadN X1.here hx rfl (hb hby d2_5) rfl k_) ?_
  show OwnFin p e below s _ _ _ (T1.setTop (mkF m 6 #[.val (.ref ao), .val (.int pn)] [(.int pn), (.ref ao)]))
  obtain ⟨T2, h2, X2, e2, E2, A2, st2⟩ := own_newarr X1 hx hZ (hw _ (List.mem_of_getElem? (i := 13) rfl)) e1 (g := (mkF m 6 #[.val (.ref ao), .val (.int pn)] [(.int pn), (.ref ao)])) rfl (hb hby d2_6) rfl (n := n) (cap := 4) hn hn4 (by decide) (by decide) (by decide)
  obtain ⟨b2, g2⟩ : ∃ z, z = h0.size := ⟨_, rfl⟩
  rw [← g2] at A2 st2
  have g_b2 : n0 ≤ b2 := Nat.le_trans Z0 (Nat.le_of_eq g2.symm)
  have sz_b2 : h0.size ≤ b2 := Nat.le_trans K0.1 (Nat.le_of_eq g2.symm)
  have ne_ao_b2 : ao ≠ b2 := Nat.ne_of_lt (Nat.lt_of_lt_of_le E_ao.lt (Nat.le_of_eq g2.symm))
  have E_ao_2 := E_ao.ext E2
  have F_compact_2 := F_compact.ext E2
  have F_scale_2 := F_scale.ext E2
  have F_whole_2 := F_whole.ext E2
  have Z2 : n0 ≤ h2.size := Nat.le_trans Z0 E2.1
  have K2 : Keep h0 h2 [ao] := K0.ext E2
  have V_b2 : OwnArr Z h2 b2 .long n (fun _ => (.long (0 : Int64))) := A2
  refine own_go st2 ?_
  show OwnFin p e below s _ _ _ (T2.setTop (mkF m 8 #[.val (.ref ao), .val (.int pn)] [(.ref b2), (.ref ao)]))
  obtain ⟨T3, h3, X3, e3, W3, st3⟩ := putF X2 hx hZ hown (host := "") (Or.inl (hw _ (List.mem_of_getElem? (i := 14) rfl))) Via.refl e2 F_compact_2 E_ao_2 (Or.inr ⟨(hw _ (List.mem_of_getElem? (i := 15) rfl)), rfl, hnm⟩) (hw _ (List.mem_of_getElem? (i := 5) rfl)) (ty := (.array .long)) (by decide) rfl rfl (g := (mkF m 8 #[.val (.ref ao), .val (.int pn)] [(.ref b2), (.ref ao)])) rfl rfl (hb hby d2_8)
  have E_ao_3 := E_ao_2.wr W3
  have F_compact_3 := F_compact_2.same W3
  have F_scale_3 := F_scale_2.other W3 (Or.inr (slot_ne (Or.inr (hw _ (List.mem_of_getElem? (i := 18) rfl))) (Or.inr (hw _ (List.mem_of_getElem? (i := 15) rfl))) (by decide) (t := (.array .int)) (t' := (.array .long)) (by decide) (by decide)))
  have F_whole_3 := F_whole_2.other W3 (Or.inr (slot_ne (Or.inl (hw _ (List.mem_of_getElem? (i := 30) rfl))) (Or.inr (hw _ (List.mem_of_getElem? (i := 15) rfl))) (by decide) (t := (.array (.object "com/example/nearside/nearside/support/SplitDecimal"))) (t' := (.array .long)) (by decide) (by decide)))
  have V_b2_3 := V_b2.other W3 (Ne.symm ne_ao_b2)
  have Z3 : n0 ≤ h3.size := Nat.le_trans Z2 (Keep.of_wr W3).1
  have K3 : Keep h0 h3 [ao] := K2.wr W3 (Or.inl (List.mem_of_getElem? (i := 0) rfl))
  have N3 := Fr.snoc X3 N0 g_ao
  refine own_go st3 ?_
  show OwnFin p e below s _ _ _ (T3.setTop (mkF m 11 #[.val (.ref ao), .val (.int pn)] []))
  refine own_go (fun t_ k_ => XS.aloadN X3.here hx rfl (hb hby d2_11) rfl rfl k_) ?_
  show OwnFin p e below s _ _ _ (T3.setTop (mkF m 12 #[.val (.ref ao), .val (.int pn)] [(.ref ao)]))
  refine own_go (fun t_ k_ => XS.iloadN X3.here hx rfl (hb hby d2_12) rfl k_) ?_
  show OwnFin p e below s _ _ _ (T3.setTop (mkF m 13 #[.val (.ref ao), .val (.int pn)] [(.int pn), (.ref ao)]))
  obtain ⟨T4, h4, X4, e4, E4, A4, st4⟩ := own_newarr X3 hx hZ (hw _ (List.mem_of_getElem? (i := 16) rfl)) e3 (g := (mkF m 13 #[.val (.ref ao), .val (.int pn)] [(.int pn), (.ref ao)])) rfl (hb hby d2_13) rfl (n := n) (cap := 4) hn hn4 (by decide) (by decide) (by decide)
  obtain ⟨b4, g4⟩ : ∃ z, z = h3.size := ⟨_, rfl⟩
  rw [← g4] at A4 st4
  have g_b4 : n0 ≤ b4 := Nat.le_trans Z3 (Nat.le_of_eq g4.symm)
  have sz_b4 : h0.size ≤ b4 := Nat.le_trans K3.1 (Nat.le_of_eq g4.symm)
  have ne_ao_b4 : ao ≠ b4 := Nat.ne_of_lt (Nat.lt_of_lt_of_le E_ao_3.lt (Nat.le_of_eq g4.symm))
  have ne_b2_b4 : b2 ≠ b4 := Nat.ne_of_lt (Nat.lt_of_lt_of_le V_b2_3.lt (Nat.le_of_eq g4.symm))
  have E_ao_4 := E_ao_3.ext E4
  have F_compact_4 := F_compact_3.ext E4
  have F_scale_4 := F_scale_3.ext E4
  have F_whole_4 := F_whole_3.ext E4
  have V_b2_4 := V_b2_3.ext E4
  have Z4 : n0 ≤ h4.size := Nat.le_trans Z3 E4.1
  have K4 : Keep h0 h4 [ao] := K3.ext E4
  have V_b4 : OwnArr Z h4 b4 .int n (fun _ => (.int (0 : Int32))) := A4
  refine own_go st4 ?_
  show OwnFin p e below s _ _ _ (T4.setTop (mkF m 15 #[.val (.ref ao), .val (.int pn)] [(.ref b4), (.ref ao)]))
  obtain ⟨T5, h5, X5, e5, W5, st5⟩ := putF X4 hx hZ hown (host := "") (Or.inl (hw _ (List.mem_of_getElem? (i := 17) rfl))) Via.refl e4 F_scale_4 E_ao_4 (Or.inr ⟨(hw _ (List.mem_of_getElem? (i := 18) rfl)), rfl, hnm⟩) (hw _ (List.mem_of_getElem? (i := 5) rfl)) (ty := (.array .int)) (by decide) rfl rfl (g := (mkF m 15 #[.val (.ref ao), .val (.int pn)] [(.ref b4), (.ref ao)])) rfl rfl (hb hby d2_15)
  have E_ao_5 := E_ao_4.wr W5
  have F_compact_5 := F_compact_4.other W5 (Or.inr (slot_ne (Or.inr (hw _ (List.mem_of_getElem? (i := 15) rfl))) (Or.inr (hw _ (List.mem_of_getElem? (i := 18) rfl))) (by decide) (t := (.array .long)) (t' := (.array .int)) (by decide) (by decide)))
  have F_scale_5 := F_scale_4.same W5
  have F_whole_5 := F_whole_4.other W5 (Or.inr (slot_ne (Or.inl (hw _ (List.mem_of_getElem? (i := 30) rfl))) (Or.inr (hw _ (List.mem_of_getElem? (i := 18) rfl))) (by decide) (t := (.array (.object "com/example/nearside/nearside/support/SplitDecimal"))) (t' := (.array .int)) (by decide) (by decide)))
  have V_b2_5 := V_b2_4.other W5 (Ne.symm ne_ao_b2)
  have V_b4_5 := V_b4.other W5 (Ne.symm ne_ao_b4)
  have Z5 : n0 ≤ h5.size := Nat.le_trans Z4 (Keep.of_wr W5).1
  have K5 : Keep h0 h5 [ao] := K4.wr W5 (Or.inl (List.mem_of_getElem? (i := 0) rfl))
  have N5 := Fr.snoc X5 N3 g_ao
  refine own_go st5 ?_
  show OwnFin p e below s _ _ _ (T5.setTop (mkF m 18 #[.val (.ref ao), .val (.int pn)] []))
  refine own_go (fun t_ k_ => XS.aloadN X5.here hx rfl (hb hby d2_18) rfl rfl k_) ?_
  show OwnFin p e below s _ _ _ (T5.setTop (mkF m 19 #[.val (.ref ao), .val (.int pn)] [(.ref ao)]))
  obtain ⟨T6, X6, e6, st6⟩ := getF X5 hx hZ hown (host := "") (Or.inl (hw _ (List.mem_of_getElem? (i := 14) rfl))) Via.refl e5 F_compact_5 (g := (mkF m 19 #[.val (.ref ao), .val (.int pn)] [(.ref ao)])) rfl rfl (hb hby d2_19)
  refine own_go st6 ?_
  show OwnFin p e below s _ _ _ (T6.setTop (mkF m 22 #[.val (.ref ao), .val (.int pn)] [(.ref b2)]))
  refine own_go (X6.ldc2Long hx hown (mvT hZ (hw _ (List.mem_of_getElem? (i := 19) rfl))) (g := (mkF m 22 #[.val (.ref ao), .val (.int pn)] [(.ref b2)])) rfl (hb hby d2_22)) ?_
  show OwnFin p e below s _ _ _ (T6.setTop (mkF m 25 #[.val (.ref ao), .val (.int pn)] [(.long (-9223372036854775808 : Int64)), (.ref b2)]))
  obtain ⟨v7, T7, L7, X7, hQ7, st7⟩ := own_callS X6 hx hZ (y := (⟨"java/util/Arrays", "fill", "([JJ)V"⟩ : MethodName)) hown (hw _ (List.mem_of_getElem? (i := 20) rfl)) (hw _ (List.mem_of_getElem? (i := 21) rfl)) (hw _ (List.mem_of_getElem? (i := 22) rfl)) (hw _ (List.mem_of_getElem? (i := 23) rfl)) (by decide) (W := 0) (rm4 l Z a0 hw [] b2 (-9223372036854775808 : Int64) n _ h5 n0 Z5 V_b2_5 g_b2 (by omega)) (by decide) (by decide) (g := (mkF m 25 #[.val (.ref ao), .val (.int pn)] [(.long (-9223372036854775808 : Int64)), (.ref b2)])) rfl (by rw [hml]; rfl) (argsL := [(.ref b2), (.long (-9223372036854775808 : Int64))]) (rest := []) (lenOf pd_2_3 rfl) rfl (by show 2 * 0 + _ ≤ _; exact Nat.le_of_eq rfl) (hb hby d2_25) e6 rfl (by decide) (by decide)
  obtain ⟨rfl, Nq7, Kq7, Vq7⟩ := hQ7
  have N7 := Fr.app N5 Nq7
  have E_ao_7 := E_ao_5.keep Kq7
  have F_compact_7 := F_compact_5.keep Kq7 (ninS ne_ao_b2 nin0)
  have F_scale_7 := F_scale_5.keep Kq7 (ninS ne_ao_b2 nin0)
  have F_whole_7 := F_whole_5.keep Kq7 (ninS ne_ao_b2 nin0)
  have V_b4_7 := V_b4_5.keep Kq7 (ninS (Ne.symm ne_b2_b4) nin0)
  have Z7 : n0 ≤ T7.heap.size := Nat.le_trans Z5 Kq7.1
  have K7 : Keep h0 T7.heap [ao] := K5.trans Kq7 (allS (Or.inr sz_b2) all0)
  refine own_go st7 ?_
  show OwnFin p e below s _ _ _ (T7.setTop (mkF m 28 #[.val (.ref ao), .val (.int pn)] []))
  refine own_ret X7 (v := none) hlk (fun _ => rfl) (fun fs hr => X7.returnOut hx hret (hb hby d2_28) hr) (by decide) (by decide) ?_
  exact ⟨rfl, N7, K7, E_ao_7, b2, b4, sz_b2, sz_b4, ne_b2_b4, F_compact_7, F_scale_7, F_whole_7, Vq7, V_b4_7⟩
theorem d5_0 : decode prog_177_method_4_code 0 = .ok (.aload_n 2, 1) := by decide +kernel
theorem d5_1 : decode prog_177_method_4_code 1 = .ok (.ifnonnull 27, 3) := by decide +kernel
theorem d5_4 : decode prog_177_method_4_code 4 = .ok (.aload_n 0, 1) := by decide +kernel
theorem d5_5 : decode prog_177_method_4_code 5 = .ok (.getfield 11, 3) := by decide +kernel
theorem d5_8 : decode prog_177_method_4_code 8 = .ok (.iload_n 1, 1) := by decide +kernel
theorem d5_9 : decode prog_177_method_4_code 9 = .ok (.ldc2_w 23, 3) := by decide +kernel
theorem d5_12 : decode prog_177_method_4_code 12 = .ok (.lastore, 1) := by decide +kernel
theorem d5_13 : decode prog_177_method_4_code 13 = .ok (.aload_n 0, 1) := by decide +kernel
theorem d5_14 : decode prog_177_method_4_code 14 = .ok (.getfield 31, 3) := by decide +kernel
theorem d5_17 : decode prog_177_method_4_code 17 = .ok (.ifnull 10, 3) := by decide +kernel
theorem d5_20 : decode prog_177_method_4_code 20 = .ok (.aload_n 0, 1) := by decide +kernel
theorem d5_21 : decode prog_177_method_4_code 21 = .ok (.getfield 31, 3) := by decide +kernel
theorem d5_24 : decode prog_177_method_4_code 24 = .ok (.iload_n 1, 1) := by decide +kernel
theorem d5_25 : decode prog_177_method_4_code 25 = .ok (.aconst_null, 1) := by decide +kernel
theorem d5_26 : decode prog_177_method_4_code 26 = .ok (.aastore, 1) := by decide +kernel
theorem d5_27 : decode prog_177_method_4_code 27 = .ok (.return_, 1) := by decide +kernel
theorem d5_28 : decode prog_177_method_4_code 28 = .ok (.aload_n 2, 1) := by decide +kernel
theorem d5_29 : decode prog_177_method_4_code 29 = .ok (.getfield 52, 3) := by decide +kernel
theorem d5_32 : decode prog_177_method_4_code 32 = .ok (.ldc2_w 23, 3) := by decide +kernel
theorem d5_35 : decode prog_177_method_4_code 35 = .ok (.lcmp, 1) := by decide +kernel
theorem d5_36 : decode prog_177_method_4_code 36 = .ok (.ifCond .eq 24, 3) := by decide +kernel
theorem d5_39 : decode prog_177_method_4_code 39 = .ok (.aload_n 0, 1) := by decide +kernel
theorem d5_40 : decode prog_177_method_4_code 40 = .ok (.getfield 11, 3) := by decide +kernel
theorem d5_43 : decode prog_177_method_4_code 43 = .ok (.iload_n 1, 1) := by decide +kernel
theorem d5_44 : decode prog_177_method_4_code 44 = .ok (.aload_n 2, 1) := by decide +kernel
theorem d5_45 : decode prog_177_method_4_code 45 = .ok (.getfield 52, 3) := by decide +kernel
theorem d5_48 : decode prog_177_method_4_code 48 = .ok (.lastore, 1) := by decide +kernel
theorem d5_49 : decode prog_177_method_4_code 49 = .ok (.aload_n 0, 1) := by decide +kernel
theorem d5_50 : decode prog_177_method_4_code 50 = .ok (.getfield 17, 3) := by decide +kernel
theorem d5_53 : decode prog_177_method_4_code 53 = .ok (.iload_n 1, 1) := by decide +kernel
theorem d5_54 : decode prog_177_method_4_code 54 = .ok (.aload_n 2, 1) := by decide +kernel
theorem d5_55 : decode prog_177_method_4_code 55 = .ok (.getfield 55, 3) := by decide +kernel
theorem d5_58 : decode prog_177_method_4_code 58 = .ok (.iastore, 1) := by decide +kernel
theorem d5_59 : decode prog_177_method_4_code 59 = .ok (.return_, 1) := by decide +kernel
theorem d5_60 : decode prog_177_method_4_code 60 = .ok (.aload_n 0, 1) := by decide +kernel
theorem d5_61 : decode prog_177_method_4_code 61 = .ok (.getfield 31, 3) := by decide +kernel
theorem d5_64 : decode prog_177_method_4_code 64 = .ok (.ifnonnull 15, 3) := by decide +kernel
theorem d5_67 : decode prog_177_method_4_code 67 = .ok (.aload_n 0, 1) := by decide +kernel
theorem d5_68 : decode prog_177_method_4_code 68 = .ok (.aload_n 0, 1) := by decide +kernel
theorem d5_69 : decode prog_177_method_4_code 69 = .ok (.getfield 11, 3) := by decide +kernel
theorem d5_72 : decode prog_177_method_4_code 72 = .ok (.arraylength, 1) := by decide +kernel
theorem d5_73 : decode prog_177_method_4_code 73 = .ok (.anewarray 21, 3) := by decide +kernel
theorem d5_76 : decode prog_177_method_4_code 76 = .ok (.putfield 31, 3) := by decide +kernel
theorem d5_79 : decode prog_177_method_4_code 79 = .ok (.aload_n 0, 1) := by decide +kernel
theorem d5_80 : decode prog_177_method_4_code 80 = .ok (.getfield 11, 3) := by decide +kernel
theorem d5_83 : decode prog_177_method_4_code 83 = .ok (.iload_n 1, 1) := by decide +kernel
theorem d5_84 : decode prog_177_method_4_code 84 = .ok (.ldc2_w 23, 3) := by decide +kernel
theorem d5_87 : decode prog_177_method_4_code 87 = .ok (.lastore, 1) := by decide +kernel
theorem d5_88 : decode prog_177_method_4_code 88 = .ok (.aload_n 0, 1) := by decide +kernel
theorem d5_89 : decode prog_177_method_4_code 89 = .ok (.getfield 31, 3) := by decide +kernel
theorem d5_92 : decode prog_177_method_4_code 92 = .ok (.iload_n 1, 1) := by decide +kernel
theorem d5_93 : decode prog_177_method_4_code 93 = .ok (.aload_n 2, 1) := by decide +kernel
theorem d5_94 : decode prog_177_method_4_code 94 = .ok (.aastore, 1) := by decide +kernel
theorem d5_95 : decode prog_177_method_4_code 95 = .ok (.return_, 1) := by decide +kernel
theorem pn_5 : plainFor (⟨"com/example/nearside/nearside/support/SplitDecimalArray", "set", "(ILcom/example/nearside/nearside/support/SplitDecimal;)V"⟩ : MethodName) = true := plainFor_of_name (by first | (simp [plainName, overriddenIn]; done) | decide +kernel)
theorem ef_5 (m : MethodId) (a1 : Addr) (p2 : Int32) (a3 : Addr) : entryFrame m #[(.ref a1), (.int p2), (.ref a3)] 3 = mkF m 0 #[.val (.ref a1), .val (.int p2), .val (.ref a3)] [] := by first | (simp [entryFrame, mkF, argsToLocals, Value.category]; done) | rfl
theorem ef_5_N (m : MethodId) (ao : Addr) (pi : Int32) : entryFrame m #[.ref ao, .int pi, .null] 3 = mkF m 0 #[.val (.ref ao), .val (.int pi), .val .null] [] := by first | (simp [entryFrame, mkF, argsToLocals, Value.category]; done) | rfl
set_option maxRecDepth 65536 in
set_option maxHeartbeats 40000000 in
theorem rm5_N0 (l : Launch) (Z : State) (a0 : Array Value) (hw : ∀ d ∈ tables_1, d.before a0 Z = true) (ws : List Jvm.Cond) (ao : Addr) (pi : Int32) (ca : Addr) (sc : Addr) (n : Nat) (i : Nat) (fC : Nat → Int64) (fS : Nat → Int32) (h0 : Heap) (n0 : Nat) (Z0 : n0 ≤ h0.size) (hi : pi = Int32.ofNat i) (hin : i < n) (hn4 : n ≤ 4) (E_ao : Exa Z h0 ao "com/example/nearside/nearside/support/SplitDecimalArray") (F_compact : Fld Z h0 ao "com/example/nearside/nearside/support/SplitDecimalArray" "compact" "[J" (.ref ca)) (F_scale : Fld Z h0 ao "com/example/nearside/nearside/support/SplitDecimalArray" "scale" "[I" (.ref sc)) (F_whole : Fld Z h0 ao "com/example/nearside/nearside/support/SplitDecimalArray" "whole" "[Lcom/example/nearside/nearside/support/SplitDecimal;" .null) (V_ca : OwnArr Z h0 ca .long n (fun z => .long (fC z))) (V_sc : OwnArr Z h0 sc .int n (fun z => .int (fS z))) (ne_ao_ca : ao ≠ ca) (ne_ao_sc : ao ≠ sc) (ne_ca_sc : ca ≠ sc) (g_ca : n0 ≤ ca) :
    OwnCtr l Z (⟨"com/example/nearside/nearside/support/SplitDecimalArray", "set", "(ILcom/example/nearside/nearside/support/SplitDecimal;)V"⟩ : MethodName) ws prog_177_method_4_code 3 none ({ frames := 0, cells := 0, slots := 0, locals := 0 } : Room) #[(.ref ao), (.int pi), .null] h0 (fun v h L => v = none ∧ Fr n0 L ∧ Keep h0 h [ca] ∧ OwnArr Z h ca .long n (fun z => .long (if z = i then (-9223372036854775808 : Int64) else fC z))) := by
  refine own_body (g0 := fun m => mkF m 0 #[.val (.ref ao), .val (.int pi), .val .null] []) pn_5 (fun m => ef_5_N m ao pi) ?_
  intro p e s m below meth c s₁ X0 hx hby hml hown hnm hZ e0 hret hlk
  have hml : c.maxLocals = 3 := hml
  have hown : s.vm.findClass "com/example/nearside/nearside/support/SplitDecimalArray" = some m.cls := hown
  have hnm : meth.name = "set" := hnm
  have hret : meth.sig.returnType = none := hret
  have N0 := Fr.nil n0
  have K0 := Keep.refl h0 [ca]
  show OwnFin p e below s _ _ _ (s₁.setTop (mkF m 0 #[.val (.ref ao), .val (.int pi), .val .null] []))
  refine own_go (fun t_ k_ => XS.aloadN X0.here hx rfl (hb hby d5_0) rfl rfl k_) ?_
  show OwnFin p e below s _ _ _ (s₁.setTop (mkF m 1 #[.val (.ref ao), .val (.int pi), .val .null] [.null]))
  refine own_go (fun t_ k_ => XS.ifnonnullNo X0.here hx rfl (hb hby d5_1) rfl k_) ?_
  show OwnFin p e below s _ _ _ (s₁.setTop (mkF m 4 #[.val (.ref ao), .val (.int pi), .val .null] []))
  refine own_go (fun t_ k_ => XS.aloadN X0.here hx rfl (hb hby d5_4) rfl rfl k_) ?_
  show OwnFin p e below s _ _ _ (s₁.setTop (mkF m 5 #[.val (.ref ao), .val (.int pi), .val .null] [(.ref ao)]))
  obtain ⟨T1, X1, e1, st1⟩ := getF X0 hx hZ hown (host := "") (Or.inl (hw _ (List.mem_of_getElem? (i := 14) rfl))) Via.refl e0 F_compact (g := (mkF m 5 #[.val (.ref ao), .val (.int pi), .val .null] [(.ref ao)])) rfl rfl (hb hby d5_5)
  refine own_go st1 ?_
  show OwnFin p e below s _ _ _ (T1.setTop (mkF m 8 #[.val (.ref ao), .val (.int pi), .val .null] [(.ref ca)]))
  refine own_go (fun t_ k_ => XS.iloadN X1.here hx rfl (hb hby d5_8) rfl k_) ?_
  show OwnFin p e below s _ _ _ (T1.setTop (mkF m 9 #[.val (.ref ao), .val (.int pi), .val .null] [(.int pi), (.ref ca)]))
  refine own_go (X1.ldc2Long hx hown (mvT hZ (hw _ (List.mem_of_getElem? (i := 19) rfl))) (g := (mkF m 9 #[.val (.ref ao), .val (.int pi), .val .null] [(.int pi), (.ref ca)])) rfl (hb hby d5_9)) ?_
  show OwnFin p e below s _ _ _ (T1.setTop (mkF m 12 #[.val (.ref ao), .val (.int pi), .val .null] [(.long (-9223372036854775808 : Int64)), (.int pi), (.ref ca)]))
  obtain ⟨T2, h2, X2, e2, W2, A2, st2⟩ := own_lastore X1 hx hZ e1 V_ca (i := i) hi hin (g := (mkF m 12 #[.val (.ref ao), .val (.int pi), .val .null] [(.long (-9223372036854775808 : Int64)), (.int pi), (.ref ca)])) rfl rfl (hb hby d5_12)
  have E_ao_2 := E_ao.wr W2
  have F_compact_2 := F_compact.other W2 (Or.inl ne_ao_ca)
  have F_scale_2 := F_scale.other W2 (Or.inl ne_ao_ca)
  have F_whole_2 := F_whole.other W2 (Or.inl ne_ao_ca)
  have V_sc_2 := V_sc.other W2 (Ne.symm ne_ca_sc)
  have Z2 : n0 ≤ h2.size := Nat.le_trans Z0 (Keep.of_wr W2).1
  have K2 : Keep h0 h2 [ca] := K0.wr W2 (Or.inl (List.mem_of_getElem? (i := 0) rfl))
  have N2 := Fr.snoc X2 N0 g_ca
  refine own_go st2 ?_
  show OwnFin p e below s _ _ _ (T2.setTop (mkF m 13 #[.val (.ref ao), .val (.int pi), .val .null] []))
  refine own_go (fun t_ k_ => XS.aloadN X2.here hx rfl (hb hby d5_13) rfl rfl k_) ?_
  show OwnFin p e below s _ _ _ (T2.setTop (mkF m 14 #[.val (.ref ao), .val (.int pi), .val .null] [(.ref ao)]))
  obtain ⟨T3, X3, e3, st3⟩ := getF X2 hx hZ hown (host := "") (Or.inl (hw _ (List.mem_of_getElem? (i := 29) rfl))) Via.refl e2 F_whole_2 (g := (mkF m 14 #[.val (.ref ao), .val (.int pi), .val .null] [(.ref ao)])) rfl rfl (hb hby d5_14)
  refine own_go st3 ?_
  show OwnFin p e below s _ _ _ (T3.setTop (mkF m 17 #[.val (.ref ao), .val (.int pi), .val .null] [.null]))
  refine own_go (fun t_ k_ => XS.ifnullYes X3.here hx rfl (pc0 := 17) (pc' := 27) rfl (hb hby d5_17) rfl (by decide) (by decide) k_) ?_
  show OwnFin p e below s _ _ _ (T3.setTop (mkF m 27 #[.val (.ref ao), .val (.int pi), .val .null] []))
  refine own_ret X3 (v := none) hlk (fun _ => rfl) (fun fs hr => X3.returnOut hx hret (hb hby d5_27) hr) (by decide) (by decide) ?_
  rw [e3]
  exact ⟨rfl, N2, K2, A2.congr (fun z _ => by (try dsimp only); repeat (first | rfl | split))⟩
set_option maxRecDepth 65536 in
set_option maxHeartbeats 40000000 in
theorem rm5_N1 (l : Launch) (Z : State) (a0 : Array Value) (hw : ∀ d ∈ tables_1, d.before a0 Z = true) (ws : List Jvm.Cond) (ao : Addr) (pi : Int32) (ca : Addr) (sc : Addr) (wa : Addr) (n : Nat) (i : Nat) (fC : Nat → Int64) (fS : Nat → Int32) (fW : Nat → Value) (h0 : Heap) (n0 : Nat) (Z0 : n0 ≤ h0.size) (hi : pi = Int32.ofNat i) (hin : i < n) (hn4 : n ≤ 4) (E_ao : Exa Z h0 ao "com/example/nearside/nearside/support/SplitDecimalArray") (F_compact : Fld Z h0 ao "com/example/nearside/nearside/support/SplitDecimalArray" "compact" "[J" (.ref ca)) (F_scale : Fld Z h0 ao "com/example/nearside/nearside/support/SplitDecimalArray" "scale" "[I" (.ref sc)) (F_whole : Fld Z h0 ao "com/example/nearside/nearside/support/SplitDecimalArray" "whole" "[Lcom/example/nearside/nearside/support/SplitDecimal;" (.ref wa)) (V_ca : OwnArr Z h0 ca .long n (fun z => .long (fC z))) (V_sc : OwnArr Z h0 sc .int n (fun z => .int (fS z))) (V_wa : OwnRA Z h0 wa "com/example/nearside/nearside/support/SplitDecimal" n fW) (ne_ao_ca : ao ≠ ca) (ne_ao_sc : ao ≠ sc) (ne_ca_sc : ca ≠ sc) (ne_ao_wa : ao ≠ wa) (ne_ca_wa : ca ≠ wa) (ne_sc_wa : sc ≠ wa) (g_ca : n0 ≤ ca) (g_wa : n0 ≤ wa) :
    OwnCtr l Z (⟨"com/example/nearside/nearside/support/SplitDecimalArray", "set", "(ILcom/example/nearside/nearside/support/SplitDecimal;)V"⟩ : MethodName) ws prog_177_method_4_code 3 none ({ frames := 0, cells := 0, slots := 0, locals := 0 } : Room) #[(.ref ao), (.int pi), .null] h0 (fun v h L => v = none ∧ Fr n0 L ∧ Keep h0 h [ca, wa] ∧ OwnArr Z h ca .long n (fun z => .long (if z = i then (-9223372036854775808 : Int64) else fC z)) ∧ OwnRA Z h wa "com/example/nearside/nearside/support/SplitDecimal" n (fun z => if z = i then .null else fW z)) := by
  refine own_body (g0 := fun m => mkF m 0 #[.val (.ref ao), .val (.int pi), .val .null] []) pn_5 (fun m => ef_5_N m ao pi) ?_
  intro p e s m below meth c s₁ X0 hx hby hml hown hnm hZ e0 hret hlk
  have hml : c.maxLocals = 3 := hml
  have hown : s.vm.findClass "com/example/nearside/nearside/support/SplitDecimalArray" = some m.cls := hown
  have hnm : meth.name = "set" := hnm
  have hret : meth.sig.returnType = none := hret
  have N0 := Fr.nil n0
  have K0 := Keep.refl h0 [ca, wa]
  show OwnFin p e below s _ _ _ (s₁.setTop (mkF m 0 #[.val (.ref ao), .val (.int pi), .val .null] []))
  refine own_go (fun t_ k_ => XS.aloadN X0.here hx rfl (hb hby d5_0) rfl rfl k_) ?_
  show OwnFin p e below s _ _ _ (s₁.setTop (mkF m 1 #[.val (.ref ao), .val (.int pi), .val .null] [.null]))
  refine own_go (fun t_ k_ => XS.ifnonnullNo X0.here hx rfl (hb hby d5_1) rfl k_) ?_
  show OwnFin p e below s _ _ _ (s₁.setTop (mkF m 4 #[.val (.ref ao), .val (.int pi), .val .null] []))
  refine own_go (fun t_ k_ => XS.aloadN X0.here hx rfl (hb hby d5_4) rfl rfl k_) ?_
  show OwnFin p e below s _ _ _ (s₁.setTop (mkF m 5 #[.val (.ref ao), .val (.int pi), .val .null] [(.ref ao)]))
  obtain ⟨T1, X1, e1, st1⟩ := getF X0 hx hZ hown (host := "") (Or.inl (hw _ (List.mem_of_getElem? (i := 14) rfl))) Via.refl e0 F_compact (g := (mkF m 5 #[.val (.ref ao), .val (.int pi), .val .null] [(.ref ao)])) rfl rfl (hb hby d5_5)
  refine own_go st1 ?_
  show OwnFin p e below s _ _ _ (T1.setTop (mkF m 8 #[.val (.ref ao), .val (.int pi), .val .null] [(.ref ca)]))
  refine own_go (fun t_ k_ => XS.iloadN X1.here hx rfl (hb hby d5_8) rfl k_) ?_
  show OwnFin p e below s _ _ _ (T1.setTop (mkF m 9 #[.val (.ref ao), .val (.int pi), .val .null] [(.int pi), (.ref ca)]))
  refine own_go (X1.ldc2Long hx hown (mvT hZ (hw _ (List.mem_of_getElem? (i := 19) rfl))) (g := (mkF m 9 #[.val (.ref ao), .val (.int pi), .val .null] [(.int pi), (.ref ca)])) rfl (hb hby d5_9)) ?_
  show OwnFin p e below s _ _ _ (T1.setTop (mkF m 12 #[.val (.ref ao), .val (.int pi), .val .null] [(.long (-9223372036854775808 : Int64)), (.int pi), (.ref ca)]))
  obtain ⟨T2, h2, X2, e2, W2, A2, st2⟩ := own_lastore X1 hx hZ e1 V_ca (i := i) hi hin (g := (mkF m 12 #[.val (.ref ao), .val (.int pi), .val .null] [(.long (-9223372036854775808 : Int64)), (.int pi), (.ref ca)])) rfl rfl (hb hby d5_12)
  have E_ao_2 := E_ao.wr W2
  have F_compact_2 := F_compact.other W2 (Or.inl ne_ao_ca)
  have F_scale_2 := F_scale.other W2 (Or.inl ne_ao_ca)
  have F_whole_2 := F_whole.other W2 (Or.inl ne_ao_ca)
  have V_sc_2 := V_sc.other W2 (Ne.symm ne_ca_sc)
  have V_wa_2 := V_wa.other W2 (Ne.symm ne_ca_wa)
  have Z2 : n0 ≤ h2.size := Nat.le_trans Z0 (Keep.of_wr W2).1
  have K2 : Keep h0 h2 [ca, wa] := K0.wr W2 (Or.inl (List.mem_of_getElem? (i := 0) rfl))
  have N2 := Fr.snoc X2 N0 g_ca
  refine own_go st2 ?_
  show OwnFin p e below s _ _ _ (T2.setTop (mkF m 13 #[.val (.ref ao), .val (.int pi), .val .null] []))
  refine own_go (fun t_ k_ => XS.aloadN X2.here hx rfl (hb hby d5_13) rfl rfl k_) ?_
  show OwnFin p e below s _ _ _ (T2.setTop (mkF m 14 #[.val (.ref ao), .val (.int pi), .val .null] [(.ref ao)]))
  obtain ⟨T3, X3, e3, st3⟩ := getF X2 hx hZ hown (host := "") (Or.inl (hw _ (List.mem_of_getElem? (i := 29) rfl))) Via.refl e2 F_whole_2 (g := (mkF m 14 #[.val (.ref ao), .val (.int pi), .val .null] [(.ref ao)])) rfl rfl (hb hby d5_14)
  refine own_go st3 ?_
  show OwnFin p e below s _ _ _ (T3.setTop (mkF m 17 #[.val (.ref ao), .val (.int pi), .val .null] [(.ref wa)]))
  refine own_go (fun t_ k_ => XS.ifnullNo X3.here hx rfl (hb hby d5_17) rfl k_) ?_
  show OwnFin p e below s _ _ _ (T3.setTop (mkF m 20 #[.val (.ref ao), .val (.int pi), .val .null] []))
  refine own_go (fun t_ k_ => XS.aloadN X3.here hx rfl (hb hby d5_20) rfl rfl k_) ?_
  show OwnFin p e below s _ _ _ (T3.setTop (mkF m 21 #[.val (.ref ao), .val (.int pi), .val .null] [(.ref ao)]))
  obtain ⟨T4, X4, e4, st4⟩ := getF X3 hx hZ hown (host := "") (Or.inl (hw _ (List.mem_of_getElem? (i := 29) rfl))) Via.refl e3 F_whole_2 (g := (mkF m 21 #[.val (.ref ao), .val (.int pi), .val .null] [(.ref ao)])) rfl rfl (hb hby d5_21)
  refine own_go st4 ?_
  show OwnFin p e below s _ _ _ (T4.setTop (mkF m 24 #[.val (.ref ao), .val (.int pi), .val .null] [(.ref wa)]))
  refine own_go (fun t_ k_ => XS.iloadN X4.here hx rfl (hb hby d5_24) rfl k_) ?_
  show OwnFin p e below s _ _ _ (T4.setTop (mkF m 25 #[.val (.ref ao), .val (.int pi), .val .null] [(.int pi), (.ref wa)]))
  refine own_go (fun t_ k_ => XS.aconstNull X4.here hx rfl (hb hby d5_25) k_) ?_
  show OwnFin p e below s _ _ _ (T4.setTop (mkF m 26 #[.val (.ref ao), .val (.int pi), .val .null] [.null, (.int pi), (.ref wa)]))
  obtain ⟨T5, h5, X5, e5, W5, A5, st5⟩ := own_aastore X4 hx hZ e4 V_wa_2 (i := i) hi hin (Or.inl rfl) (g := (mkF m 26 #[.val (.ref ao), .val (.int pi), .val .null] [.null, (.int pi), (.ref wa)])) rfl rfl (hb hby d5_26)
  have E_ao_5 := E_ao_2.wr W5
  have F_compact_5 := F_compact_2.other W5 (Or.inl ne_ao_wa)
  have F_scale_5 := F_scale_2.other W5 (Or.inl ne_ao_wa)
  have F_whole_5 := F_whole_2.other W5 (Or.inl ne_ao_wa)
  have V_ca_5 := A2.other W5 ne_ca_wa
  have V_sc_5 := V_sc_2.other W5 ne_sc_wa
  have Z5 : n0 ≤ h5.size := Nat.le_trans Z2 (Keep.of_wr W5).1
  have K5 : Keep h0 h5 [ca, wa] := K2.wr W5 (Or.inl (List.mem_of_getElem? (i := 1) rfl))
  have N5 := Fr.snoc X5 N2 g_wa
  refine own_go st5 ?_
  show OwnFin p e below s _ _ _ (T5.setTop (mkF m 27 #[.val (.ref ao), .val (.int pi), .val .null] []))
  refine own_ret X5 (v := none) hlk (fun _ => rfl) (fun fs hr => X5.returnOut hx hret (hb hby d5_27) hr) (by decide) (by decide) ?_
  rw [e5]
  exact ⟨rfl, N5, K5, V_ca_5.congr (fun z _ => by (try dsimp only); repeat (first | rfl | split)), A5.congr (fun z _ => by (try dsimp only); repeat (first | rfl | split))⟩
set_option maxRecDepth 65536 in
set_option maxHeartbeats 40000000 in
theorem rm5_C0 (l : Launch) (Z : State) (a0 : Array Value) (hw : ∀ d ∈ tables_1, d.before a0 Z = true) (ws : List Jvm.Cond) (ao : Addr) (pi : Int32) (vo : Addr) (ca : Addr) (sc : Addr) (n : Nat) (i : Nat) (fC : Nat → Int64) (fS : Nat → Int32) {qx : Int64} {px : Int32} (h0 : Heap) (n0 : Nat) (Z0 : n0 ≤ h0.size) (hi : pi = Int32.ofNat i) (hin : i < n) (hn4 : n ≤ 4) (E_ao : Exa Z h0 ao "com/example/nearside/nearside/support/SplitDecimalArray") (F_compact : Fld Z h0 ao "com/example/nearside/nearside/support/SplitDecimalArray" "compact" "[J" (.ref ca)) (F_scale : Fld Z h0 ao "com/example/nearside/nearside/support/SplitDecimalArray" "scale" "[I" (.ref sc)) (F_whole : Fld Z h0 ao "com/example/nearside/nearside/support/SplitDecimalArray" "whole" "[Lcom/example/nearside/nearside/support/SplitDecimal;" .null) (V_ca : OwnArr Z h0 ca .long n (fun z => .long (fC z))) (V_sc : OwnArr Z h0 sc .int n (fun z => .int (fS z))) (E_vo : Exa Z h0 vo "com/example/nearside/nearside/support/SplitDecimal") (Fv_compact : Fld Z h0 vo "com/example/nearside/nearside/support/SplitDecimal" "compact" "J" (.long qx)) (Fv_scale : Fld Z h0 vo "com/example/nearside/nearside/support/SplitDecimal" "scale" "I" (.int px)) (hq : ¬ qx = (-9223372036854775808 : Int64)) (ne_ao_ca : ao ≠ ca) (ne_ao_sc : ao ≠ sc) (ne_ca_sc : ca ≠ sc) (ne_vo_ca : vo ≠ ca) (ne_vo_sc : vo ≠ sc) (ne_ao_vo : ao ≠ vo) (g_ca : n0 ≤ ca) (g_sc : n0 ≤ sc) :
    OwnCtr l Z (⟨"com/example/nearside/nearside/support/SplitDecimalArray", "set", "(ILcom/example/nearside/nearside/support/SplitDecimal;)V"⟩ : MethodName) ws prog_177_method_4_code 3 none ({ frames := 0, cells := 0, slots := 0, locals := 0 } : Room) #[(.ref ao), (.int pi), (.ref vo)] h0 (fun v h L => v = none ∧ Fr n0 L ∧ Keep h0 h [ca, sc] ∧ OwnArr Z h ca .long n (fun z => .long (if z = i then qx else fC z)) ∧ OwnArr Z h sc .int n (fun z => .int (if z = i then px else fS z))) := by
  refine own_body (g0 := fun m => mkF m 0 #[.val (.ref ao), .val (.int pi), .val (.ref vo)] []) pn_5 (fun m => ef_5 m ao pi vo) ?_
  intro p e s m below meth c s₁ X0 hx hby hml hown hnm hZ e0 hret hlk
  have hml : c.maxLocals = 3 := hml
  have hown : s.vm.findClass "com/example/nearside/nearside/support/SplitDecimalArray" = some m.cls := hown
  have hnm : meth.name = "set" := hnm
  have hret : meth.sig.returnType = none := hret
  have N0 := Fr.nil n0
  have K0 := Keep.refl h0 [ca, sc]
  show OwnFin p e below s _ _ _ (s₁.setTop (mkF m 0 #[.val (.ref ao), .val (.int pi), .val (.ref vo)] []))
  refine own_go (fun t_ k_ => XS.aloadN X0.here hx rfl (hb hby d5_0) rfl rfl k_) ?_
  show OwnFin p e below s _ _ _ (s₁.setTop (mkF m 1 #[.val (.ref ao), .val (.int pi), .val (.ref vo)] [(.ref vo)]))
  refine own_go (fun t_ k_ => XS.ifnonnullYes X0.here hx rfl (pc0 := 1) (pc' := 28) rfl (hb hby d5_1) rfl (by decide) (by decide) k_) ?_
  show OwnFin p e below s _ _ _ (s₁.setTop (mkF m 28 #[.val (.ref ao), .val (.int pi), .val (.ref vo)] []))
  refine own_go (fun t_ k_ => XS.aloadN X0.here hx rfl (hb hby d5_28) rfl rfl k_) ?_
  show OwnFin p e below s _ _ _ (s₁.setTop (mkF m 29 #[.val (.ref ao), .val (.int pi), .val (.ref vo)] [(.ref vo)]))
  obtain ⟨T1, X1, e1, st1⟩ := getF X0 hx hZ hown (host := "") (Or.inl (hw _ (List.mem_of_getElem? (i := 55) rfl))) Via.refl e0 Fv_compact (g := (mkF m 29 #[.val (.ref ao), .val (.int pi), .val (.ref vo)] [(.ref vo)])) rfl rfl (hb hby d5_29)
  refine own_go st1 ?_
  show OwnFin p e below s _ _ _ (T1.setTop (mkF m 32 #[.val (.ref ao), .val (.int pi), .val (.ref vo)] [(.long qx)]))
  refine own_go (X1.ldc2Long hx hown (mvT hZ (hw _ (List.mem_of_getElem? (i := 19) rfl))) (g := (mkF m 32 #[.val (.ref ao), .val (.int pi), .val (.ref vo)] [(.long qx)])) rfl (hb hby d5_32)) ?_
  show OwnFin p e below s _ _ _ (T1.setTop (mkF m 35 #[.val (.ref ao), .val (.int pi), .val (.ref vo)] [(.long (-9223372036854775808 : Int64)), (.long qx)]))
  refine own_go (fun t_ k_ => XS.lcmp X1.here hx rfl (hb hby d5_35) rfl k_) ?_
  show OwnFin p e below s _ _ _ (T1.setTop (mkF m 36 #[.val (.ref ao), .val (.int pi), .val (.ref vo)] [(.int (lcmpW qx (-9223372036854775808 : Int64)))]))
  have hc36 : ¬ (qx = (-9223372036854775808 : Int64)) := hq
  refine own_go (fun t_ k_ => XS.ifNo X1.here hx rfl (hb hby d5_36) rfl ((if0 _ _).trans (feq (mt (lw_eq qx (-9223372036854775808 : Int64)).mp hc36)).1) k_) ?_
  show OwnFin p e below s _ _ _ (T1.setTop (mkF m 39 #[.val (.ref ao), .val (.int pi), .val (.ref vo)] []))
  refine own_go (fun t_ k_ => XS.aloadN X1.here hx rfl (hb hby d5_39) rfl rfl k_) ?_
  show OwnFin p e below s _ _ _ (T1.setTop (mkF m 40 #[.val (.ref ao), .val (.int pi), .val (.ref vo)] [(.ref ao)]))
  obtain ⟨T2, X2, e2, st2⟩ := getF X1 hx hZ hown (host := "") (Or.inl (hw _ (List.mem_of_getElem? (i := 14) rfl))) Via.refl e1 F_compact (g := (mkF m 40 #[.val (.ref ao), .val (.int pi), .val (.ref vo)] [(.ref ao)])) rfl rfl (hb hby d5_40)
  refine own_go st2 ?_
  show OwnFin p e below s _ _ _ (T2.setTop (mkF m 43 #[.val (.ref ao), .val (.int pi), .val (.ref vo)] [(.ref ca)]))
  refine own_go (fun t_ k_ => XS.iloadN X2.here hx rfl (hb hby d5_43) rfl k_) ?_
  show OwnFin p e below s _ _ _ (T2.setTop (mkF m 44 #[.val (.ref ao), .val (.int pi), .val (.ref vo)] [(.int pi), (.ref ca)]))
  refine own_go (fun t_ k_ => XS.aloadN X2.here hx rfl (hb hby d5_44) rfl rfl k_) ?_
  show OwnFin p e below s _ _ _ (T2.setTop (mkF m 45 #[.val (.ref ao), .val (.int pi), .val (.ref vo)] [(.ref vo), (.int pi), (.ref ca)]))
  obtain ⟨T3, X3, e3, st3⟩ := getF X2 hx hZ hown (host := "") (Or.inl (hw _ (List.mem_of_getElem? (i := 55) rfl))) Via.refl e2 Fv_compact (g := (mkF m 45 #[.val (.ref ao), .val (.int pi), .val (.ref vo)] [(.ref vo), (.int pi), (.ref ca)])) rfl rfl (hb hby d5_45)
  refine own_go st3 ?_
  show OwnFin p e below s _ _ _ (T3.setTop (mkF m 48 #[.val (.ref ao), .val (.int pi), .val (.ref vo)] [(.long qx), (.int pi), (.ref ca)]))
  obtain ⟨T4, h4, X4, e4, W4, A4, st4⟩ := own_lastore X3 hx hZ e3 V_ca (i := i) hi hin (g := (mkF m 48 #[.val (.ref ao), .val (.int pi), .val (.ref vo)] [(.long qx), (.int pi), (.ref ca)])) rfl rfl (hb hby d5_48)
  have E_ao_4 := E_ao.wr W4
  have F_compact_4 := F_compact.other W4 (Or.inl ne_ao_ca)
  have F_scale_4 := F_scale.other W4 (Or.inl ne_ao_ca)
  have F_whole_4 := F_whole.other W4 (Or.inl ne_ao_ca)
  have V_sc_4 := V_sc.other W4 (Ne.symm ne_ca_sc)
  have E_vo_4 := E_vo.wr W4
  have Fv_compact_4 := Fv_compact.other W4 (Or.inl ne_vo_ca)
  have Fv_scale_4 := Fv_scale.other W4 (Or.inl ne_vo_ca)
  have Z4 : n0 ≤ h4.size := Nat.le_trans Z0 (Keep.of_wr W4).1
  have K4 : Keep h0 h4 [ca, sc] := K0.wr W4 (Or.inl (List.mem_of_getElem? (i := 0) rfl))
  have N4 := Fr.snoc X4 N0 g_ca
  refine own_go st4 ?_
  show OwnFin p e below s _ _ _ (T4.setTop (mkF m 49 #[.val (.ref ao), .val (.int pi), .val (.ref vo)] []))
  refine own_go (fun t_ k_ => XS.aloadN X4.here hx rfl (hb hby d5_49) rfl rfl k_) ?_
  show OwnFin p e below s _ _ _ (T4.setTop (mkF m 50 #[.val (.ref ao), .val (.int pi), .val (.ref vo)] [(.ref ao)]))
  obtain ⟨T5, X5, e5, st5⟩ := getF X4 hx hZ hown (host := "") (Or.inl (hw _ (List.mem_of_getElem? (i := 17) rfl))) Via.refl e4 F_scale_4 (g := (mkF m 50 #[.val (.ref ao), .val (.int pi), .val (.ref vo)] [(.ref ao)])) rfl rfl (hb hby d5_50)
  refine own_go st5 ?_
  show OwnFin p e below s _ _ _ (T5.setTop (mkF m 53 #[.val (.ref ao), .val (.int pi), .val (.ref vo)] [(.ref sc)]))
  refine own_go (fun t_ k_ => XS.iloadN X5.here hx rfl (hb hby d5_53) rfl k_) ?_
  show OwnFin p e below s _ _ _ (T5.setTop (mkF m 54 #[.val (.ref ao), .val (.int pi), .val (.ref vo)] [(.int pi), (.ref sc)]))
  refine own_go (fun t_ k_ => XS.aloadN X5.here hx rfl (hb hby d5_54) rfl rfl k_) ?_
  show OwnFin p e below s _ _ _ (T5.setTop (mkF m 55 #[.val (.ref ao), .val (.int pi), .val (.ref vo)] [(.ref vo), (.int pi), (.ref sc)]))
  obtain ⟨T6, X6, e6, st6⟩ := getF X5 hx hZ hown (host := "") (Or.inl (hw _ (List.mem_of_getElem? (i := 56) rfl))) Via.refl e5 Fv_scale_4 (g := (mkF m 55 #[.val (.ref ao), .val (.int pi), .val (.ref vo)] [(.ref vo), (.int pi), (.ref sc)])) rfl rfl (hb hby d5_55)
  refine own_go st6 ?_
  show OwnFin p e below s _ _ _ (T6.setTop (mkF m 58 #[.val (.ref ao), .val (.int pi), .val (.ref vo)] [(.int px), (.int pi), (.ref sc)]))
  obtain ⟨T7, h7, X7, e7, W7, A7, st7⟩ := own_iastore X6 hx hZ e6 V_sc_4 (i := i) hi hin (g := (mkF m 58 #[.val (.ref ao), .val (.int pi), .val (.ref vo)] [(.int px), (.int pi), (.ref sc)])) rfl rfl (hb hby d5_58)
  have E_ao_7 := E_ao_4.wr W7
  have F_compact_7 := F_compact_4.other W7 (Or.inl ne_ao_sc)
  have F_scale_7 := F_scale_4.other W7 (Or.inl ne_ao_sc)
  have F_whole_7 := F_whole_4.other W7 (Or.inl ne_ao_sc)
  have V_ca_7 := A4.other W7 ne_ca_sc
  have E_vo_7 := E_vo_4.wr W7
  have Fv_compact_7 := Fv_compact_4.other W7 (Or.inl ne_vo_sc)
  have Fv_scale_7 := Fv_scale_4.other W7 (Or.inl ne_vo_sc)
  have Z7 : n0 ≤ h7.size := Nat.le_trans Z4 (Keep.of_wr W7).1
  have K7 : Keep h0 h7 [ca, sc] := K4.wr W7 (Or.inl (List.mem_of_getElem? (i := 1) rfl))
  have N7 := Fr.snoc X7 N4 g_sc
  refine own_go st7 ?_
  show OwnFin p e below s _ _ _ (T7.setTop (mkF m 59 #[.val (.ref ao), .val (.int pi), .val (.ref vo)] []))
  refine own_ret X7 (v := none) hlk (fun _ => rfl) (fun fs hr => X7.returnOut hx hret (hb hby d5_59) hr) (by decide) (by decide) ?_
  rw [e7]
  exact ⟨rfl, N7, K7, V_ca_7.congr (fun z _ => by (try dsimp only); repeat (first | rfl | split)), A7.congr (fun z _ => by (try dsimp only); repeat (first | rfl | split))⟩
set_option maxRecDepth 65536 in
set_option maxHeartbeats 40000000 in
theorem rm5_C1 (l : Launch) (Z : State) (a0 : Array Value) (hw : ∀ d ∈ tables_1, d.before a0 Z = true) (ws : List Jvm.Cond) (ao : Addr) (pi : Int32) (vo : Addr) (ca : Addr) (sc : Addr) (wa : Addr) (n : Nat) (i : Nat) (fC : Nat → Int64) (fS : Nat → Int32) (fW : Nat → Value) {qx : Int64} {px : Int32} (h0 : Heap) (n0 : Nat) (Z0 : n0 ≤ h0.size) (hi : pi = Int32.ofNat i) (hin : i < n) (hn4 : n ≤ 4) (E_ao : Exa Z h0 ao "com/example/nearside/nearside/support/SplitDecimalArray") (F_compact : Fld Z h0 ao "com/example/nearside/nearside/support/SplitDecimalArray" "compact" "[J" (.ref ca)) (F_scale : Fld Z h0 ao "com/example/nearside/nearside/support/SplitDecimalArray" "scale" "[I" (.ref sc)) (F_whole : Fld Z h0 ao "com/example/nearside/nearside/support/SplitDecimalArray" "whole" "[Lcom/example/nearside/nearside/support/SplitDecimal;" (.ref wa)) (V_ca : OwnArr Z h0 ca .long n (fun z => .long (fC z))) (V_sc : OwnArr Z h0 sc .int n (fun z => .int (fS z))) (V_wa : OwnRA Z h0 wa "com/example/nearside/nearside/support/SplitDecimal" n fW) (E_vo : Exa Z h0 vo "com/example/nearside/nearside/support/SplitDecimal") (Fv_compact : Fld Z h0 vo "com/example/nearside/nearside/support/SplitDecimal" "compact" "J" (.long qx)) (Fv_scale : Fld Z h0 vo "com/example/nearside/nearside/support/SplitDecimal" "scale" "I" (.int px)) (hq : ¬ qx = (-9223372036854775808 : Int64)) (ne_ao_ca : ao ≠ ca) (ne_ao_sc : ao ≠ sc) (ne_ca_sc : ca ≠ sc) (ne_ao_wa : ao ≠ wa) (ne_ca_wa : ca ≠ wa) (ne_sc_wa : sc ≠ wa) (ne_vo_ca : vo ≠ ca) (ne_vo_sc : vo ≠ sc) (ne_ao_vo : ao ≠ vo) (ne_vo_wa : vo ≠ wa) (g_ca : n0 ≤ ca) (g_sc : n0 ≤ sc) :
    OwnCtr l Z (⟨"com/example/nearside/nearside/support/SplitDecimalArray", "set", "(ILcom/example/nearside/nearside/support/SplitDecimal;)V"⟩ : MethodName) ws prog_177_method_4_code 3 none ({ frames := 0, cells := 0, slots := 0, locals := 0 } : Room) #[(.ref ao), (.int pi), (.ref vo)] h0 (fun v h L => v = none ∧ Fr n0 L ∧ Keep h0 h [ca, sc] ∧ OwnArr Z h ca .long n (fun z => .long (if z = i then qx else fC z)) ∧ OwnArr Z h sc .int n (fun z => .int (if z = i then px else fS z))) := by
  refine own_body (g0 := fun m => mkF m 0 #[.val (.ref ao), .val (.int pi), .val (.ref vo)] []) pn_5 (fun m => ef_5 m ao pi vo) ?_
  intro p e s m below meth c s₁ X0 hx hby hml hown hnm hZ e0 hret hlk
  have hml : c.maxLocals = 3 := hml
  have hown : s.vm.findClass "com/example/nearside/nearside/support/SplitDecimalArray" = some m.cls := hown
  have hnm : meth.name = "set" := hnm
  have hret : meth.sig.returnType = none := hret
  have N0 := Fr.nil n0
  have K0 := Keep.refl h0 [ca, sc]
  show OwnFin p e below s _ _ _ (s₁.setTop (mkF m 0 #[.val (.ref ao), .val (.int pi), .val (.ref vo)] []))
  refine own_go (fun t_ k_ => XS.aloadN X0.here hx rfl (hb hby d5_0) rfl rfl k_) ?_
  show OwnFin p e below s _ _ _ (s₁.setTop (mkF m 1 #[.val (.ref ao), .val (.int pi), .val (.ref vo)] [(.ref vo)]))
  refine own_go (fun t_ k_ => XS.ifnonnullYes X0.here hx rfl (pc0 := 1) (pc' := 28) rfl (hb hby d5_1) rfl (by decide) (by decide) k_) ?_
  show OwnFin p e below s _ _ _ (s₁.setTop (mkF m 28 #[.val (.ref ao), .val (.int pi), .val (.ref vo)] []))
  refine own_go (fun t_ k_ => XS.aloadN X0.here hx rfl (hb hby d5_28) rfl rfl k_) ?_
  show OwnFin p e below s _ _ _ (s₁.setTop (mkF m 29 #[.val (.ref ao), .val (.int pi), .val (.ref vo)] [(.ref vo)]))
  obtain ⟨T1, X1, e1, st1⟩ := getF X0 hx hZ hown (host := "") (Or.inl (hw _ (List.mem_of_getElem? (i := 55) rfl))) Via.refl e0 Fv_compact (g := (mkF m 29 #[.val (.ref ao), .val (.int pi), .val (.ref vo)] [(.ref vo)])) rfl rfl (hb hby d5_29)
  refine own_go st1 ?_
  show OwnFin p e below s _ _ _ (T1.setTop (mkF m 32 #[.val (.ref ao), .val (.int pi), .val (.ref vo)] [(.long qx)]))
  refine own_go (X1.ldc2Long hx hown (mvT hZ (hw _ (List.mem_of_getElem? (i := 19) rfl))) (g := (mkF m 32 #[.val (.ref ao), .val (.int pi), .val (.ref vo)] [(.long qx)])) rfl (hb hby d5_32)) ?_
  show OwnFin p e below s _ _ _ (T1.setTop (mkF m 35 #[.val (.ref ao), .val (.int pi), .val (.ref vo)] [(.long (-9223372036854775808 : Int64)), (.long qx)]))
  refine own_go (fun t_ k_ => XS.lcmp X1.here hx rfl (hb hby d5_35) rfl k_) ?_
  show OwnFin p e below s _ _ _ (T1.setTop (mkF m 36 #[.val (.ref ao), .val (.int pi), .val (.ref vo)] [(.int (lcmpW qx (-9223372036854775808 : Int64)))]))
  have hc36 : ¬ (qx = (-9223372036854775808 : Int64)) := hq
  refine own_go (fun t_ k_ => XS.ifNo X1.here hx rfl (hb hby d5_36) rfl ((if0 _ _).trans (feq (mt (lw_eq qx (-9223372036854775808 : Int64)).mp hc36)).1) k_) ?_
  show OwnFin p e below s _ _ _ (T1.setTop (mkF m 39 #[.val (.ref ao), .val (.int pi), .val (.ref vo)] []))
  refine own_go (fun t_ k_ => XS.aloadN X1.here hx rfl (hb hby d5_39) rfl rfl k_) ?_
  show OwnFin p e below s _ _ _ (T1.setTop (mkF m 40 #[.val (.ref ao), .val (.int pi), .val (.ref vo)] [(.ref ao)]))
  obtain ⟨T2, X2, e2, st2⟩ := getF X1 hx hZ hown (host := "") (Or.inl (hw _ (List.mem_of_getElem? (i := 14) rfl))) Via.refl e1 F_compact (g := (mkF m 40 #[.val (.ref ao), .val (.int pi), .val (.ref vo)] [(.ref ao)])) rfl rfl (hb hby d5_40)
  refine own_go st2 ?_
  show OwnFin p e below s _ _ _ (T2.setTop (mkF m 43 #[.val (.ref ao), .val (.int pi), .val (.ref vo)] [(.ref ca)]))
  refine own_go (fun t_ k_ => XS.iloadN X2.here hx rfl (hb hby d5_43) rfl k_) ?_
  show OwnFin p e below s _ _ _ (T2.setTop (mkF m 44 #[.val (.ref ao), .val (.int pi), .val (.ref vo)] [(.int pi), (.ref ca)]))
  refine own_go (fun t_ k_ => XS.aloadN X2.here hx rfl (hb hby d5_44) rfl rfl k_) ?_
  show OwnFin p e below s _ _ _ (T2.setTop (mkF m 45 #[.val (.ref ao), .val (.int pi), .val (.ref vo)] [(.ref vo), (.int pi), (.ref ca)]))
  obtain ⟨T3, X3, e3, st3⟩ := getF X2 hx hZ hown (host := "") (Or.inl (hw _ (List.mem_of_getElem? (i := 55) rfl))) Via.refl e2 Fv_compact (g := (mkF m 45 #[.val (.ref ao), .val (.int pi), .val (.ref vo)] [(.ref vo), (.int pi), (.ref ca)])) rfl rfl (hb hby d5_45)
  refine own_go st3 ?_
  show OwnFin p e below s _ _ _ (T3.setTop (mkF m 48 #[.val (.ref ao), .val (.int pi), .val (.ref vo)] [(.long qx), (.int pi), (.ref ca)]))
  obtain ⟨T4, h4, X4, e4, W4, A4, st4⟩ := own_lastore X3 hx hZ e3 V_ca (i := i) hi hin (g := (mkF m 48 #[.val (.ref ao), .val (.int pi), .val (.ref vo)] [(.long qx), (.int pi), (.ref ca)])) rfl rfl (hb hby d5_48)
  have E_ao_4 := E_ao.wr W4
  have F_compact_4 := F_compact.other W4 (Or.inl ne_ao_ca)
  have F_scale_4 := F_scale.other W4 (Or.inl ne_ao_ca)
  have F_whole_4 := F_whole.other W4 (Or.inl ne_ao_ca)
  have V_sc_4 := V_sc.other W4 (Ne.symm ne_ca_sc)
  have V_wa_4 := V_wa.other W4 (Ne.symm ne_ca_wa)
  have E_vo_4 := E_vo.wr W4
  have Fv_compact_4 := Fv_compact.other W4 (Or.inl ne_vo_ca)
  have Fv_scale_4 := Fv_scale.other W4 (Or.inl ne_vo_ca)
  have Z4 : n0 ≤ h4.size := Nat.le_trans Z0 (Keep.of_wr W4).1
  have K4 : Keep h0 h4 [ca, sc] := K0.wr W4 (Or.inl (List.mem_of_getElem? (i := 0) rfl))
  have N4 := Fr.snoc X4 N0 g_ca
  refine own_go st4 ?_
  show OwnFin p e below s _ _ _ (T4.setTop (mkF m 49 #[.val (.ref ao), .val (.int pi), .val (.ref vo)] []))
  refine own_go (fun t_ k_ => XS.aloadN X4.here hx rfl (hb hby d5_49) rfl rfl k_) ?_
  show OwnFin p e below s _ _ _ (T4.setTop (mkF m 50 #[.val (.ref ao), .val (.int pi), .val (.ref vo)] [(.ref ao)]))
  obtain ⟨T5, X5, e5, st5⟩ := getF X4 hx hZ hown (host := "") (Or.inl (hw _ (List.mem_of_getElem? (i := 17) rfl))) Via.refl e4 F_scale_4 (g := (mkF m 50 #[.val (.ref ao), .val (.int pi), .val (.ref vo)] [(.ref ao)])) rfl rfl (hb hby d5_50)
  refine own_go st5 ?_
  show OwnFin p e below s _ _ _ (T5.setTop (mkF m 53 #[.val (.ref ao), .val (.int pi), .val (.ref vo)] [(.ref sc)]))
  refine own_go (fun t_ k_ => XS.iloadN X5.here hx rfl (hb hby d5_53) rfl k_) ?_
  show OwnFin p e below s _ _ _ (T5.setTop (mkF m 54 #[.val (.ref ao), .val (.int pi), .val (.ref vo)] [(.int pi), (.ref sc)]))
  refine own_go (fun t_ k_ => XS.aloadN X5.here hx rfl (hb hby d5_54) rfl rfl k_) ?_
  show OwnFin p e below s _ _ _ (T5.setTop (mkF m 55 #[.val (.ref ao), .val (.int pi), .val (.ref vo)] [(.ref vo), (.int pi), (.ref sc)]))
  obtain ⟨T6, X6, e6, st6⟩ := getF X5 hx hZ hown (host := "") (Or.inl (hw _ (List.mem_of_getElem? (i := 56) rfl))) Via.refl e5 Fv_scale_4 (g := (mkF m 55 #[.val (.ref ao), .val (.int pi), .val (.ref vo)] [(.ref vo), (.int pi), (.ref sc)])) rfl rfl (hb hby d5_55)
  refine own_go st6 ?_
  show OwnFin p e below s _ _ _ (T6.setTop (mkF m 58 #[.val (.ref ao), .val (.int pi), .val (.ref vo)] [(.int px), (.int pi), (.ref sc)]))
  obtain ⟨T7, h7, X7, e7, W7, A7, st7⟩ := own_iastore X6 hx hZ e6 V_sc_4 (i := i) hi hin (g := (mkF m 58 #[.val (.ref ao), .val (.int pi), .val (.ref vo)] [(.int px), (.int pi), (.ref sc)])) rfl rfl (hb hby d5_58)
  have E_ao_7 := E_ao_4.wr W7
  have F_compact_7 := F_compact_4.other W7 (Or.inl ne_ao_sc)
  have F_scale_7 := F_scale_4.other W7 (Or.inl ne_ao_sc)
  have F_whole_7 := F_whole_4.other W7 (Or.inl ne_ao_sc)
  have V_ca_7 := A4.other W7 ne_ca_sc
  have V_wa_7 := V_wa_4.other W7 (Ne.symm ne_sc_wa)
  have E_vo_7 := E_vo_4.wr W7
  have Fv_compact_7 := Fv_compact_4.other W7 (Or.inl ne_vo_sc)
  have Fv_scale_7 := Fv_scale_4.other W7 (Or.inl ne_vo_sc)
  have Z7 : n0 ≤ h7.size := Nat.le_trans Z4 (Keep.of_wr W7).1
  have K7 : Keep h0 h7 [ca, sc] := K4.wr W7 (Or.inl (List.mem_of_getElem? (i := 1) rfl))
  have N7 := Fr.snoc X7 N4 g_sc
  refine own_go st7 ?_
  show OwnFin p e below s _ _ _ (T7.setTop (mkF m 59 #[.val (.ref ao), .val (.int pi), .val (.ref vo)] []))
  refine own_ret X7 (v := none) hlk (fun _ => rfl) (fun fs hr => X7.returnOut hx hret (hb hby d5_59) hr) (by decide) (by decide) ?_
  rw [e7]
  exact ⟨rfl, N7, K7, V_ca_7.congr (fun z _ => by (try dsimp only); repeat (first | rfl | split)), A7.congr (fun z _ => by (try dsimp only); repeat (first | rfl | split))⟩
set_option maxRecDepth 65536 in
set_option maxHeartbeats 40000000 in
theorem rm5_W0 (l : Launch) (Z : State) (a0 : Array Value) (hw : ∀ d ∈ tables_1, d.before a0 Z = true) (ws : List Jvm.Cond) (ao : Addr) (pi : Int32) (vo : Addr) (ca : Addr) (sc : Addr) (n : Nat) (i : Nat) (fC : Nat → Int64) (fS : Nat → Int32) (h0 : Heap) (n0 : Nat) (Z0 : n0 ≤ h0.size) (hi : pi = Int32.ofNat i) (hin : i < n) (hn4 : n ≤ 4) (E_ao : Exa Z h0 ao "com/example/nearside/nearside/support/SplitDecimalArray") (F_compact : Fld Z h0 ao "com/example/nearside/nearside/support/SplitDecimalArray" "compact" "[J" (.ref ca)) (F_scale : Fld Z h0 ao "com/example/nearside/nearside/support/SplitDecimalArray" "scale" "[I" (.ref sc)) (F_whole : Fld Z h0 ao "com/example/nearside/nearside/support/SplitDecimalArray" "whole" "[Lcom/example/nearside/nearside/support/SplitDecimal;" .null) (V_ca : OwnArr Z h0 ca .long n (fun z => .long (fC z))) (V_sc : OwnArr Z h0 sc .int n (fun z => .int (fS z))) (E_vo : Exa Z h0 vo "com/example/nearside/nearside/support/SplitDecimal") (Fv_compact : Fld Z h0 vo "com/example/nearside/nearside/support/SplitDecimal" "compact" "J" (.long (-9223372036854775808 : Int64))) (ne_ao_ca : ao ≠ ca) (ne_ao_sc : ao ≠ sc) (ne_ca_sc : ca ≠ sc) (ne_vo_ca : vo ≠ ca) (ne_vo_sc : vo ≠ sc) (ne_ao_vo : ao ≠ vo) (g_ao : n0 ≤ ao) (g_ca : n0 ≤ ca) :
    OwnCtr l Z (⟨"com/example/nearside/nearside/support/SplitDecimalArray", "set", "(ILcom/example/nearside/nearside/support/SplitDecimal;)V"⟩ : MethodName) ws prog_177_method_4_code 3 none ({ frames := 0, cells := 1, slots := 4, locals := 0 } : Room) #[(.ref ao), (.int pi), (.ref vo)] h0 (fun v h L => v = none ∧ Fr n0 L ∧ Keep h0 h [ao, ca] ∧ ∃ wa : Addr, h0.size ≤ wa ∧ True ∧ True ∧ True ∧ True ∧ (Fld Z h ao "com/example/nearside/nearside/support/SplitDecimalArray" "compact" "[J" (.ref ca) ∧ Fld Z h ao "com/example/nearside/nearside/support/SplitDecimalArray" "scale" "[I" (.ref sc) ∧ Fld Z h ao "com/example/nearside/nearside/support/SplitDecimalArray" "whole" "[Lcom/example/nearside/nearside/support/SplitDecimal;" (.ref wa)) ∧ OwnArr Z h ca .long n (fun z => .long (if z = i then (-9223372036854775808 : Int64) else fC z)) ∧ OwnRA Z h wa "com/example/nearside/nearside/support/SplitDecimal" n (fun z => if z = i then .ref vo else .null)) := by
  refine own_body (g0 := fun m => mkF m 0 #[.val (.ref ao), .val (.int pi), .val (.ref vo)] []) pn_5 (fun m => ef_5 m ao pi vo) ?_
  intro p e s m below meth c s₁ X0 hx hby hml hown hnm hZ e0 hret hlk
  have hml : c.maxLocals = 3 := hml
  have hown : s.vm.findClass "com/example/nearside/nearside/support/SplitDecimalArray" = some m.cls := hown
  have hnm : meth.name = "set" := hnm
  have hret : meth.sig.returnType = none := hret
  have N0 := Fr.nil n0
  have K0 := Keep.refl h0 [ao, ca]
  show OwnFin p e below s _ _ _ (s₁.setTop (mkF m 0 #[.val (.ref ao), .val (.int pi), .val (.ref vo)] []))
  refine own_go (fun t_ k_ => XS.aloadN X0.here hx rfl (hb hby d5_0) rfl rfl k_) ?_
  show OwnFin p e below s _ _ _ (s₁.setTop (mkF m 1 #[.val (.ref ao), .val (.int pi), .val (.ref vo)] [(.ref vo)]))
  refine own_go (fun t_ k_ => XS.ifnonnullYes X0.here hx rfl (pc0 := 1) (pc' := 28) rfl (hb hby d5_1) rfl (by decide) (by decide) k_) ?_
  show OwnFin p e below s _ _ _ (s₁.setTop (mkF m 28 #[.val (.ref ao), .val (.int pi), .val (.ref vo)] []))
  refine own_go (fun t_ k_ => XS.aloadN X0.here hx rfl (hb hby d5_28) rfl rfl k_) ?_
  show OwnFin p e below s _ _ _ (s₁.setTop (mkF m 29 #[.val (.ref ao), .val (.int pi), .val (.ref vo)] [(.ref vo)]))
  obtain ⟨T1, X1, e1, st1⟩ := getF X0 hx hZ hown (host := "") (Or.inl (hw _ (List.mem_of_getElem? (i := 55) rfl))) Via.refl e0 Fv_compact (g := (mkF m 29 #[.val (.ref ao), .val (.int pi), .val (.ref vo)] [(.ref vo)])) rfl rfl (hb hby d5_29)
  refine own_go st1 ?_
  show OwnFin p e below s _ _ _ (T1.setTop (mkF m 32 #[.val (.ref ao), .val (.int pi), .val (.ref vo)] [(.long (-9223372036854775808 : Int64))]))
  refine own_go (X1.ldc2Long hx hown (mvT hZ (hw _ (List.mem_of_getElem? (i := 19) rfl))) (g := (mkF m 32 #[.val (.ref ao), .val (.int pi), .val (.ref vo)] [(.long (-9223372036854775808 : Int64))])) rfl (hb hby d5_32)) ?_
  show OwnFin p e below s _ _ _ (T1.setTop (mkF m 35 #[.val (.ref ao), .val (.int pi), .val (.ref vo)] [(.long (-9223372036854775808 : Int64)), (.long (-9223372036854775808 : Int64))]))
  refine own_go (fun t_ k_ => XS.lcmp X1.here hx rfl (hb hby d5_35) rfl k_) ?_
  show OwnFin p e below s _ _ _ (T1.setTop (mkF m 36 #[.val (.ref ao), .val (.int pi), .val (.ref vo)] [(.int (lcmpW (-9223372036854775808 : Int64) (-9223372036854775808 : Int64)))]))
  refine own_go (fun t_ k_ => XS.ifYes X1.here hx rfl (pc0 := 36) (pc' := 60) rfl (hb hby d5_36) rfl ((if0 _ _).trans (teq ((lw_eq (-9223372036854775808 : Int64) (-9223372036854775808 : Int64)).mpr (by decide))).1) (by decide) (by decide) k_) ?_
  show OwnFin p e below s _ _ _ (T1.setTop (mkF m 60 #[.val (.ref ao), .val (.int pi), .val (.ref vo)] []))
  refine own_go (fun t_ k_ => XS.aloadN X1.here hx rfl (hb hby d5_60) rfl rfl k_) ?_
  show OwnFin p e below s _ _ _ (T1.setTop (mkF m 61 #[.val (.ref ao), .val (.int pi), .val (.ref vo)] [(.ref ao)]))
  obtain ⟨T2, X2, e2, st2⟩ := getF X1 hx hZ hown (host := "") (Or.inl (hw _ (List.mem_of_getElem? (i := 29) rfl))) Via.refl e1 F_whole (g := (mkF m 61 #[.val (.ref ao), .val (.int pi), .val (.ref vo)] [(.ref ao)])) rfl rfl (hb hby d5_61)
  refine own_go st2 ?_
  show OwnFin p e below s _ _ _ (T2.setTop (mkF m 64 #[.val (.ref ao), .val (.int pi), .val (.ref vo)] [.null]))
  refine own_go (fun t_ k_ => XS.ifnonnullNo X2.here hx rfl (hb hby d5_64) rfl k_) ?_
  show OwnFin p e below s _ _ _ (T2.setTop (mkF m 67 #[.val (.ref ao), .val (.int pi), .val (.ref vo)] []))
  refine own_go (fun t_ k_ => XS.aloadN X2.here hx rfl (hb hby d5_67) rfl rfl k_) ?_
  show OwnFin p e below s _ _ _ (T2.setTop (mkF m 68 #[.val (.ref ao), .val (.int pi), .val (.ref vo)] [(.ref ao)]))
  refine own_go (fun t_ k_ => XS.aloadN X2.here hx rfl (hb hby d5_68) rfl rfl k_) ?_
  show OwnFin p e below s _ _ _ (T2.setTop (mkF m 69 #[.val (.ref ao), .val (.int pi), .val (.ref vo)] [(.ref ao), (.ref ao)]))
  obtain ⟨T3, X3, e3, st3⟩ := getF X2 hx hZ hown (host := "") (Or.inl (hw _ (List.mem_of_getElem? (i := 14) rfl))) Via.refl e2 F_compact (g := (mkF m 69 #[.val (.ref ao), .val (.int pi), .val (.ref vo)] [(.ref ao), (.ref ao)])) rfl rfl (hb hby d5_69)
  refine own_go st3 ?_
  show OwnFin p e below s _ _ _ (T3.setTop (mkF m 72 #[.val (.ref ao), .val (.int pi), .val (.ref vo)] [(.ref ca), (.ref ao)]))
  refine own_go (own_alength X3 hx hZ e3 V_ca (g := (mkF m 72 #[.val (.ref ao), .val (.int pi), .val (.ref vo)] [(.ref ca), (.ref ao)])) rfl rfl (hb hby d5_72)) ?_
  show OwnFin p e below s _ _ _ (T3.setTop (mkF m 73 #[.val (.ref ao), .val (.int pi), .val (.ref vo)] [(.int (Int32.ofNat n)), (.ref ao)]))
  obtain ⟨T4, h4, X4, e4, E4, A4, st4⟩ := own_newra X3 hx hZ hown (hw _ (List.mem_of_getElem? (i := 57) rfl)) (hw _ (List.mem_of_getElem? (i := 58) rfl)) e3 (g := (mkF m 73 #[.val (.ref ao), .val (.int pi), .val (.ref vo)] [(.int (Int32.ofNat n)), (.ref ao)])) rfl (hb hby d5_73) rfl (n := n) (cap := 4) rfl hn4 (by decide) (by decide) (by decide)
  obtain ⟨b4, g4⟩ : ∃ z, z = h0.size := ⟨_, rfl⟩
  rw [← g4] at A4 st4
  have g_b4 : n0 ≤ b4 := Nat.le_trans Z0 (Nat.le_of_eq g4.symm)
  have sz_b4 : h0.size ≤ b4 := Nat.le_trans K0.1 (Nat.le_of_eq g4.symm)
  have ne_ao_b4 : ao ≠ b4 := Nat.ne_of_lt (Nat.lt_of_lt_of_le E_ao.lt (Nat.le_of_eq g4.symm))
  have ne_ca_b4 : ca ≠ b4 := Nat.ne_of_lt (Nat.lt_of_lt_of_le V_ca.lt (Nat.le_of_eq g4.symm))
  have ne_sc_b4 : sc ≠ b4 := Nat.ne_of_lt (Nat.lt_of_lt_of_le V_sc.lt (Nat.le_of_eq g4.symm))
  have ne_vo_b4 : vo ≠ b4 := Nat.ne_of_lt (Nat.lt_of_lt_of_le E_vo.lt (Nat.le_of_eq g4.symm))
  have E_ao_4 := E_ao.ext E4
  have F_compact_4 := F_compact.ext E4
  have F_scale_4 := F_scale.ext E4
  have F_whole_4 := F_whole.ext E4
  have V_ca_4 := V_ca.ext E4
  have V_sc_4 := V_sc.ext E4
  have E_vo_4 := E_vo.ext E4
  have Fv_compact_4 := Fv_compact.ext E4
  have Z4 : n0 ≤ h4.size := Nat.le_trans Z0 E4.1
  have K4 : Keep h0 h4 [ao, ca] := K0.ext E4
  have V_b4 := A4
  refine own_go st4 ?_
  show OwnFin p e below s _ _ _ (T4.setTop (mkF m 76 #[.val (.ref ao), .val (.int pi), .val (.ref vo)] [(.ref b4), (.ref ao)]))
  obtain ⟨T5, h5, X5, e5, W5, st5⟩ := putF X4 hx hZ hown (host := "") (Or.inl (hw _ (List.mem_of_getElem? (i := 29) rfl))) Via.refl e4 F_whole_4 E_ao_4 (Or.inl (hw _ (List.mem_of_getElem? (i := 30) rfl))) (hw _ (List.mem_of_getElem? (i := 5) rfl)) (ty := (.array (.object "com/example/nearside/nearside/support/SplitDecimal"))) (by decide) rfl rfl (g := (mkF m 76 #[.val (.ref ao), .val (.int pi), .val (.ref vo)] [(.ref b4), (.ref ao)])) rfl rfl (hb hby d5_76)
  have E_ao_5 := E_ao_4.wr W5
  have F_compact_5 := F_compact_4.other W5 (Or.inr (slot_ne (Or.inr (hw _ (List.mem_of_getElem? (i := 15) rfl))) (Or.inl (hw _ (List.mem_of_getElem? (i := 30) rfl))) (by decide) (t := (.array .long)) (t' := (.array (.object "com/example/nearside/nearside/support/SplitDecimal"))) (by decide) (by decide)))
  have F_scale_5 := F_scale_4.other W5 (Or.inr (slot_ne (Or.inr (hw _ (List.mem_of_getElem? (i := 18) rfl))) (Or.inl (hw _ (List.mem_of_getElem? (i := 30) rfl))) (by decide) (t := (.array .int)) (t' := (.array (.object "com/example/nearside/nearside/support/SplitDecimal"))) (by decide) (by decide)))
  have F_whole_5 := F_whole_4.same W5
  have V_ca_5 := V_ca_4.other W5 (Ne.symm ne_ao_ca)
  have V_sc_5 := V_sc_4.other W5 (Ne.symm ne_ao_sc)
  have E_vo_5 := E_vo_4.wr W5
  have Fv_compact_5 := Fv_compact_4.other W5 (Or.inl (Ne.symm ne_ao_vo))
  have V_b4_5 := V_b4.other W5 (Ne.symm ne_ao_b4)
  have Z5 : n0 ≤ h5.size := Nat.le_trans Z4 (Keep.of_wr W5).1
  have K5 : Keep h0 h5 [ao, ca] := K4.wr W5 (Or.inl (List.mem_of_getElem? (i := 0) rfl))
  have N5 := Fr.snoc X5 N0 g_ao
  refine own_go st5 ?_
  show OwnFin p e below s _ _ _ (T5.setTop (mkF m 79 #[.val (.ref ao), .val (.int pi), .val (.ref vo)] []))
  refine own_go (fun t_ k_ => XS.aloadN X5.here hx rfl (hb hby d5_79) rfl rfl k_) ?_
  show OwnFin p e below s _ _ _ (T5.setTop (mkF m 80 #[.val (.ref ao), .val (.int pi), .val (.ref vo)] [(.ref ao)]))
  obtain ⟨T6, X6, e6, st6⟩ := getF X5 hx hZ hown (host := "") (Or.inl (hw _ (List.mem_of_getElem? (i := 14) rfl))) Via.refl e5 F_compact_5 (g := (mkF m 80 #[.val (.ref ao), .val (.int pi), .val (.ref vo)] [(.ref ao)])) rfl rfl (hb hby d5_80)
  refine own_go st6 ?_
  show OwnFin p e below s _ _ _ (T6.setTop (mkF m 83 #[.val (.ref ao), .val (.int pi), .val (.ref vo)] [(.ref ca)]))
  refine own_go (fun t_ k_ => XS.iloadN X6.here hx rfl (hb hby d5_83) rfl k_) ?_
  show OwnFin p e below s _ _ _ (T6.setTop (mkF m 84 #[.val (.ref ao), .val (.int pi), .val (.ref vo)] [(.int pi), (.ref ca)]))
  refine own_go (X6.ldc2Long hx hown (mvT hZ (hw _ (List.mem_of_getElem? (i := 19) rfl))) (g := (mkF m 84 #[.val (.ref ao), .val (.int pi), .val (.ref vo)] [(.int pi), (.ref ca)])) rfl (hb hby d5_84)) ?_
  show OwnFin p e below s _ _ _ (T6.setTop (mkF m 87 #[.val (.ref ao), .val (.int pi), .val (.ref vo)] [(.long (-9223372036854775808 : Int64)), (.int pi), (.ref ca)]))
  obtain ⟨T7, h7, X7, e7, W7, A7, st7⟩ := own_lastore X6 hx hZ e6 V_ca_5 (i := i) hi hin (g := (mkF m 87 #[.val (.ref ao), .val (.int pi), .val (.ref vo)] [(.long (-9223372036854775808 : Int64)), (.int pi), (.ref ca)])) rfl rfl (hb hby d5_87)
  have E_ao_7 := E_ao_5.wr W7
  have F_compact_7 := F_compact_5.other W7 (Or.inl ne_ao_ca)
  have F_scale_7 := F_scale_5.other W7 (Or.inl ne_ao_ca)
  have F_whole_7 := F_whole_5.other W7 (Or.inl ne_ao_ca)
  have V_sc_7 := V_sc_5.other W7 (Ne.symm ne_ca_sc)
  have E_vo_7 := E_vo_5.wr W7
  have Fv_compact_7 := Fv_compact_5.other W7 (Or.inl ne_vo_ca)
  have V_b4_7 := V_b4_5.other W7 (Ne.symm ne_ca_b4)
  have Z7 : n0 ≤ h7.size := Nat.le_trans Z5 (Keep.of_wr W7).1
  have K7 : Keep h0 h7 [ao, ca] := K5.wr W7 (Or.inl (List.mem_of_getElem? (i := 1) rfl))
  have N7 := Fr.snoc X7 N5 g_ca
  refine own_go st7 ?_
  show OwnFin p e below s _ _ _ (T7.setTop (mkF m 88 #[.val (.ref ao), .val (.int pi), .val (.ref vo)] []))
  refine own_go (fun t_ k_ => XS.aloadN X7.here hx rfl (hb hby d5_88) rfl rfl k_) ?_
  show OwnFin p e below s _ _ _ (T7.setTop (mkF m 89 #[.val (.ref ao), .val (.int pi), .val (.ref vo)] [(.ref ao)]))
  obtain ⟨T8, X8, e8, st8⟩ := getF X7 hx hZ hown (host := "") (Or.inl (hw _ (List.mem_of_getElem? (i := 29) rfl))) Via.refl e7 F_whole_7 (g := (mkF m 89 #[.val (.ref ao), .val (.int pi), .val (.ref vo)] [(.ref ao)])) rfl rfl (hb hby d5_89)
  refine own_go st8 ?_
  show OwnFin p e below s _ _ _ (T8.setTop (mkF m 92 #[.val (.ref ao), .val (.int pi), .val (.ref vo)] [(.ref b4)]))
  refine own_go (fun t_ k_ => XS.iloadN X8.here hx rfl (hb hby d5_92) rfl k_) ?_
  show OwnFin p e below s _ _ _ (T8.setTop (mkF m 93 #[.val (.ref ao), .val (.int pi), .val (.ref vo)] [(.int pi), (.ref b4)]))
  refine own_go (fun t_ k_ => XS.aloadN X8.here hx rfl (hb hby d5_93) rfl rfl k_) ?_
  show OwnFin p e below s _ _ _ (T8.setTop (mkF m 94 #[.val (.ref ao), .val (.int pi), .val (.ref vo)] [(.ref vo), (.int pi), (.ref b4)]))
  obtain ⟨T9, h9, X9, e9, W9, A9, st9⟩ := own_aastore X8 hx hZ e8 V_b4_7 (i := i) hi hin (Or.inr ⟨_, rfl, Ins.self E_vo_7⟩) (g := (mkF m 94 #[.val (.ref ao), .val (.int pi), .val (.ref vo)] [(.ref vo), (.int pi), (.ref b4)])) rfl rfl (hb hby d5_94)
  have E_ao_9 := E_ao_7.wr W9
  have F_compact_9 := F_compact_7.other W9 (Or.inl ne_ao_b4)
  have F_scale_9 := F_scale_7.other W9 (Or.inl ne_ao_b4)
  have F_whole_9 := F_whole_7.other W9 (Or.inl ne_ao_b4)
  have V_ca_9 := A7.other W9 ne_ca_b4
  have V_sc_9 := V_sc_7.other W9 ne_sc_b4
  have E_vo_9 := E_vo_7.wr W9
  have Fv_compact_9 := Fv_compact_7.other W9 (Or.inl ne_vo_b4)
  have Z9 : n0 ≤ h9.size := Nat.le_trans Z7 (Keep.of_wr W9).1
  have K9 : Keep h0 h9 [ao, ca] := K7.wr W9 (Or.inr sz_b4)
  have N9 := Fr.snoc X9 N7 g_b4
  refine own_go st9 ?_
  show OwnFin p e below s _ _ _ (T9.setTop (mkF m 95 #[.val (.ref ao), .val (.int pi), .val (.ref vo)] []))
  refine own_ret X9 (v := none) hlk (fun _ => rfl) (fun fs hr => X9.returnOut hx hret (hb hby d5_95) hr) (by decide) (by decide) ?_
  rw [e9]
  exact ⟨rfl, N9, K9, b4, sz_b4, trivial, trivial, trivial, trivial, ⟨F_compact_9, F_scale_9, F_whole_9⟩, V_ca_9.congr (fun z _ => by (try dsimp only); repeat (first | rfl | split)), A9.congr (fun z _ => by (try dsimp only); repeat (first | rfl | split))⟩
set_option maxRecDepth 65536 in
set_option maxHeartbeats 40000000 in
theorem rm5_W1 (l : Launch) (Z : State) (a0 : Array Value) (hw : ∀ d ∈ tables_1, d.before a0 Z = true) (ws : List Jvm.Cond) (ao : Addr) (pi : Int32) (vo : Addr) (ca : Addr) (sc : Addr) (wa : Addr) (n : Nat) (i : Nat) (fC : Nat → Int64) (fS : Nat → Int32) (fW : Nat → Value) (h0 : Heap) (n0 : Nat) (Z0 : n0 ≤ h0.size) (hi : pi = Int32.ofNat i) (hin : i < n) (hn4 : n ≤ 4) (E_ao : Exa Z h0 ao "com/example/nearside/nearside/support/SplitDecimalArray") (F_compact : Fld Z h0 ao "com/example/nearside/nearside/support/SplitDecimalArray" "compact" "[J" (.ref ca)) (F_scale : Fld Z h0 ao "com/example/nearside/nearside/support/SplitDecimalArray" "scale" "[I" (.ref sc)) (F_whole : Fld Z h0 ao "com/example/nearside/nearside/support/SplitDecimalArray" "whole" "[Lcom/example/nearside/nearside/support/SplitDecimal;" (.ref wa)) (V_ca : OwnArr Z h0 ca .long n (fun z => .long (fC z))) (V_sc : OwnArr Z h0 sc .int n (fun z => .int (fS z))) (V_wa : OwnRA Z h0 wa "com/example/nearside/nearside/support/SplitDecimal" n fW) (E_vo : Exa Z h0 vo "com/example/nearside/nearside/support/SplitDecimal") (Fv_compact : Fld Z h0 vo "com/example/nearside/nearside/support/SplitDecimal" "compact" "J" (.long (-9223372036854775808 : Int64))) (ne_ao_ca : ao ≠ ca) (ne_ao_sc : ao ≠ sc) (ne_ca_sc : ca ≠ sc) (ne_ao_wa : ao ≠ wa) (ne_ca_wa : ca ≠ wa) (ne_sc_wa : sc ≠ wa) (ne_vo_ca : vo ≠ ca) (ne_vo_sc : vo ≠ sc) (ne_ao_vo : ao ≠ vo) (ne_vo_wa : vo ≠ wa) (g_ca : n0 ≤ ca) (g_wa : n0 ≤ wa) :
    OwnCtr l Z (⟨"com/example/nearside/nearside/support/SplitDecimalArray", "set", "(ILcom/example/nearside/nearside/support/SplitDecimal;)V"⟩ : MethodName) ws prog_177_method_4_code 3 none ({ frames := 0, cells := 0, slots := 0, locals := 0 } : Room) #[(.ref ao), (.int pi), (.ref vo)] h0 (fun v h L => v = none ∧ Fr n0 L ∧ Keep h0 h [ca, wa] ∧ OwnArr Z h ca .long n (fun z => .long (if z = i then (-9223372036854775808 : Int64) else fC z)) ∧ OwnRA Z h wa "com/example/nearside/nearside/support/SplitDecimal" n (fun z => if z = i then (.ref vo) else fW z)) := by
  refine own_body (g0 := fun m => mkF m 0 #[.val (.ref ao), .val (.int pi), .val (.ref vo)] []) pn_5 (fun m => ef_5 m ao pi vo) ?_
  intro p e s m below meth c s₁ X0 hx hby hml hown hnm hZ e0 hret hlk
  have hml : c.maxLocals = 3 := hml
  have hown : s.vm.findClass "com/example/nearside/nearside/support/SplitDecimalArray" = some m.cls := hown
  have hnm : meth.name = "set" := hnm
  have hret : meth.sig.returnType = none := hret
  have N0 := Fr.nil n0
  have K0 := Keep.refl h0 [ca, wa]
  show OwnFin p e below s _ _ _ (s₁.setTop (mkF m 0 #[.val (.ref ao), .val (.int pi), .val (.ref vo)] []))
  refine own_go (fun t_ k_ => XS.aloadN X0.here hx rfl (hb hby d5_0) rfl rfl k_) ?_
  show OwnFin p e below s _ _ _ (s₁.setTop (mkF m 1 #[.val (.ref ao), .val (.int pi), .val (.ref vo)] [(.ref vo)]))
  refine own_go (fun t_ k_ => XS.ifnonnullYes X0.here hx rfl (pc0 := 1) (pc' := 28) rfl (hb hby d5_1) rfl (by decide) (by decide) k_) ?_
  show OwnFin p e below s _ _ _ (s₁.setTop (mkF m 28 #[.val (.ref ao), .val (.int pi), .val (.ref vo)] []))
  refine own_go (fun t_ k_ => XS.aloadN X0.here hx rfl (hb hby d5_28) rfl rfl k_) ?_
  show OwnFin p e below s _ _ _ (s₁.setTop (mkF m 29 #[.val (.ref ao), .val (.int pi), .val (.ref vo)] [(.ref vo)]))
  obtain ⟨T1, X1, e1, st1⟩ := getF X0 hx hZ hown (host := "") (Or.inl (hw _ (List.mem_of_getElem? (i := 55) rfl))) Via.refl e0 Fv_compact (g := (mkF m 29 #[.val (.ref ao), .val (.int pi), .val (.ref vo)] [(.ref vo)])) rfl rfl (hb hby d5_29)
  refine own_go st1 ?_
  show OwnFin p e below s _ _ _ (T1.setTop (mkF m 32 #[.val (.ref ao), .val (.int pi), .val (.ref vo)] [(.long (-9223372036854775808 : Int64))]))
  refine own_go (X1.ldc2Long hx hown (mvT hZ (hw _ (List.mem_of_getElem? (i := 19) rfl))) (g := (mkF m 32 #[.val (.ref ao), .val (.int pi), .val (.ref vo)] [(.long (-9223372036854775808 : Int64))])) rfl (hb hby d5_32)) ?_
  show OwnFin p e below s _ _ _ (T1.setTop (mkF m 35 #[.val (.ref ao), .val (.int pi), .val (.ref vo)] [(.long (-9223372036854775808 : Int64)), (.long (-9223372036854775808 : Int64))]))
  refine own_go (fun t_ k_ => XS.lcmp X1.here hx rfl (hb hby d5_35) rfl k_) ?_
  show OwnFin p e below s _ _ _ (T1.setTop (mkF m 36 #[.val (.ref ao), .val (.int pi), .val (.ref vo)] [(.int (lcmpW (-9223372036854775808 : Int64) (-9223372036854775808 : Int64)))]))
  refine own_go (fun t_ k_ => XS.ifYes X1.here hx rfl (pc0 := 36) (pc' := 60) rfl (hb hby d5_36) rfl ((if0 _ _).trans (teq ((lw_eq (-9223372036854775808 : Int64) (-9223372036854775808 : Int64)).mpr (by decide))).1) (by decide) (by decide) k_) ?_
  show OwnFin p e below s _ _ _ (T1.setTop (mkF m 60 #[.val (.ref ao), .val (.int pi), .val (.ref vo)] []))
  refine own_go (fun t_ k_ => XS.aloadN X1.here hx rfl (hb hby d5_60) rfl rfl k_) ?_
  show OwnFin p e below s _ _ _ (T1.setTop (mkF m 61 #[.val (.ref ao), .val (.int pi), .val (.ref vo)] [(.ref ao)]))
  obtain ⟨T2, X2, e2, st2⟩ := getF X1 hx hZ hown (host := "") (Or.inl (hw _ (List.mem_of_getElem? (i := 29) rfl))) Via.refl e1 F_whole (g := (mkF m 61 #[.val (.ref ao), .val (.int pi), .val (.ref vo)] [(.ref ao)])) rfl rfl (hb hby d5_61)
  refine own_go st2 ?_
  show OwnFin p e below s _ _ _ (T2.setTop (mkF m 64 #[.val (.ref ao), .val (.int pi), .val (.ref vo)] [(.ref wa)]))
  refine own_go (fun t_ k_ => XS.ifnonnullYes X2.here hx rfl (pc0 := 64) (pc' := 79) rfl (hb hby d5_64) rfl (by decide) (by decide) k_) ?_
  show OwnFin p e below s _ _ _ (T2.setTop (mkF m 79 #[.val (.ref ao), .val (.int pi), .val (.ref vo)] []))
  refine own_go (fun t_ k_ => XS.aloadN X2.here hx rfl (hb hby d5_79) rfl rfl k_) ?_
  show OwnFin p e below s _ _ _ (T2.setTop (mkF m 80 #[.val (.ref ao), .val (.int pi), .val (.ref vo)] [(.ref ao)]))
  obtain ⟨T3, X3, e3, st3⟩ := getF X2 hx hZ hown (host := "") (Or.inl (hw _ (List.mem_of_getElem? (i := 14) rfl))) Via.refl e2 F_compact (g := (mkF m 80 #[.val (.ref ao), .val (.int pi), .val (.ref vo)] [(.ref ao)])) rfl rfl (hb hby d5_80)
  refine own_go st3 ?_
  show OwnFin p e below s _ _ _ (T3.setTop (mkF m 83 #[.val (.ref ao), .val (.int pi), .val (.ref vo)] [(.ref ca)]))
  refine own_go (fun t_ k_ => XS.iloadN X3.here hx rfl (hb hby d5_83) rfl k_) ?_
  show OwnFin p e below s _ _ _ (T3.setTop (mkF m 84 #[.val (.ref ao), .val (.int pi), .val (.ref vo)] [(.int pi), (.ref ca)]))
  refine own_go (X3.ldc2Long hx hown (mvT hZ (hw _ (List.mem_of_getElem? (i := 19) rfl))) (g := (mkF m 84 #[.val (.ref ao), .val (.int pi), .val (.ref vo)] [(.int pi), (.ref ca)])) rfl (hb hby d5_84)) ?_
  show OwnFin p e below s _ _ _ (T3.setTop (mkF m 87 #[.val (.ref ao), .val (.int pi), .val (.ref vo)] [(.long (-9223372036854775808 : Int64)), (.int pi), (.ref ca)]))
  obtain ⟨T4, h4, X4, e4, W4, A4, st4⟩ := own_lastore X3 hx hZ e3 V_ca (i := i) hi hin (g := (mkF m 87 #[.val (.ref ao), .val (.int pi), .val (.ref vo)] [(.long (-9223372036854775808 : Int64)), (.int pi), (.ref ca)])) rfl rfl (hb hby d5_87)
  have E_ao_4 := E_ao.wr W4
  have F_compact_4 := F_compact.other W4 (Or.inl ne_ao_ca)
  have F_scale_4 := F_scale.other W4 (Or.inl ne_ao_ca)
  have F_whole_4 := F_whole.other W4 (Or.inl ne_ao_ca)
  have V_sc_4 := V_sc.other W4 (Ne.symm ne_ca_sc)
  have V_wa_4 := V_wa.other W4 (Ne.symm ne_ca_wa)
  have E_vo_4 := E_vo.wr W4
  have Fv_compact_4 := Fv_compact.other W4 (Or.inl ne_vo_ca)
  have Z4 : n0 ≤ h4.size := Nat.le_trans Z0 (Keep.of_wr W4).1
  have K4 : Keep h0 h4 [ca, wa] := K0.wr W4 (Or.inl (List.mem_of_getElem? (i := 0) rfl))
  have N4 := Fr.snoc X4 N0 g_ca
  refine own_go st4 ?_
  show OwnFin p e below s _ _ _ (T4.setTop (mkF m 88 #[.val (.ref ao), .val (.int pi), .val (.ref vo)] []))
  refine own_go (fun t_ k_ => XS.aloadN X4.here hx rfl (hb hby d5_88) rfl rfl k_) ?_
  show OwnFin p e below s _ _ _ (T4.setTop (mkF m 89 #[.val (.ref ao), .val (.int pi), .val (.ref vo)] [(.ref ao)]))
  obtain ⟨T5, X5, e5, st5⟩ := getF X4 hx hZ hown (host := "") (Or.inl (hw _ (List.mem_of_getElem? (i := 29) rfl))) Via.refl e4 F_whole_4 (g := (mkF m 89 #[.val (.ref ao), .val (.int pi), .val (.ref vo)] [(.ref ao)])) rfl rfl (hb hby d5_89)
  refine own_go st5 ?_
  show OwnFin p e below s _ _ _ (T5.setTop (mkF m 92 #[.val (.ref ao), .val (.int pi), .val (.ref vo)] [(.ref wa)]))
  refine own_go (fun t_ k_ => XS.iloadN X5.here hx rfl (hb hby d5_92) rfl k_) ?_
  show OwnFin p e below s _ _ _ (T5.setTop (mkF m 93 #[.val (.ref ao), .val (.int pi), .val (.ref vo)] [(.int pi), (.ref wa)]))
  refine own_go (fun t_ k_ => XS.aloadN X5.here hx rfl (hb hby d5_93) rfl rfl k_) ?_
  show OwnFin p e below s _ _ _ (T5.setTop (mkF m 94 #[.val (.ref ao), .val (.int pi), .val (.ref vo)] [(.ref vo), (.int pi), (.ref wa)]))
  obtain ⟨T6, h6, X6, e6, W6, A6, st6⟩ := own_aastore X5 hx hZ e5 V_wa_4 (i := i) hi hin (Or.inr ⟨_, rfl, Ins.self E_vo_4⟩) (g := (mkF m 94 #[.val (.ref ao), .val (.int pi), .val (.ref vo)] [(.ref vo), (.int pi), (.ref wa)])) rfl rfl (hb hby d5_94)
  have E_ao_6 := E_ao_4.wr W6
  have F_compact_6 := F_compact_4.other W6 (Or.inl ne_ao_wa)
  have F_scale_6 := F_scale_4.other W6 (Or.inl ne_ao_wa)
  have F_whole_6 := F_whole_4.other W6 (Or.inl ne_ao_wa)
  have V_ca_6 := A4.other W6 ne_ca_wa
  have V_sc_6 := V_sc_4.other W6 ne_sc_wa
  have E_vo_6 := E_vo_4.wr W6
  have Fv_compact_6 := Fv_compact_4.other W6 (Or.inl ne_vo_wa)
  have Z6 : n0 ≤ h6.size := Nat.le_trans Z4 (Keep.of_wr W6).1
  have K6 : Keep h0 h6 [ca, wa] := K4.wr W6 (Or.inl (List.mem_of_getElem? (i := 1) rfl))
  have N6 := Fr.snoc X6 N4 g_wa
  refine own_go st6 ?_
  show OwnFin p e below s _ _ _ (T6.setTop (mkF m 95 #[.val (.ref ao), .val (.int pi), .val (.ref vo)] []))
  refine own_ret X6 (v := none) hlk (fun _ => rfl) (fun fs hr => X6.returnOut hx hret (hb hby d5_95) hr) (by decide) (by decide) ?_
  rw [e6]
  exact ⟨rfl, N6, K6, V_ca_6.congr (fun z _ => by (try dsimp only); repeat (first | rfl | split)), A6.congr (fun z _ => by (try dsimp only); repeat (first | rfl | split))⟩
theorem d6_0 : decode prog_177_method_5_code 0 = .ok (.aload_n 0, 1) := by decide +kernel
theorem d6_1 : decode prog_177_method_5_code 1 = .ok (.getfield 11, 3) := by decide +kernel
theorem d6_4 : decode prog_177_method_5_code 4 = .ok (.iload_n 1, 1) := by decide +kernel
theorem d6_5 : decode prog_177_method_5_code 5 = .ok (.laload, 1) := by decide +kernel
theorem d6_6 : decode prog_177_method_5_code 6 = .ok (.ldc2_w 23, 3) := by decide +kernel
theorem d6_9 : decode prog_177_method_5_code 9 = .ok (.lcmp, 1) := by decide +kernel
theorem d6_10 : decode prog_177_method_5_code 10 = .ok (.ifCond .eq 23, 3) := by decide +kernel
theorem d6_13 : decode prog_177_method_5_code 13 = .ok (.new 21, 3) := by decide +kernel
theorem d6_16 : decode prog_177_method_5_code 16 = .ok (.dup, 1) := by decide +kernel
theorem d6_17 : decode prog_177_method_5_code 17 = .ok (.aload_n 0, 1) := by decide +kernel
theorem d6_18 : decode prog_177_method_5_code 18 = .ok (.getfield 11, 3) := by decide +kernel
theorem d6_21 : decode prog_177_method_5_code 21 = .ok (.iload_n 1, 1) := by decide +kernel
theorem d6_22 : decode prog_177_method_5_code 22 = .ok (.laload, 1) := by decide +kernel
theorem d6_23 : decode prog_177_method_5_code 23 = .ok (.aload_n 0, 1) := by decide +kernel
theorem d6_24 : decode prog_177_method_5_code 24 = .ok (.getfield 17, 3) := by decide +kernel
theorem d6_27 : decode prog_177_method_5_code 27 = .ok (.iload_n 1, 1) := by decide +kernel
theorem d6_28 : decode prog_177_method_5_code 28 = .ok (.iaload, 1) := by decide +kernel
theorem d6_29 : decode prog_177_method_5_code 29 = .ok (.invokespecial 58, 3) := by decide +kernel
theorem d6_32 : decode prog_177_method_5_code 32 = .ok (.areturn, 1) := by decide +kernel
theorem d6_33 : decode prog_177_method_5_code 33 = .ok (.aload_n 0, 1) := by decide +kernel
theorem d6_34 : decode prog_177_method_5_code 34 = .ok (.getfield 31, 3) := by decide +kernel
theorem d6_37 : decode prog_177_method_5_code 37 = .ok (.ifnonnull 7, 3) := by decide +kernel
theorem d6_40 : decode prog_177_method_5_code 40 = .ok (.aconst_null, 1) := by decide +kernel
theorem d6_41 : decode prog_177_method_5_code 41 = .ok (.goto 9, 3) := by decide +kernel
theorem d6_44 : decode prog_177_method_5_code 44 = .ok (.aload_n 0, 1) := by decide +kernel
theorem d6_45 : decode prog_177_method_5_code 45 = .ok (.getfield 31, 3) := by decide +kernel
theorem d6_48 : decode prog_177_method_5_code 48 = .ok (.iload_n 1, 1) := by decide +kernel
theorem d6_49 : decode prog_177_method_5_code 49 = .ok (.aaload, 1) := by decide +kernel
theorem d6_50 : decode prog_177_method_5_code 50 = .ok (.areturn, 1) := by decide +kernel
theorem pn_6 : plainFor (⟨"com/example/nearside/nearside/support/SplitDecimalArray", "get", "(I)Lcom/example/nearside/nearside/support/SplitDecimal;"⟩ : MethodName) = true := plainFor_of_name (by first | (simp [plainName, overriddenIn]; done) | decide +kernel)
theorem pd_6_7 : parseMethodDescriptor "(JI)V" = some ⟨[.long, .int], none⟩ := by decide +kernel
theorem ef_6 (m : MethodId) (a1 : Addr) (p2 : Int32) : entryFrame m #[(.ref a1), (.int p2)] 2 = mkF m 0 #[.val (.ref a1), .val (.int p2)] [] := by first | (simp [entryFrame, mkF, argsToLocals, Value.category]; done) | rfl
set_option maxRecDepth 65536 in
set_option maxHeartbeats 40000000 in
theorem rm6_C (l : Launch) (Z : State) (a0 : Array Value) (hw : ∀ d ∈ tables_1, d.before a0 Z = true) (ws : List Jvm.Cond) (ao : Addr) (pi : Int32) (ca : Addr) (sc : Addr) (n : Nat) (i : Nat) (fC : Nat → Int64) (fS : Nat → Int32) (qx : Int64) (px : Int32) (h0 : Heap) (n0 : Nat) (Z0 : n0 ≤ h0.size) (hi : pi = Int32.ofNat i) (hin : i < n) (F_compact : Fld Z h0 ao "com/example/nearside/nearside/support/SplitDecimalArray" "compact" "[J" (.ref ca)) (F_scale : Fld Z h0 ao "com/example/nearside/nearside/support/SplitDecimalArray" "scale" "[I" (.ref sc)) (V_ca : OwnArr Z h0 ca .long n (fun z => .long (fC z))) (V_sc : OwnArr Z h0 sc .int n (fun z => .int (fS z))) (hx1 : fC i = qx) (hx2 : fS i = px) (hq : ¬ qx = (-9223372036854775808 : Int64)) :
    OwnCtr l Z (⟨"com/example/nearside/nearside/support/SplitDecimalArray", "get", "(I)Lcom/example/nearside/nearside/support/SplitDecimal;"⟩ : MethodName) ws prog_177_method_5_code 2 (some (.object "com/example/nearside/nearside/support/SplitDecimal")) ({ frames := 2, cells := 1, slots := 4, locals := 28 } : Room) #[(.ref ao), (.int pi)] h0 (fun v h L => ∃ b : Addr, v = some (.ref b) ∧ Fr n0 L ∧ Keep h0 h [] ∧ h0.size ≤ b ∧ Exa Z h b "com/example/nearside/nearside/support/SplitDecimal" ∧ Fld Z h b "com/example/nearside/nearside/support/SplitDecimal" "compact" "J" (.long qx) ∧ Fld Z h b "com/example/nearside/nearside/support/SplitDecimal" "scale" "I" (.int px)) := by
  refine own_body (g0 := fun m => mkF m 0 #[.val (.ref ao), .val (.int pi)] []) pn_6 (fun m => ef_6 m ao pi) ?_
  intro p e s m below meth c s₁ X0 hx hby hml hown hnm hZ e0 hret hlk
  have hml : c.maxLocals = 2 := hml
  have hown : s.vm.findClass "com/example/nearside/nearside/support/SplitDecimalArray" = some m.cls := hown
  have hnm : meth.name = "get" := hnm
  have hret : meth.sig.returnType = (some (.object "com/example/nearside/nearside/support/SplitDecimal")) := hret
  have N0 := Fr.nil n0
  have K0 := Keep.refl h0 []
  show OwnFin p e below s _ _ _ (s₁.setTop (mkF m 0 #[.val (.ref ao), .val (.int pi)] []))
  refine own_go (fun t_ k_ => XS.aloadN X0.here hx rfl (hb hby d6_0) rfl rfl k_) ?_
  show OwnFin p e below s _ _ _ (s₁.setTop (mkF m 1 #[.val (.ref ao), .val (.int pi)] [(.ref ao)]))
  obtain ⟨T1, X1, e1, st1⟩ := getF X0 hx hZ hown (host := "") (Or.inl (hw _ (List.mem_of_getElem? (i := 14) rfl))) Via.refl e0 F_compact (g := (mkF m 1 #[.val (.ref ao), .val (.int pi)] [(.ref ao)])) rfl rfl (hb hby d6_1)
  refine own_go st1 ?_
  show OwnFin p e below s _ _ _ (T1.setTop (mkF m 4 #[.val (.ref ao), .val (.int pi)] [(.ref ca)]))
  refine own_go (fun t_ k_ => XS.iloadN X1.here hx rfl (hb hby d6_4) rfl k_) ?_
  show OwnFin p e below s _ _ _ (T1.setTop (mkF m 5 #[.val (.ref ao), .val (.int pi)] [(.int pi), (.ref ca)]))
  refine own_go (own_laload X1 hx hZ e1 V_ca (i := i) hi hin (g := (mkF m 5 #[.val (.ref ao), .val (.int pi)] [(.int pi), (.ref ca)])) rfl rfl (hb hby d6_5)) ?_
  show OwnFin p e below s _ _ _ (T1.setTop (mkF m 6 #[.val (.ref ao), .val (.int pi)] [(.long (fC i))]))
  refine own_go (X1.ldc2Long hx hown (mvT hZ (hw _ (List.mem_of_getElem? (i := 19) rfl))) (g := (mkF m 6 #[.val (.ref ao), .val (.int pi)] [(.long (fC i))])) rfl (hb hby d6_6)) ?_
  show OwnFin p e below s _ _ _ (T1.setTop (mkF m 9 #[.val (.ref ao), .val (.int pi)] [(.long (-9223372036854775808 : Int64)), (.long (fC i))]))
  refine own_go (fun t_ k_ => XS.lcmp X1.here hx rfl (hb hby d6_9) rfl k_) ?_
  show OwnFin p e below s _ _ _ (T1.setTop (mkF m 10 #[.val (.ref ao), .val (.int pi)] [(.int (lcmpW (fC i) (-9223372036854775808 : Int64)))]))
  have hc10 : ¬ ((fC i) = (-9223372036854775808 : Int64)) := by rw [hx1]; exact hq
  refine own_go (fun t_ k_ => XS.ifNo X1.here hx rfl (hb hby d6_10) rfl ((if0 _ _).trans (feq (mt (lw_eq (fC i) (-9223372036854775808 : Int64)).mp hc10)).1) k_) ?_
  show OwnFin p e below s _ _ _ (T1.setTop (mkF m 13 #[.val (.ref ao), .val (.int pi)] []))
  obtain ⟨T2, h2, X2, e2, E2, A2, D2, -, st2⟩ := newO X1 hx hZ hown (hw _ (List.mem_of_getElem? (i := 57) rfl)) (hw _ (List.mem_of_getElem? (i := 40) rfl)) (hw _ (List.mem_of_getElem? (i := 41) rfl)) e1 (g := (mkF m 13 #[.val (.ref ao), .val (.int pi)] [])) rfl (hb hby d6_13) (by decide) (by decide)
  obtain ⟨b2, g2⟩ : ∃ z, z = h0.size := ⟨_, rfl⟩
  rw [← g2] at A2 D2 st2
  have g_b2 : n0 ≤ b2 := Nat.le_trans Z0 (Nat.le_of_eq g2.symm)
  have sz_b2 : h0.size ≤ b2 := Nat.le_trans K0.1 (Nat.le_of_eq g2.symm)
  have ne_ao_b2 : ao ≠ b2 := Nat.ne_of_lt (Nat.lt_of_lt_of_le F_compact.lt (Nat.le_of_eq g2.symm))
  have ne_ca_b2 : ca ≠ b2 := Nat.ne_of_lt (Nat.lt_of_lt_of_le V_ca.lt (Nat.le_of_eq g2.symm))
  have ne_sc_b2 : sc ≠ b2 := Nat.ne_of_lt (Nat.lt_of_lt_of_le V_sc.lt (Nat.le_of_eq g2.symm))
  have F_compact_2 := F_compact.ext E2
  have F_scale_2 := F_scale.ext E2
  have V_ca_2 := V_ca.ext E2
  have V_sc_2 := V_sc.ext E2
  have Z2 : n0 ≤ h2.size := Nat.le_trans Z0 E2.1
  have K2 : Keep h0 h2 [] := K0.ext E2
  have E_b2 := A2
  have F_compact_b2 : Fld Z h2 b2 "com/example/nearside/nearside/support/SplitDecimal" "compact" "J" (.long (0 : Int64)) := D2 (Or.inr (hw _ (List.mem_of_getElem? (i := 48) rfl))) (ty := .long) (by decide)
  have F_scale_b2 : Fld Z h2 b2 "com/example/nearside/nearside/support/SplitDecimal" "scale" "I" (.int (0 : Int32)) := D2 (Or.inr (hw _ (List.mem_of_getElem? (i := 50) rfl))) (ty := .int) (by decide)
  have F_head_b2 : Fld Z h2 b2 "com/example/nearside/nearside/support/SplitDecimal" "head" "Ljava/math/BigDecimal;" .null := D2 (Or.inr (hw _ (List.mem_of_getElem? (i := 52) rfl))) (ty := (.object "java/math/BigDecimal")) (by decide)
  have F_tail_b2 : Fld Z h2 b2 "com/example/nearside/nearside/support/SplitDecimal" "tail" "[Ljava/math/BigDecimal;" .null := D2 (Or.inr (hw _ (List.mem_of_getElem? (i := 54) rfl))) (ty := (.array (.object "java/math/BigDecimal"))) (by decide)
  refine own_go st2 ?_
  show OwnFin p e below s _ _ _ (T2.setTop (mkF m 16 #[.val (.ref ao), .val (.int pi)] [(.ref b2)]))
  refine own_go (fun t_ k_ => XS.dup X2.here hx rfl (hb hby d6_16) rfl rfl k_) ?_
  show OwnFin p e below s _ _ _ (T2.setTop (mkF m 17 #[.val (.ref ao), .val (.int pi)] [(.ref b2), (.ref b2)]))
  refine own_go (fun t_ k_ => XS.aloadN X2.here hx rfl (hb hby d6_17) rfl rfl k_) ?_
  show OwnFin p e below s _ _ _ (T2.setTop (mkF m 18 #[.val (.ref ao), .val (.int pi)] [(.ref ao), (.ref b2), (.ref b2)]))
  obtain ⟨T3, X3, e3, st3⟩ := getF X2 hx hZ hown (host := "") (Or.inl (hw _ (List.mem_of_getElem? (i := 14) rfl))) Via.refl e2 F_compact_2 (g := (mkF m 18 #[.val (.ref ao), .val (.int pi)] [(.ref ao), (.ref b2), (.ref b2)])) rfl rfl (hb hby d6_18)
  refine own_go st3 ?_
  show OwnFin p e below s _ _ _ (T3.setTop (mkF m 21 #[.val (.ref ao), .val (.int pi)] [(.ref ca), (.ref b2), (.ref b2)]))
  refine own_go (fun t_ k_ => XS.iloadN X3.here hx rfl (hb hby d6_21) rfl k_) ?_
  show OwnFin p e below s _ _ _ (T3.setTop (mkF m 22 #[.val (.ref ao), .val (.int pi)] [(.int pi), (.ref ca), (.ref b2), (.ref b2)]))
  refine own_go (own_laload X3 hx hZ e3 V_ca_2 (i := i) hi hin (g := (mkF m 22 #[.val (.ref ao), .val (.int pi)] [(.int pi), (.ref ca), (.ref b2), (.ref b2)])) rfl rfl (hb hby d6_22)) ?_
  show OwnFin p e below s _ _ _ (T3.setTop (mkF m 23 #[.val (.ref ao), .val (.int pi)] [(.long (fC i)), (.ref b2), (.ref b2)]))
  refine own_go (fun t_ k_ => XS.aloadN X3.here hx rfl (hb hby d6_23) rfl rfl k_) ?_
  show OwnFin p e below s _ _ _ (T3.setTop (mkF m 24 #[.val (.ref ao), .val (.int pi)] [(.ref ao), (.long (fC i)), (.ref b2), (.ref b2)]))
  obtain ⟨T4, X4, e4, st4⟩ := getF X3 hx hZ hown (host := "") (Or.inl (hw _ (List.mem_of_getElem? (i := 17) rfl))) Via.refl e3 F_scale_2 (g := (mkF m 24 #[.val (.ref ao), .val (.int pi)] [(.ref ao), (.long (fC i)), (.ref b2), (.ref b2)])) rfl rfl (hb hby d6_24)
  refine own_go st4 ?_
  show OwnFin p e below s _ _ _ (T4.setTop (mkF m 27 #[.val (.ref ao), .val (.int pi)] [(.ref sc), (.long (fC i)), (.ref b2), (.ref b2)]))
  refine own_go (fun t_ k_ => XS.iloadN X4.here hx rfl (hb hby d6_27) rfl k_) ?_
  show OwnFin p e below s _ _ _ (T4.setTop (mkF m 28 #[.val (.ref ao), .val (.int pi)] [(.int pi), (.ref sc), (.long (fC i)), (.ref b2), (.ref b2)]))
  refine own_go (own_iaload X4 hx hZ e4 V_sc_2 (i := i) hi hin (g := (mkF m 28 #[.val (.ref ao), .val (.int pi)] [(.int pi), (.ref sc), (.long (fC i)), (.ref b2), (.ref b2)])) rfl rfl (hb hby d6_28)) ?_
  show OwnFin p e below s _ _ _ (T4.setTop (mkF m 29 #[.val (.ref ao), .val (.int pi)] [(.int (fS i)), (.long (fC i)), (.ref b2), (.ref b2)]))
  obtain ⟨v5, T5, L5, X5, hQ5, st5⟩ := own_callI X4 hx hZ (y := (⟨"com/example/nearside/nearside/support/SplitDecimal", "<init>", "(JI)V"⟩ : MethodName)) rfl hown (hw _ (List.mem_of_getElem? (i := 60) rfl)) (hw _ (List.mem_of_getElem? (i := 44) rfl)) (hw _ (List.mem_of_getElem? (i := 41) rfl)) (hw _ (List.mem_of_getElem? (i := 45) rfl)) (by decide) (W := 1) (rm8 l Z a0 hw [] b2 (fC i) (fS i) h2 n0 Z2 E_b2 g_b2 F_compact_b2 F_scale_b2 F_head_b2 F_tail_b2) (by decide) (by decide) (g := (mkF m 29 #[.val (.ref ao), .val (.int pi)] [(.int (fS i)), (.long (fC i)), (.ref b2), (.ref b2)])) rfl (by rw [hml]; rfl) (a := b2) (argsL := [(.long (fC i)), (.int (fS i))]) (rest := [(.ref b2)]) (lenOf pd_6_7 rfl) rfl (by show 2 * 0 + _ ≤ _; exact Nat.le_of_eq rfl) (hb hby d6_29) e4 rfl (by decide) (by decide)
  obtain ⟨rfl, Nq5, Kq5, Eq5, Fq5_0, Fq5_1, Fq5_2, Fq5_3⟩ := hQ5
  have N5 := Fr.app N0 Nq5
  have F_compact_5 := F_compact_2.keep Kq5 (ninS ne_ao_b2 nin0)
  have F_scale_5 := F_scale_2.keep Kq5 (ninS ne_ao_b2 nin0)
  have V_ca_5 := V_ca_2.keep Kq5 (ninS ne_ca_b2 nin0)
  have V_sc_5 := V_sc_2.keep Kq5 (ninS ne_sc_b2 nin0)
  have E_b2_5 := E_b2.keep Kq5
  have Z5 : n0 ≤ T5.heap.size := Nat.le_trans Z2 Kq5.1
  have K5 : Keep h0 T5.heap [] := K2.trans Kq5 (allS (Or.inr sz_b2) all0)
  refine own_go st5 ?_
  show OwnFin p e below s _ _ _ (T5.setTop (mkF m 32 #[.val (.ref ao), .val (.int pi)] [(.ref b2)]))
  refine own_ret X5 (v := some (.ref b2)) hlk (fun hh => by rw [hret] at hh; cases hh) (fun fs hr => own_retR X5 hx hret rfl rfl (hb hby d6_32) hr) (by decide) (by decide) ?_
  refine ⟨b2, rfl, N5, K5, sz_b2, Eq5, ?_, ?_⟩
  · rw [← hx1]; exact Fq5_0
  · rw [← hx2]; exact Fq5_1
set_option maxRecDepth 65536 in
set_option maxHeartbeats 40000000 in
theorem rm6_N (l : Launch) (Z : State) (a0 : Array Value) (hw : ∀ d ∈ tables_1, d.before a0 Z = true) (ws : List Jvm.Cond) (ao : Addr) (pi : Int32) (ca : Addr) (n : Nat) (i : Nat) (fC : Nat → Int64) (h0 : Heap) (n0 : Nat) (Z0 : n0 ≤ h0.size) (hi : pi = Int32.ofNat i) (hin : i < n) (F_compact : Fld Z h0 ao "com/example/nearside/nearside/support/SplitDecimalArray" "compact" "[J" (.ref ca)) (F_whole : Fld Z h0 ao "com/example/nearside/nearside/support/SplitDecimalArray" "whole" "[Lcom/example/nearside/nearside/support/SplitDecimal;" .null) (V_ca : OwnArr Z h0 ca .long n (fun z => .long (fC z))) (hx1 : fC i = (-9223372036854775808 : Int64)) :
    OwnCtr l Z (⟨"com/example/nearside/nearside/support/SplitDecimalArray", "get", "(I)Lcom/example/nearside/nearside/support/SplitDecimal;"⟩ : MethodName) ws prog_177_method_5_code 2 (some (.object "com/example/nearside/nearside/support/SplitDecimal")) ({ frames := 0, cells := 0, slots := 0, locals := 0 } : Room) #[(.ref ao), (.int pi)] h0 (fun v h L => v = some .null ∧ Fr n0 L ∧ h = h0) := by
  refine own_body (g0 := fun m => mkF m 0 #[.val (.ref ao), .val (.int pi)] []) pn_6 (fun m => ef_6 m ao pi) ?_
  intro p e s m below meth c s₁ X0 hx hby hml hown hnm hZ e0 hret hlk
  have hml : c.maxLocals = 2 := hml
  have hown : s.vm.findClass "com/example/nearside/nearside/support/SplitDecimalArray" = some m.cls := hown
  have hnm : meth.name = "get" := hnm
  have hret : meth.sig.returnType = (some (.object "com/example/nearside/nearside/support/SplitDecimal")) := hret
  have N0 := Fr.nil n0
  show OwnFin p e below s _ _ _ (s₁.setTop (mkF m 0 #[.val (.ref ao), .val (.int pi)] []))
  refine own_go (fun t_ k_ => XS.aloadN X0.here hx rfl (hb hby d6_0) rfl rfl k_) ?_
  show OwnFin p e below s _ _ _ (s₁.setTop (mkF m 1 #[.val (.ref ao), .val (.int pi)] [(.ref ao)]))
  obtain ⟨T1, X1, e1, st1⟩ := getF X0 hx hZ hown (host := "") (Or.inl (hw _ (List.mem_of_getElem? (i := 14) rfl))) Via.refl e0 F_compact (g := (mkF m 1 #[.val (.ref ao), .val (.int pi)] [(.ref ao)])) rfl rfl (hb hby d6_1)
  refine own_go st1 ?_
  show OwnFin p e below s _ _ _ (T1.setTop (mkF m 4 #[.val (.ref ao), .val (.int pi)] [(.ref ca)]))
  refine own_go (fun t_ k_ => XS.iloadN X1.here hx rfl (hb hby d6_4) rfl k_) ?_
  show OwnFin p e below s _ _ _ (T1.setTop (mkF m 5 #[.val (.ref ao), .val (.int pi)] [(.int pi), (.ref ca)]))
  refine own_go (own_laload X1 hx hZ e1 V_ca (i := i) hi hin (g := (mkF m 5 #[.val (.ref ao), .val (.int pi)] [(.int pi), (.ref ca)])) rfl rfl (hb hby d6_5)) ?_
  show OwnFin p e below s _ _ _ (T1.setTop (mkF m 6 #[.val (.ref ao), .val (.int pi)] [(.long (fC i))]))
  refine own_go (X1.ldc2Long hx hown (mvT hZ (hw _ (List.mem_of_getElem? (i := 19) rfl))) (g := (mkF m 6 #[.val (.ref ao), .val (.int pi)] [(.long (fC i))])) rfl (hb hby d6_6)) ?_
  show OwnFin p e below s _ _ _ (T1.setTop (mkF m 9 #[.val (.ref ao), .val (.int pi)] [(.long (-9223372036854775808 : Int64)), (.long (fC i))]))
  refine own_go (fun t_ k_ => XS.lcmp X1.here hx rfl (hb hby d6_9) rfl k_) ?_
  show OwnFin p e below s _ _ _ (T1.setTop (mkF m 10 #[.val (.ref ao), .val (.int pi)] [(.int (lcmpW (fC i) (-9223372036854775808 : Int64)))]))
  have hc10 : (fC i) = (-9223372036854775808 : Int64) := hx1
  refine own_go (fun t_ k_ => XS.ifYes X1.here hx rfl (pc0 := 10) (pc' := 33) rfl (hb hby d6_10) rfl ((if0 _ _).trans (teq ((lw_eq (fC i) (-9223372036854775808 : Int64)).mpr hc10)).1) (by decide) (by decide) k_) ?_
  show OwnFin p e below s _ _ _ (T1.setTop (mkF m 33 #[.val (.ref ao), .val (.int pi)] []))
  refine own_go (fun t_ k_ => XS.aloadN X1.here hx rfl (hb hby d6_33) rfl rfl k_) ?_
  show OwnFin p e below s _ _ _ (T1.setTop (mkF m 34 #[.val (.ref ao), .val (.int pi)] [(.ref ao)]))
  obtain ⟨T2, X2, e2, st2⟩ := getF X1 hx hZ hown (host := "") (Or.inl (hw _ (List.mem_of_getElem? (i := 29) rfl))) Via.refl e1 F_whole (g := (mkF m 34 #[.val (.ref ao), .val (.int pi)] [(.ref ao)])) rfl rfl (hb hby d6_34)
  refine own_go st2 ?_
  show OwnFin p e below s _ _ _ (T2.setTop (mkF m 37 #[.val (.ref ao), .val (.int pi)] [.null]))
  refine own_go (fun t_ k_ => XS.ifnonnullNo X2.here hx rfl (hb hby d6_37) rfl k_) ?_
  show OwnFin p e below s _ _ _ (T2.setTop (mkF m 40 #[.val (.ref ao), .val (.int pi)] []))
  refine own_go (fun t_ k_ => XS.aconstNull X2.here hx rfl (hb hby d6_40) k_) ?_
  show OwnFin p e below s _ _ _ (T2.setTop (mkF m 41 #[.val (.ref ao), .val (.int pi)] [.null]))
  refine own_go (fun t_ k_ => XS.goto X2.here hx rfl (pc0 := 41) (pc' := 50) rfl (hb hby d6_41) (by decide) (by decide) k_) ?_
  show OwnFin p e below s _ _ _ (T2.setTop (mkF m 50 #[.val (.ref ao), .val (.int pi)] [.null]))
  refine own_ret X2 (v := some .null) hlk (fun hh => by rw [hret] at hh; cases hh) (fun fs hr => own_retR X2 hx hret rfl rfl (hb hby d6_50) hr) (by decide) (by decide) ?_
  rw [e2]
  exact ⟨rfl, N0, rfl⟩
set_option maxRecDepth 65536 in
set_option maxHeartbeats 40000000 in
theorem rm6_V (l : Launch) (Z : State) (a0 : Array Value) (hw : ∀ d ∈ tables_1, d.before a0 Z = true) (ws : List Jvm.Cond) (ao : Addr) (pi : Int32) (ca : Addr) (wa : Addr) (n : Nat) (i : Nat) (fC : Nat → Int64) (fW : Nat → Value) (h0 : Heap) (n0 : Nat) (Z0 : n0 ≤ h0.size) (hi : pi = Int32.ofNat i) (hin : i < n) (F_compact : Fld Z h0 ao "com/example/nearside/nearside/support/SplitDecimalArray" "compact" "[J" (.ref ca)) (F_whole : Fld Z h0 ao "com/example/nearside/nearside/support/SplitDecimalArray" "whole" "[Lcom/example/nearside/nearside/support/SplitDecimal;" (.ref wa)) (V_ca : OwnArr Z h0 ca .long n (fun z => .long (fC z))) (hx1 : fC i = (-9223372036854775808 : Int64)) (V_wa : OwnRA Z h0 wa "com/example/nearside/nearside/support/SplitDecimal" n fW) (hw1 : fW i = .null) :
    OwnCtr l Z (⟨"com/example/nearside/nearside/support/SplitDecimalArray", "get", "(I)Lcom/example/nearside/nearside/support/SplitDecimal;"⟩ : MethodName) ws prog_177_method_5_code 2 (some (.object "com/example/nearside/nearside/support/SplitDecimal")) ({ frames := 0, cells := 0, slots := 0, locals := 0 } : Room) #[(.ref ao), (.int pi)] h0 (fun v h L => v = some .null ∧ Fr n0 L ∧ h = h0) := by
  refine own_body (g0 := fun m => mkF m 0 #[.val (.ref ao), .val (.int pi)] []) pn_6 (fun m => ef_6 m ao pi) ?_
  intro p e s m below meth c s₁ X0 hx hby hml hown hnm hZ e0 hret hlk
  have hml : c.maxLocals = 2 := hml
  have hown : s.vm.findClass "com/example/nearside/nearside/support/SplitDecimalArray" = some m.cls := hown
  have hnm : meth.name = "get" := hnm
  have hret : meth.sig.returnType = (some (.object "com/example/nearside/nearside/support/SplitDecimal")) := hret
  have N0 := Fr.nil n0
  show OwnFin p e below s _ _ _ (s₁.setTop (mkF m 0 #[.val (.ref ao), .val (.int pi)] []))
  refine own_go (fun t_ k_ => XS.aloadN X0.here hx rfl (hb hby d6_0) rfl rfl k_) ?_
  show OwnFin p e below s _ _ _ (s₁.setTop (mkF m 1 #[.val (.ref ao), .val (.int pi)] [(.ref ao)]))
  obtain ⟨T1, X1, e1, st1⟩ := getF X0 hx hZ hown (host := "") (Or.inl (hw _ (List.mem_of_getElem? (i := 14) rfl))) Via.refl e0 F_compact (g := (mkF m 1 #[.val (.ref ao), .val (.int pi)] [(.ref ao)])) rfl rfl (hb hby d6_1)
  refine own_go st1 ?_
  show OwnFin p e below s _ _ _ (T1.setTop (mkF m 4 #[.val (.ref ao), .val (.int pi)] [(.ref ca)]))
  refine own_go (fun t_ k_ => XS.iloadN X1.here hx rfl (hb hby d6_4) rfl k_) ?_
  show OwnFin p e below s _ _ _ (T1.setTop (mkF m 5 #[.val (.ref ao), .val (.int pi)] [(.int pi), (.ref ca)]))
  refine own_go (own_laload X1 hx hZ e1 V_ca (i := i) hi hin (g := (mkF m 5 #[.val (.ref ao), .val (.int pi)] [(.int pi), (.ref ca)])) rfl rfl (hb hby d6_5)) ?_
  show OwnFin p e below s _ _ _ (T1.setTop (mkF m 6 #[.val (.ref ao), .val (.int pi)] [(.long (fC i))]))
  refine own_go (X1.ldc2Long hx hown (mvT hZ (hw _ (List.mem_of_getElem? (i := 19) rfl))) (g := (mkF m 6 #[.val (.ref ao), .val (.int pi)] [(.long (fC i))])) rfl (hb hby d6_6)) ?_
  show OwnFin p e below s _ _ _ (T1.setTop (mkF m 9 #[.val (.ref ao), .val (.int pi)] [(.long (-9223372036854775808 : Int64)), (.long (fC i))]))
  refine own_go (fun t_ k_ => XS.lcmp X1.here hx rfl (hb hby d6_9) rfl k_) ?_
  show OwnFin p e below s _ _ _ (T1.setTop (mkF m 10 #[.val (.ref ao), .val (.int pi)] [(.int (lcmpW (fC i) (-9223372036854775808 : Int64)))]))
  have hc10 : (fC i) = (-9223372036854775808 : Int64) := hx1
  refine own_go (fun t_ k_ => XS.ifYes X1.here hx rfl (pc0 := 10) (pc' := 33) rfl (hb hby d6_10) rfl ((if0 _ _).trans (teq ((lw_eq (fC i) (-9223372036854775808 : Int64)).mpr hc10)).1) (by decide) (by decide) k_) ?_
  show OwnFin p e below s _ _ _ (T1.setTop (mkF m 33 #[.val (.ref ao), .val (.int pi)] []))
  refine own_go (fun t_ k_ => XS.aloadN X1.here hx rfl (hb hby d6_33) rfl rfl k_) ?_
  show OwnFin p e below s _ _ _ (T1.setTop (mkF m 34 #[.val (.ref ao), .val (.int pi)] [(.ref ao)]))
  obtain ⟨T2, X2, e2, st2⟩ := getF X1 hx hZ hown (host := "") (Or.inl (hw _ (List.mem_of_getElem? (i := 29) rfl))) Via.refl e1 F_whole (g := (mkF m 34 #[.val (.ref ao), .val (.int pi)] [(.ref ao)])) rfl rfl (hb hby d6_34)
  refine own_go st2 ?_
  show OwnFin p e below s _ _ _ (T2.setTop (mkF m 37 #[.val (.ref ao), .val (.int pi)] [(.ref wa)]))
  refine own_go (fun t_ k_ => XS.ifnonnullYes X2.here hx rfl (pc0 := 37) (pc' := 44) rfl (hb hby d6_37) rfl (by decide) (by decide) k_) ?_
  show OwnFin p e below s _ _ _ (T2.setTop (mkF m 44 #[.val (.ref ao), .val (.int pi)] []))
  refine own_go (fun t_ k_ => XS.aloadN X2.here hx rfl (hb hby d6_44) rfl rfl k_) ?_
  show OwnFin p e below s _ _ _ (T2.setTop (mkF m 45 #[.val (.ref ao), .val (.int pi)] [(.ref ao)]))
  obtain ⟨T3, X3, e3, st3⟩ := getF X2 hx hZ hown (host := "") (Or.inl (hw _ (List.mem_of_getElem? (i := 29) rfl))) Via.refl e2 F_whole (g := (mkF m 45 #[.val (.ref ao), .val (.int pi)] [(.ref ao)])) rfl rfl (hb hby d6_45)
  refine own_go st3 ?_
  show OwnFin p e below s _ _ _ (T3.setTop (mkF m 48 #[.val (.ref ao), .val (.int pi)] [(.ref wa)]))
  refine own_go (fun t_ k_ => XS.iloadN X3.here hx rfl (hb hby d6_48) rfl k_) ?_
  show OwnFin p e below s _ _ _ (T3.setTop (mkF m 49 #[.val (.ref ao), .val (.int pi)] [(.int pi), (.ref wa)]))
  have hl49 := own_aaload X3 hx hZ e3 V_wa (i := i) hi hin (g := (mkF m 49 #[.val (.ref ao), .val (.int pi)] [(.int pi), (.ref wa)])) rfl rfl (hb hby d6_49)
  rw [hw1] at hl49
  refine own_go hl49 ?_
  show OwnFin p e below s _ _ _ (T3.setTop (mkF m 50 #[.val (.ref ao), .val (.int pi)] [.null]))
  refine own_ret X3 (v := some .null) hlk (fun hh => by rw [hret] at hh; cases hh) (fun fs hr => own_retR X3 hx hret rfl rfl (hb hby d6_50) hr) (by decide) (by decide) ?_
  rw [e3]
  exact ⟨rfl, N0, rfl⟩
set_option maxRecDepth 65536 in
set_option maxHeartbeats 40000000 in
theorem rm6_W (l : Launch) (Z : State) (a0 : Array Value) (hw : ∀ d ∈ tables_1, d.before a0 Z = true) (ws : List Jvm.Cond) (ao : Addr) (pi : Int32) (ca : Addr) (wa : Addr) (n : Nat) (i : Nat) (fC : Nat → Int64) (fW : Nat → Value) (yy : Addr) (h0 : Heap) (n0 : Nat) (Z0 : n0 ≤ h0.size) (hi : pi = Int32.ofNat i) (hin : i < n) (F_compact : Fld Z h0 ao "com/example/nearside/nearside/support/SplitDecimalArray" "compact" "[J" (.ref ca)) (F_whole : Fld Z h0 ao "com/example/nearside/nearside/support/SplitDecimalArray" "whole" "[Lcom/example/nearside/nearside/support/SplitDecimal;" (.ref wa)) (V_ca : OwnArr Z h0 ca .long n (fun z => .long (fC z))) (hx1 : fC i = (-9223372036854775808 : Int64)) (V_wa : OwnRA Z h0 wa "com/example/nearside/nearside/support/SplitDecimal" n fW) (hw1 : fW i = .ref yy) :
    OwnCtr l Z (⟨"com/example/nearside/nearside/support/SplitDecimalArray", "get", "(I)Lcom/example/nearside/nearside/support/SplitDecimal;"⟩ : MethodName) ws prog_177_method_5_code 2 (some (.object "com/example/nearside/nearside/support/SplitDecimal")) ({ frames := 0, cells := 0, slots := 0, locals := 0 } : Room) #[(.ref ao), (.int pi)] h0 (fun v h L => v = some (.ref yy) ∧ Fr n0 L ∧ h = h0) := by
  refine own_body (g0 := fun m => mkF m 0 #[.val (.ref ao), .val (.int pi)] []) pn_6 (fun m => ef_6 m ao pi) ?_
  intro p e s m below meth c s₁ X0 hx hby hml hown hnm hZ e0 hret hlk
  have hml : c.maxLocals = 2 := hml
  have hown : s.vm.findClass "com/example/nearside/nearside/support/SplitDecimalArray" = some m.cls := hown
  have hnm : meth.name = "get" := hnm
  have hret : meth.sig.returnType = (some (.object "com/example/nearside/nearside/support/SplitDecimal")) := hret
  have N0 := Fr.nil n0
  show OwnFin p e below s _ _ _ (s₁.setTop (mkF m 0 #[.val (.ref ao), .val (.int pi)] []))
  refine own_go (fun t_ k_ => XS.aloadN X0.here hx rfl (hb hby d6_0) rfl rfl k_) ?_
  show OwnFin p e below s _ _ _ (s₁.setTop (mkF m 1 #[.val (.ref ao), .val (.int pi)] [(.ref ao)]))
  obtain ⟨T1, X1, e1, st1⟩ := getF X0 hx hZ hown (host := "") (Or.inl (hw _ (List.mem_of_getElem? (i := 14) rfl))) Via.refl e0 F_compact (g := (mkF m 1 #[.val (.ref ao), .val (.int pi)] [(.ref ao)])) rfl rfl (hb hby d6_1)
  refine own_go st1 ?_
  show OwnFin p e below s _ _ _ (T1.setTop (mkF m 4 #[.val (.ref ao), .val (.int pi)] [(.ref ca)]))
  refine own_go (fun t_ k_ => XS.iloadN X1.here hx rfl (hb hby d6_4) rfl k_) ?_
  show OwnFin p e below s _ _ _ (T1.setTop (mkF m 5 #[.val (.ref ao), .val (.int pi)] [(.int pi), (.ref ca)]))
  refine own_go (own_laload X1 hx hZ e1 V_ca (i := i) hi hin (g := (mkF m 5 #[.val (.ref ao), .val (.int pi)] [(.int pi), (.ref ca)])) rfl rfl (hb hby d6_5)) ?_
  show OwnFin p e below s _ _ _ (T1.setTop (mkF m 6 #[.val (.ref ao), .val (.int pi)] [(.long (fC i))]))
  refine own_go (X1.ldc2Long hx hown (mvT hZ (hw _ (List.mem_of_getElem? (i := 19) rfl))) (g := (mkF m 6 #[.val (.ref ao), .val (.int pi)] [(.long (fC i))])) rfl (hb hby d6_6)) ?_
  show OwnFin p e below s _ _ _ (T1.setTop (mkF m 9 #[.val (.ref ao), .val (.int pi)] [(.long (-9223372036854775808 : Int64)), (.long (fC i))]))
  refine own_go (fun t_ k_ => XS.lcmp X1.here hx rfl (hb hby d6_9) rfl k_) ?_
  show OwnFin p e below s _ _ _ (T1.setTop (mkF m 10 #[.val (.ref ao), .val (.int pi)] [(.int (lcmpW (fC i) (-9223372036854775808 : Int64)))]))
  have hc10 : (fC i) = (-9223372036854775808 : Int64) := hx1
  refine own_go (fun t_ k_ => XS.ifYes X1.here hx rfl (pc0 := 10) (pc' := 33) rfl (hb hby d6_10) rfl ((if0 _ _).trans (teq ((lw_eq (fC i) (-9223372036854775808 : Int64)).mpr hc10)).1) (by decide) (by decide) k_) ?_
  show OwnFin p e below s _ _ _ (T1.setTop (mkF m 33 #[.val (.ref ao), .val (.int pi)] []))
  refine own_go (fun t_ k_ => XS.aloadN X1.here hx rfl (hb hby d6_33) rfl rfl k_) ?_
  show OwnFin p e below s _ _ _ (T1.setTop (mkF m 34 #[.val (.ref ao), .val (.int pi)] [(.ref ao)]))
  obtain ⟨T2, X2, e2, st2⟩ := getF X1 hx hZ hown (host := "") (Or.inl (hw _ (List.mem_of_getElem? (i := 29) rfl))) Via.refl e1 F_whole (g := (mkF m 34 #[.val (.ref ao), .val (.int pi)] [(.ref ao)])) rfl rfl (hb hby d6_34)
  refine own_go st2 ?_
  show OwnFin p e below s _ _ _ (T2.setTop (mkF m 37 #[.val (.ref ao), .val (.int pi)] [(.ref wa)]))
  refine own_go (fun t_ k_ => XS.ifnonnullYes X2.here hx rfl (pc0 := 37) (pc' := 44) rfl (hb hby d6_37) rfl (by decide) (by decide) k_) ?_
  show OwnFin p e below s _ _ _ (T2.setTop (mkF m 44 #[.val (.ref ao), .val (.int pi)] []))
  refine own_go (fun t_ k_ => XS.aloadN X2.here hx rfl (hb hby d6_44) rfl rfl k_) ?_
  show OwnFin p e below s _ _ _ (T2.setTop (mkF m 45 #[.val (.ref ao), .val (.int pi)] [(.ref ao)]))
  obtain ⟨T3, X3, e3, st3⟩ := getF X2 hx hZ hown (host := "") (Or.inl (hw _ (List.mem_of_getElem? (i := 29) rfl))) Via.refl e2 F_whole (g := (mkF m 45 #[.val (.ref ao), .val (.int pi)] [(.ref ao)])) rfl rfl (hb hby d6_45)
  refine own_go st3 ?_
  show OwnFin p e below s _ _ _ (T3.setTop (mkF m 48 #[.val (.ref ao), .val (.int pi)] [(.ref wa)]))
  refine own_go (fun t_ k_ => XS.iloadN X3.here hx rfl (hb hby d6_48) rfl k_) ?_
  show OwnFin p e below s _ _ _ (T3.setTop (mkF m 49 #[.val (.ref ao), .val (.int pi)] [(.int pi), (.ref wa)]))
  have hl49 := own_aaload X3 hx hZ e3 V_wa (i := i) hi hin (g := (mkF m 49 #[.val (.ref ao), .val (.int pi)] [(.int pi), (.ref wa)])) rfl rfl (hb hby d6_49)
  rw [hw1] at hl49
  refine own_go hl49 ?_
  show OwnFin p e below s _ _ _ (T3.setTop (mkF m 50 #[.val (.ref ao), .val (.int pi)] [(.ref yy)]))
  refine own_ret X3 (v := some (.ref yy)) hlk (fun hh => by rw [hret] at hh; cases hh) (fun fs hr => own_retR X3 hx hret rfl rfl (hb hby d6_50) hr) (by decide) (by decide) ?_
  rw [e3]
  exact ⟨rfl, N0, rfl⟩
theorem d7_0 : decode method_3_code 0 = .ok (.aload_n 1, 1) := by decide +kernel
theorem d7_1 : decode method_3_code 1 = .ok (.ifnonnull 13, 3) := by decide +kernel
theorem d7_4 : decode method_3_code 4 = .ok (.aload_n 0, 1) := by decide +kernel
theorem d7_5 : decode method_3_code 5 = .ok (.ifnonnull 7, 3) := by decide +kernel
theorem d7_8 : decode method_3_code 8 = .ok (.iconst 1, 1) := by decide +kernel
theorem d7_9 : decode method_3_code 9 = .ok (.goto 4, 3) := by decide +kernel
theorem d7_12 : decode method_3_code 12 = .ok (.iconst 0, 1) := by decide +kernel
theorem d7_13 : decode method_3_code 13 = .ok (.ireturn, 1) := by decide +kernel
theorem d7_14 : decode method_3_code 14 = .ok (.aload_n 1, 1) := by decide +kernel
theorem d7_15 : decode method_3_code 15 = .ok (.getfield 14, 3) := by decide +kernel
theorem d7_18 : decode method_3_code 18 = .ok (.ldc2_w 9, 3) := by decide +kernel
theorem d7_21 : decode method_3_code 21 = .ok (.lcmp, 1) := by decide +kernel
theorem d7_22 : decode method_3_code 22 = .ok (.ifCond .ne 14, 3) := by decide +kernel
theorem d7_25 : decode method_3_code 25 = .ok (.aload_n 0, 1) := by decide +kernel
theorem d7_26 : decode method_3_code 26 = .ok (.aload_n 1, 1) := by decide +kernel
theorem d7_27 : decode method_3_code 27 = .ok (.if_acmp .ne 7, 3) := by decide +kernel
theorem d7_30 : decode method_3_code 30 = .ok (.iconst 1, 1) := by decide +kernel
theorem d7_31 : decode method_3_code 31 = .ok (.goto 4, 3) := by decide +kernel
theorem d7_34 : decode method_3_code 34 = .ok (.iconst 0, 1) := by decide +kernel
theorem d7_35 : decode method_3_code 35 = .ok (.ireturn, 1) := by decide +kernel
theorem d7_36 : decode method_3_code 36 = .ok (.aload_n 0, 1) := by decide +kernel
theorem d7_37 : decode method_3_code 37 = .ok (.ifnull 30, 3) := by decide +kernel
theorem d7_40 : decode method_3_code 40 = .ok (.aload_n 0, 1) := by decide +kernel
theorem d7_41 : decode method_3_code 41 = .ok (.getfield 14, 3) := by decide +kernel
theorem d7_44 : decode method_3_code 44 = .ok (.aload_n 1, 1) := by decide +kernel
theorem d7_45 : decode method_3_code 45 = .ok (.getfield 14, 3) := by decide +kernel
theorem d7_48 : decode method_3_code 48 = .ok (.lcmp, 1) := by decide +kernel
theorem d7_49 : decode method_3_code 49 = .ok (.ifCond .ne 18, 3) := by decide +kernel
theorem d7_52 : decode method_3_code 52 = .ok (.aload_n 0, 1) := by decide +kernel
theorem d7_53 : decode method_3_code 53 = .ok (.getfield 18, 3) := by decide +kernel
theorem d7_56 : decode method_3_code 56 = .ok (.aload_n 1, 1) := by decide +kernel
theorem d7_57 : decode method_3_code 57 = .ok (.getfield 18, 3) := by decide +kernel
theorem d7_60 : decode method_3_code 60 = .ok (.if_icmp .ne 7, 3) := by decide +kernel
theorem d7_63 : decode method_3_code 63 = .ok (.iconst 1, 1) := by decide +kernel
theorem d7_64 : decode method_3_code 64 = .ok (.goto 4, 3) := by decide +kernel
theorem d7_67 : decode method_3_code 67 = .ok (.iconst 0, 1) := by decide +kernel
theorem d7_68 : decode method_3_code 68 = .ok (.ireturn, 1) := by decide +kernel
theorem pn_7 : plainFor (⟨"com/example/nearside/nearside/support/SplitDecimalArraySetPinLaw", "holds", "(Lcom/example/nearside/nearside/support/SplitDecimal;Lcom/example/nearside/nearside/support/SplitDecimal;)Z"⟩ : MethodName) = true := plainFor_of_name (by first | (simp [plainName, overriddenIn]; done) | decide +kernel)
theorem ef_7 (m : MethodId) (a1 : Addr) (a2 : Addr) : entryFrame m #[(.ref a1), (.ref a2)] 2 = mkF m 0 #[.val (.ref a1), .val (.ref a2)] [] := by first | (simp [entryFrame, mkF, argsToLocals, Value.category]; done) | rfl
theorem ef_7_N (m : MethodId) : entryFrame m #[.null, .null] 2 = mkF m 0 #[.val .null, .val .null] [] := by first | (simp [entryFrame, mkF, argsToLocals, Value.category]; done) | rfl
set_option maxRecDepth 65536 in
set_option maxHeartbeats 40000000 in
theorem rm7_N (l : Launch) (Z : State) (a0 : Array Value) (hw : ∀ d ∈ tables_1, d.before a0 Z = true) (ws : List Jvm.Cond)  (h0 : Heap) (n0 : Nat) (Z0 : n0 ≤ h0.size) :
    OwnCtr l Z (⟨"com/example/nearside/nearside/support/SplitDecimalArraySetPinLaw", "holds", "(Lcom/example/nearside/nearside/support/SplitDecimal;Lcom/example/nearside/nearside/support/SplitDecimal;)Z"⟩ : MethodName) ws method_3_code 2 (some .boolean) ({ frames := 0, cells := 0, slots := 0, locals := 0 } : Room) #[.null, .null] h0 (fun v h L => v = some (.int 1) ∧ Fr n0 L ∧ h = h0) := by
  refine own_body (g0 := fun m => mkF m 0 #[.val .null, .val .null] []) pn_7 (fun m => ef_7_N m ) ?_
  intro p e s m below meth c s₁ X0 hx hby hml hown hnm hZ e0 hret hlk
  have hml : c.maxLocals = 2 := hml
  have hown : s.vm.findClass "com/example/nearside/nearside/support/SplitDecimalArraySetPinLaw" = some m.cls := hown
  have hnm : meth.name = "holds" := hnm
  have hret : meth.sig.returnType = (some .boolean) := hret
  have N0 := Fr.nil n0
  show OwnFin p e below s _ _ _ (s₁.setTop (mkF m 0 #[.val .null, .val .null] []))
  refine own_go (fun t_ k_ => XS.aloadN X0.here hx rfl (hb hby d7_0) rfl rfl k_) ?_
  show OwnFin p e below s _ _ _ (s₁.setTop (mkF m 1 #[.val .null, .val .null] [.null]))
  refine own_go (fun t_ k_ => XS.ifnonnullNo X0.here hx rfl (hb hby d7_1) rfl k_) ?_
  show OwnFin p e below s _ _ _ (s₁.setTop (mkF m 4 #[.val .null, .val .null] []))
  refine own_go (fun t_ k_ => XS.aloadN X0.here hx rfl (hb hby d7_4) rfl rfl k_) ?_
  show OwnFin p e below s _ _ _ (s₁.setTop (mkF m 5 #[.val .null, .val .null] [.null]))
  refine own_go (fun t_ k_ => XS.ifnonnullNo X0.here hx rfl (hb hby d7_5) rfl k_) ?_
  show OwnFin p e below s _ _ _ (s₁.setTop (mkF m 8 #[.val .null, .val .null] []))
  refine own_go (fun t_ k_ => XS.iconst X0.here hx rfl (hb hby d7_8) k_) ?_
  show OwnFin p e below s _ _ _ (s₁.setTop (mkF m 9 #[.val .null, .val .null] [(.int (1 : Int32))]))
  refine own_go (fun t_ k_ => XS.goto X0.here hx rfl (pc0 := 9) (pc' := 13) rfl (hb hby d7_9) (by decide) (by decide) k_) ?_
  show OwnFin p e below s _ _ _ (s₁.setTop (mkF m 13 #[.val .null, .val .null] [(.int (1 : Int32))]))
  refine own_ret X0 (v := some (.int (1 : Int32))) hlk (fun hh => by rw [hret] at hh; cases hh) (fun fs hr => retN X0 hx (t := .boolean) hret (by simp) (hb hby d7_13) hr) (by decide) (by decide) ?_
  rw [e0]
  exact ⟨rfl, N0, rfl⟩
set_option maxRecDepth 65536 in
set_option maxHeartbeats 40000000 in
theorem rm7_W (l : Launch) (Z : State) (a0 : Array Value) (hw : ∀ d ∈ tables_1, d.before a0 Z = true) (ws : List Jvm.Cond) (ro : Addr) (h0 : Heap) (n0 : Nat) (Z0 : n0 ≤ h0.size) (Fv : Fld Z h0 ro "com/example/nearside/nearside/support/SplitDecimal" "compact" "J" (.long (-9223372036854775808 : Int64))) :
    OwnCtr l Z (⟨"com/example/nearside/nearside/support/SplitDecimalArraySetPinLaw", "holds", "(Lcom/example/nearside/nearside/support/SplitDecimal;Lcom/example/nearside/nearside/support/SplitDecimal;)Z"⟩ : MethodName) ws method_3_code 2 (some .boolean) ({ frames := 0, cells := 0, slots := 0, locals := 0 } : Room) #[(.ref ro), (.ref ro)] h0 (fun v h L => v = some (.int 1) ∧ Fr n0 L ∧ h = h0) := by
  refine own_body (g0 := fun m => mkF m 0 #[.val (.ref ro), .val (.ref ro)] []) pn_7 (fun m => ef_7 m ro ro) ?_
  intro p e s m below meth c s₁ X0 hx hby hml hown hnm hZ e0 hret hlk
  have hml : c.maxLocals = 2 := hml
  have hown : s.vm.findClass "com/example/nearside/nearside/support/SplitDecimalArraySetPinLaw" = some m.cls := hown
  have hnm : meth.name = "holds" := hnm
  have hret : meth.sig.returnType = (some .boolean) := hret
  have N0 := Fr.nil n0
  show OwnFin p e below s _ _ _ (s₁.setTop (mkF m 0 #[.val (.ref ro), .val (.ref ro)] []))
  refine own_go (fun t_ k_ => XS.aloadN X0.here hx rfl (hb hby d7_0) rfl rfl k_) ?_
  show OwnFin p e below s _ _ _ (s₁.setTop (mkF m 1 #[.val (.ref ro), .val (.ref ro)] [(.ref ro)]))
  refine own_go (fun t_ k_ => XS.ifnonnullYes X0.here hx rfl (pc0 := 1) (pc' := 14) rfl (hb hby d7_1) rfl (by decide) (by decide) k_) ?_
  show OwnFin p e below s _ _ _ (s₁.setTop (mkF m 14 #[.val (.ref ro), .val (.ref ro)] []))
  refine own_go (fun t_ k_ => XS.aloadN X0.here hx rfl (hb hby d7_14) rfl rfl k_) ?_
  show OwnFin p e below s _ _ _ (s₁.setTop (mkF m 15 #[.val (.ref ro), .val (.ref ro)] [(.ref ro)]))
  obtain ⟨T1, X1, e1, st1⟩ := getF X0 hx hZ hown (host := "") (Or.inl (hw _ (List.mem_of_getElem? (i := 61) rfl))) Via.refl e0 Fv (g := (mkF m 15 #[.val (.ref ro), .val (.ref ro)] [(.ref ro)])) rfl rfl (hb hby d7_15)
  refine own_go st1 ?_
  show OwnFin p e below s _ _ _ (T1.setTop (mkF m 18 #[.val (.ref ro), .val (.ref ro)] [(.long (-9223372036854775808 : Int64))]))
  refine own_go (X1.ldc2Long hx hown (mvT hZ (hw _ (List.mem_of_getElem? (i := 42) rfl))) (g := (mkF m 18 #[.val (.ref ro), .val (.ref ro)] [(.long (-9223372036854775808 : Int64))])) rfl (hb hby d7_18)) ?_
  show OwnFin p e below s _ _ _ (T1.setTop (mkF m 21 #[.val (.ref ro), .val (.ref ro)] [(.long (-9223372036854775808 : Int64)), (.long (-9223372036854775808 : Int64))]))
  refine own_go (fun t_ k_ => XS.lcmp X1.here hx rfl (hb hby d7_21) rfl k_) ?_
  show OwnFin p e below s _ _ _ (T1.setTop (mkF m 22 #[.val (.ref ro), .val (.ref ro)] [(.int (lcmpW (-9223372036854775808 : Int64) (-9223372036854775808 : Int64)))]))
  refine own_go (fun t_ k_ => XS.ifNo X1.here hx rfl (hb hby d7_22) rfl ((if0 _ _).trans (teq ((lw_eq (-9223372036854775808 : Int64) (-9223372036854775808 : Int64)).mpr (by decide))).2) k_) ?_
  show OwnFin p e below s _ _ _ (T1.setTop (mkF m 25 #[.val (.ref ro), .val (.ref ro)] []))
  refine own_go (fun t_ k_ => XS.aloadN X1.here hx rfl (hb hby d7_25) rfl rfl k_) ?_
  show OwnFin p e below s _ _ _ (T1.setTop (mkF m 26 #[.val (.ref ro), .val (.ref ro)] [(.ref ro)]))
  refine own_go (fun t_ k_ => XS.aloadN X1.here hx rfl (hb hby d7_26) rfl rfl k_) ?_
  show OwnFin p e below s _ _ _ (T1.setTop (mkF m 27 #[.val (.ref ro), .val (.ref ro)] [(.ref ro), (.ref ro)]))
  refine own_go (fun t_ k_ => Jvm.RoadKit.acmp (g := (mkF m 27 #[.val (.ref ro), .val (.ref ro)] [(.ref ro), (.ref ro)])) X1 hx rfl rfl rfl (pc0 := 27) (pc' := 30) (same := true) rfl (hb hby d7_27) rfl (decide_eq_true rfl) (by decide) (by decide) k_) ?_
  show OwnFin p e below s _ _ _ (T1.setTop (mkF m 30 #[.val (.ref ro), .val (.ref ro)] []))
  refine own_go (fun t_ k_ => XS.iconst X1.here hx rfl (hb hby d7_30) k_) ?_
  show OwnFin p e below s _ _ _ (T1.setTop (mkF m 31 #[.val (.ref ro), .val (.ref ro)] [(.int (1 : Int32))]))
  refine own_go (fun t_ k_ => XS.goto X1.here hx rfl (pc0 := 31) (pc' := 35) rfl (hb hby d7_31) (by decide) (by decide) k_) ?_
  show OwnFin p e below s _ _ _ (T1.setTop (mkF m 35 #[.val (.ref ro), .val (.ref ro)] [(.int (1 : Int32))]))
  refine own_ret X1 (v := some (.int (1 : Int32))) hlk (fun hh => by rw [hret] at hh; cases hh) (fun fs hr => retN X1 hx (t := .boolean) hret (by simp) (hb hby d7_35) hr) (by decide) (by decide) ?_
  rw [e1]
  exact ⟨rfl, N0, rfl⟩
set_option maxRecDepth 65536 in
set_option maxHeartbeats 40000000 in
theorem rm7_C (l : Launch) (Z : State) (a0 : Array Value) (hw : ∀ d ∈ tables_1, d.before a0 Z = true) (ws : List Jvm.Cond) (ro : Addr) (vo : Addr) {qx : Int64} {px : Int32} (h0 : Heap) (n0 : Nat) (Z0 : n0 ≤ h0.size) (hq : ¬ qx = (-9223372036854775808 : Int64)) (F_ro_compact : Fld Z h0 ro "com/example/nearside/nearside/support/SplitDecimal" "compact" "J" (.long qx)) (F_ro_scale : Fld Z h0 ro "com/example/nearside/nearside/support/SplitDecimal" "scale" "I" (.int px)) (F_vo_compact : Fld Z h0 vo "com/example/nearside/nearside/support/SplitDecimal" "compact" "J" (.long qx)) (F_vo_scale : Fld Z h0 vo "com/example/nearside/nearside/support/SplitDecimal" "scale" "I" (.int px)) :
    OwnCtr l Z (⟨"com/example/nearside/nearside/support/SplitDecimalArraySetPinLaw", "holds", "(Lcom/example/nearside/nearside/support/SplitDecimal;Lcom/example/nearside/nearside/support/SplitDecimal;)Z"⟩ : MethodName) ws method_3_code 2 (some .boolean) ({ frames := 0, cells := 0, slots := 0, locals := 0 } : Room) #[(.ref ro), (.ref vo)] h0 (fun v h L => v = some (.int 1) ∧ Fr n0 L ∧ h = h0) := by
  refine own_body (g0 := fun m => mkF m 0 #[.val (.ref ro), .val (.ref vo)] []) pn_7 (fun m => ef_7 m ro vo) ?_
  intro p e s m below meth c s₁ X0 hx hby hml hown hnm hZ e0 hret hlk
  have hml : c.maxLocals = 2 := hml
  have hown : s.vm.findClass "com/example/nearside/nearside/support/SplitDecimalArraySetPinLaw" = some m.cls := hown
  have hnm : meth.name = "holds" := hnm
  have hret : meth.sig.returnType = (some .boolean) := hret
  have N0 := Fr.nil n0
  show OwnFin p e below s _ _ _ (s₁.setTop (mkF m 0 #[.val (.ref ro), .val (.ref vo)] []))
  refine own_go (fun t_ k_ => XS.aloadN X0.here hx rfl (hb hby d7_0) rfl rfl k_) ?_
  show OwnFin p e below s _ _ _ (s₁.setTop (mkF m 1 #[.val (.ref ro), .val (.ref vo)] [(.ref vo)]))
  refine own_go (fun t_ k_ => XS.ifnonnullYes X0.here hx rfl (pc0 := 1) (pc' := 14) rfl (hb hby d7_1) rfl (by decide) (by decide) k_) ?_
  show OwnFin p e below s _ _ _ (s₁.setTop (mkF m 14 #[.val (.ref ro), .val (.ref vo)] []))
  refine own_go (fun t_ k_ => XS.aloadN X0.here hx rfl (hb hby d7_14) rfl rfl k_) ?_
  show OwnFin p e below s _ _ _ (s₁.setTop (mkF m 15 #[.val (.ref ro), .val (.ref vo)] [(.ref vo)]))
  obtain ⟨T1, X1, e1, st1⟩ := getF X0 hx hZ hown (host := "") (Or.inl (hw _ (List.mem_of_getElem? (i := 61) rfl))) Via.refl e0 F_vo_compact (g := (mkF m 15 #[.val (.ref ro), .val (.ref vo)] [(.ref vo)])) rfl rfl (hb hby d7_15)
  refine own_go st1 ?_
  show OwnFin p e below s _ _ _ (T1.setTop (mkF m 18 #[.val (.ref ro), .val (.ref vo)] [(.long qx)]))
  refine own_go (X1.ldc2Long hx hown (mvT hZ (hw _ (List.mem_of_getElem? (i := 42) rfl))) (g := (mkF m 18 #[.val (.ref ro), .val (.ref vo)] [(.long qx)])) rfl (hb hby d7_18)) ?_
  show OwnFin p e below s _ _ _ (T1.setTop (mkF m 21 #[.val (.ref ro), .val (.ref vo)] [(.long (-9223372036854775808 : Int64)), (.long qx)]))
  refine own_go (fun t_ k_ => XS.lcmp X1.here hx rfl (hb hby d7_21) rfl k_) ?_
  show OwnFin p e below s _ _ _ (T1.setTop (mkF m 22 #[.val (.ref ro), .val (.ref vo)] [(.int (lcmpW qx (-9223372036854775808 : Int64)))]))
  have hc22 : ¬ (qx = (-9223372036854775808 : Int64)) := hq
  refine own_go (fun t_ k_ => XS.ifYes X1.here hx rfl (pc0 := 22) (pc' := 36) rfl (hb hby d7_22) rfl ((if0 _ _).trans (feq (mt (lw_eq qx (-9223372036854775808 : Int64)).mp hc22)).2) (by decide) (by decide) k_) ?_
  show OwnFin p e below s _ _ _ (T1.setTop (mkF m 36 #[.val (.ref ro), .val (.ref vo)] []))
  refine own_go (fun t_ k_ => XS.aloadN X1.here hx rfl (hb hby d7_36) rfl rfl k_) ?_
  show OwnFin p e below s _ _ _ (T1.setTop (mkF m 37 #[.val (.ref ro), .val (.ref vo)] [(.ref ro)]))
  refine own_go (fun t_ k_ => XS.ifnullNo X1.here hx rfl (hb hby d7_37) rfl k_) ?_
  show OwnFin p e below s _ _ _ (T1.setTop (mkF m 40 #[.val (.ref ro), .val (.ref vo)] []))
  refine own_go (fun t_ k_ => XS.aloadN X1.here hx rfl (hb hby d7_40) rfl rfl k_) ?_
  show OwnFin p e below s _ _ _ (T1.setTop (mkF m 41 #[.val (.ref ro), .val (.ref vo)] [(.ref ro)]))
  obtain ⟨T2, X2, e2, st2⟩ := getF X1 hx hZ hown (host := "") (Or.inl (hw _ (List.mem_of_getElem? (i := 61) rfl))) Via.refl e1 F_ro_compact (g := (mkF m 41 #[.val (.ref ro), .val (.ref vo)] [(.ref ro)])) rfl rfl (hb hby d7_41)
  refine own_go st2 ?_
  show OwnFin p e below s _ _ _ (T2.setTop (mkF m 44 #[.val (.ref ro), .val (.ref vo)] [(.long qx)]))
  refine own_go (fun t_ k_ => XS.aloadN X2.here hx rfl (hb hby d7_44) rfl rfl k_) ?_
  show OwnFin p e below s _ _ _ (T2.setTop (mkF m 45 #[.val (.ref ro), .val (.ref vo)] [(.ref vo), (.long qx)]))
  obtain ⟨T3, X3, e3, st3⟩ := getF X2 hx hZ hown (host := "") (Or.inl (hw _ (List.mem_of_getElem? (i := 61) rfl))) Via.refl e2 F_vo_compact (g := (mkF m 45 #[.val (.ref ro), .val (.ref vo)] [(.ref vo), (.long qx)])) rfl rfl (hb hby d7_45)
  refine own_go st3 ?_
  show OwnFin p e below s _ _ _ (T3.setTop (mkF m 48 #[.val (.ref ro), .val (.ref vo)] [(.long qx), (.long qx)]))
  refine own_go (fun t_ k_ => XS.lcmp X3.here hx rfl (hb hby d7_48) rfl k_) ?_
  show OwnFin p e below s _ _ _ (T3.setTop (mkF m 49 #[.val (.ref ro), .val (.ref vo)] [(.int (lcmpW qx qx))]))
  refine own_go (fun t_ k_ => XS.ifNo X3.here hx rfl (hb hby d7_49) rfl ((if0 _ _).trans (teq ((lw_eq qx qx).mpr rfl)).2) k_) ?_
  show OwnFin p e below s _ _ _ (T3.setTop (mkF m 52 #[.val (.ref ro), .val (.ref vo)] []))
  refine own_go (fun t_ k_ => XS.aloadN X3.here hx rfl (hb hby d7_52) rfl rfl k_) ?_
  show OwnFin p e below s _ _ _ (T3.setTop (mkF m 53 #[.val (.ref ro), .val (.ref vo)] [(.ref ro)]))
  obtain ⟨T4, X4, e4, st4⟩ := getF X3 hx hZ hown (host := "") (Or.inl (hw _ (List.mem_of_getElem? (i := 62) rfl))) Via.refl e3 F_ro_scale (g := (mkF m 53 #[.val (.ref ro), .val (.ref vo)] [(.ref ro)])) rfl rfl (hb hby d7_53)
  refine own_go st4 ?_
  show OwnFin p e below s _ _ _ (T4.setTop (mkF m 56 #[.val (.ref ro), .val (.ref vo)] [(.int px)]))
  refine own_go (fun t_ k_ => XS.aloadN X4.here hx rfl (hb hby d7_56) rfl rfl k_) ?_
  show OwnFin p e below s _ _ _ (T4.setTop (mkF m 57 #[.val (.ref ro), .val (.ref vo)] [(.ref vo), (.int px)]))
  obtain ⟨T5, X5, e5, st5⟩ := getF X4 hx hZ hown (host := "") (Or.inl (hw _ (List.mem_of_getElem? (i := 62) rfl))) Via.refl e4 F_vo_scale (g := (mkF m 57 #[.val (.ref ro), .val (.ref vo)] [(.ref vo), (.int px)])) rfl rfl (hb hby d7_57)
  refine own_go st5 ?_
  show OwnFin p e below s _ _ _ (T5.setTop (mkF m 60 #[.val (.ref ro), .val (.ref vo)] [(.int px), (.int px)]))
  refine own_go (fun t_ k_ => XS.icmpNo X5.here hx rfl (hb hby d7_60) rfl (teq rfl).2 k_) ?_
  show OwnFin p e below s _ _ _ (T5.setTop (mkF m 63 #[.val (.ref ro), .val (.ref vo)] []))
  refine own_go (fun t_ k_ => XS.iconst X5.here hx rfl (hb hby d7_63) k_) ?_
  show OwnFin p e below s _ _ _ (T5.setTop (mkF m 64 #[.val (.ref ro), .val (.ref vo)] [(.int (1 : Int32))]))
  refine own_go (fun t_ k_ => XS.goto X5.here hx rfl (pc0 := 64) (pc' := 68) rfl (hb hby d7_64) (by decide) (by decide) k_) ?_
  show OwnFin p e below s _ _ _ (T5.setTop (mkF m 68 #[.val (.ref ro), .val (.ref vo)] [(.int (1 : Int32))]))
  refine own_ret X5 (v := some (.int (1 : Int32))) hlk (fun hh => by rw [hret] at hh; cases hh) (fun fs hr => retN X5 hx (t := .boolean) hret (by simp) (hb hby d7_68) hr) (by decide) (by decide) ?_
  rw [e5]
  exact ⟨rfl, N0, rfl⟩
theorem pn_0 : plainFor (⟨"com/example/nearside/nearside/support/SplitDecimalArraySetPinLaw", "law", "(IIJJII)Z"⟩ : MethodName) = true := plainFor_of_name (by first | (simp [plainName, overriddenIn]; done) | decide +kernel)
theorem pd_0_0 : parseMethodDescriptor "(IJI)Lcom/example/nearside/nearside/support/SplitDecimal;" = some ⟨[.int, .long, .int], some (.object "com/example/nearside/nearside/support/SplitDecimal")⟩ := by decide +kernel
theorem pd_0_1 : parseMethodDescriptor "(I)V" = some ⟨[.int], none⟩ := by decide +kernel
theorem pd_0_4 : parseMethodDescriptor "(ILcom/example/nearside/nearside/support/SplitDecimal;)V" = some ⟨[.int, (.object "com/example/nearside/nearside/support/SplitDecimal")], none⟩ := by decide +kernel
theorem pd_0_5 : parseMethodDescriptor "(I)Lcom/example/nearside/nearside/support/SplitDecimal;" = some ⟨[.int], some (.object "com/example/nearside/nearside/support/SplitDecimal")⟩ := by decide +kernel
theorem pd_0_6 : parseMethodDescriptor "(Lcom/example/nearside/nearside/support/SplitDecimal;Lcom/example/nearside/nearside/support/SplitDecimal;)Z" = some ⟨[(.object "com/example/nearside/nearside/support/SplitDecimal"), (.object "com/example/nearside/nearside/support/SplitDecimal")], some .boolean⟩ := by decide +kernel
theorem ef_0 (m : MethodId) (pp : Int32) (pq : Int32) (qc1 : Int64) (qc2 : Int64) (ps1 : Int32) (ps2 : Int32) : entryFrame m #[(.int pp), (.int pq), (.long qc1), (.long qc2), (.int ps1), (.int ps2)] maxLocals = mkF m 0 #[.val (.int pp), .val (.int pq), .val (.long qc1), .second, .val (.long qc2), .second, .val (.int ps1), .val (.int ps2), .unset, .unset, .unset, .unset, .unset, .unset, .unset, .unset, .unset, .unset] [] := by first | (simp [entryFrame, mkF, argsToLocals, Value.category, maxLocals]; done) | rfl
set_option maxRecDepth 65536 in
set_option maxHeartbeats 40000000 in
theorem rm0 (l : Launch) (Z : State) (a0 : Array Value) (hw : ∀ d ∈ tables_1, d.before a0 Z = true) (ws : List Jvm.Cond) (pp : Int32) (pq : Int32) (qc1 : Int64) (qc2 : Int64) (ps1 : Int32) (ps2 : Int32) (h0 : Heap) (n0 : Nat) (Z0 : n0 ≤ h0.size) :
    OwnCtr l Z x ws code maxLocals ret room_1 #[(.int pp), (.int pq), (.long qc1), (.long qc2), (.int ps1), (.int ps2)] h0 (fun v h L => v = some (.int 1) ∧ Fr n0 L) := by
  refine own_body (g0 := fun m => mkF m 0 #[.val (.int pp), .val (.int pq), .val (.long qc1), .second, .val (.long qc2), .second, .val (.int ps1), .val (.int ps2), .unset, .unset, .unset, .unset, .unset, .unset, .unset, .unset, .unset, .unset] []) pn_0 (fun m => ef_0 m pp pq qc1 qc2 ps1 ps2) ?_
  intro p e s m below meth c s₁ X0 hx hby hml hown hnm hZ e0 hret hlk
  have hml : c.maxLocals = 18 := hml
  have hown : s.vm.findClass "com/example/nearside/nearside/support/SplitDecimalArraySetPinLaw" = some m.cls := hown
  have hnm : meth.name = "law" := hnm
  have hret : meth.sig.returnType = (some .boolean) := hret
  have N0 := Fr.nil n0
  show OwnFin p e below s _ _ _ (s₁.setTop (mkF m 0 #[.val (.int pp), .val (.int pq), .val (.long qc1), .second, .val (.long qc2), .second, .val (.int ps1), .val (.int ps2), .unset, .unset, .unset, .unset, .unset, .unset, .unset, .unset, .unset, .unset] []))
  refine own_go (fun t_ k_ => XS.iconst X0.here hx rfl (hb hby at_0) k_) ?_
  show OwnFin p e below s _ _ _ (s₁.setTop (mkF m 1 #[.val (.int pp), .val (.int pq), .val (.long qc1), .second, .val (.long qc2), .second, .val (.int ps1), .val (.int ps2), .unset, .unset, .unset, .unset, .unset, .unset, .unset, .unset, .unset, .unset] [(.int (1 : Int32))]))
  refine own_go (fun t_ k_ => XS.iloadN X0.here hx rfl (hb hby at_1) rfl k_) ?_
  show OwnFin p e below s _ _ _ (s₁.setTop (mkF m 2 #[.val (.int pp), .val (.int pq), .val (.long qc1), .second, .val (.long qc2), .second, .val (.int ps1), .val (.int ps2), .unset, .unset, .unset, .unset, .unset, .unset, .unset, .unset, .unset, .unset] [(.int pp), (.int (1 : Int32))]))
  refine own_go (fun t_ k_ => XS.iconst X0.here hx rfl (hb hby at_2) k_) ?_
  show OwnFin p e below s _ _ _ (s₁.setTop (mkF m 3 #[.val (.int pp), .val (.int pq), .val (.long qc1), .second, .val (.long qc2), .second, .val (.int ps1), .val (.int ps2), .unset, .unset, .unset, .unset, .unset, .unset, .unset, .unset, .unset, .unset] [(.int (3 : Int32)), (.int pp), (.int (1 : Int32))]))
  refine own_go (fun t_ k_ => XS.iand X0.here hx rfl (hb hby at_3) rfl k_) ?_
  show OwnFin p e below s _ _ _ (s₁.setTop (mkF m 4 #[.val (.int pp), .val (.int pq), .val (.long qc1), .second, .val (.long qc2), .second, .val (.int ps1), .val (.int ps2), .unset, .unset, .unset, .unset, .unset, .unset, .unset, .unset, .unset, .unset] [(.int (pp &&& (3 : Int32))), (.int (1 : Int32))]))
  refine own_go (fun t_ k_ => XS.iadd X0.here hx rfl (hb hby at_4) rfl k_) ?_
  show OwnFin p e below s _ _ _ (s₁.setTop (mkF m 5 #[.val (.int pp), .val (.int pq), .val (.long qc1), .second, .val (.long qc2), .second, .val (.int ps1), .val (.int ps2), .unset, .unset, .unset, .unset, .unset, .unset, .unset, .unset, .unset, .unset] [(.int ((1 : Int32) + (pp &&& (3 : Int32))))]))
  refine own_go (fun t_ k_ => XS.istore X0.here hx rfl (hb hby at_5) rfl (l' := #[.val (.int pp), .val (.int pq), .val (.long qc1), .second, .val (.long qc2), .second, .val (.int ps1), .val (.int ps2), .val (.int ((1 : Int32) + (pp &&& (3 : Int32)))), .unset, .unset, .unset, .unset, .unset, .unset, .unset, .unset, .unset]) rfl k_) ?_
  show OwnFin p e below s _ _ _ (s₁.setTop (mkF m 7 #[.val (.int pp), .val (.int pq), .val (.long qc1), .second, .val (.long qc2), .second, .val (.int ps1), .val (.int ps2), .val (.int ((1 : Int32) + (pp &&& (3 : Int32)))), .unset, .unset, .unset, .unset, .unset, .unset, .unset, .unset, .unset] []))
  obtain ⟨n, hn, hn1, hn4⟩ := own_n4 pp
  rw [hn]
  show OwnFin p e below s _ _ _ (s₁.setTop (mkF m 7 #[.val (.int pp), .val (.int pq), .val (.long qc1), .second, .val (.long qc2), .second, .val (.int ps1), .val (.int ps2), .val (.int (Int32.ofNat n)), .unset, .unset, .unset, .unset, .unset, .unset, .unset, .unset, .unset] []))
  refine own_go (fun t_ k_ => XS.iloadN X0.here hx rfl (hb hby at_7) rfl k_) ?_
  show OwnFin p e below s _ _ _ (s₁.setTop (mkF m 8 #[.val (.int pp), .val (.int pq), .val (.long qc1), .second, .val (.long qc2), .second, .val (.int ps1), .val (.int ps2), .val (.int (Int32.ofNat n)), .unset, .unset, .unset, .unset, .unset, .unset, .unset, .unset, .unset] [(.int pp)]))
  refine own_go (fun t_ k_ => XS.iconst X0.here hx rfl (hb hby at_8) k_) ?_
  show OwnFin p e below s _ _ _ (s₁.setTop (mkF m 9 #[.val (.int pp), .val (.int pq), .val (.long qc1), .second, .val (.long qc2), .second, .val (.int ps1), .val (.int ps2), .val (.int (Int32.ofNat n)), .unset, .unset, .unset, .unset, .unset, .unset, .unset, .unset, .unset] [(.int (2 : Int32)), (.int pp)]))
  refine own_go (fun t_ k_ => XS.iushr X0.here hx rfl (hb hby at_9) rfl k_) ?_
  show OwnFin p e below s _ _ _ (s₁.setTop (mkF m 10 #[.val (.int pp), .val (.int pq), .val (.long qc1), .second, .val (.long qc2), .second, .val (.int ps1), .val (.int ps2), .val (.int (Int32.ofNat n)), .unset, .unset, .unset, .unset, .unset, .unset, .unset, .unset, .unset] [(.int ((pp.toUInt32 >>> ((2 : Int32) &&& 31).toUInt32).toInt32))]))
  refine own_go (fun t_ k_ => XS.sipush X0.here hx rfl (hb hby at_10) k_) ?_
  show OwnFin p e below s _ _ _ (s₁.setTop (mkF m 13 #[.val (.int pp), .val (.int pq), .val (.long qc1), .second, .val (.long qc2), .second, .val (.int ps1), .val (.int ps2), .val (.int (Int32.ofNat n)), .unset, .unset, .unset, .unset, .unset, .unset, .unset, .unset, .unset] [(.int (32767 : Int32)), (.int ((pp.toUInt32 >>> ((2 : Int32) &&& 31).toUInt32).toInt32))]))
  refine own_go (fun t_ k_ => XS.iand X0.here hx rfl (hb hby at_13) rfl k_) ?_
  show OwnFin p e below s _ _ _ (s₁.setTop (mkF m 14 #[.val (.int pp), .val (.int pq), .val (.long qc1), .second, .val (.long qc2), .second, .val (.int ps1), .val (.int ps2), .val (.int (Int32.ofNat n)), .unset, .unset, .unset, .unset, .unset, .unset, .unset, .unset, .unset] [(.int (((pp.toUInt32 >>> ((2 : Int32) &&& 31).toUInt32).toInt32) &&& (32767 : Int32)))]))
  refine own_go (fun t_ k_ => XS.iconst X0.here hx rfl (hb hby at_14) k_) ?_
  show OwnFin p e below s _ _ _ (s₁.setTop (mkF m 15 #[.val (.int pp), .val (.int pq), .val (.long qc1), .second, .val (.long qc2), .second, .val (.int ps1), .val (.int ps2), .val (.int (Int32.ofNat n)), .unset, .unset, .unset, .unset, .unset, .unset, .unset, .unset, .unset] [(.int (3 : Int32)), (.int (((pp.toUInt32 >>> ((2 : Int32) &&& 31).toUInt32).toInt32) &&& (32767 : Int32)))]))
  refine own_go (fun t_ k_ => Jvm.RoadKit.iremM X0 hx rfl (hb hby at_15) rfl (by decide) k_) ?_
  show OwnFin p e below s _ _ _ (s₁.setTop (mkF m 16 #[.val (.int pp), .val (.int pq), .val (.long qc1), .second, .val (.long qc2), .second, .val (.int ps1), .val (.int ps2), .val (.int (Int32.ofNat n)), .unset, .unset, .unset, .unset, .unset, .unset, .unset, .unset, .unset] [(.int ((((pp.toUInt32 >>> ((2 : Int32) &&& 31).toUInt32).toInt32) &&& (32767 : Int32)) % (3 : Int32)))]))
  refine own_go (fun t_ k_ => XS.istore X0.here hx rfl (hb hby at_16) rfl (l' := #[.val (.int pp), .val (.int pq), .val (.long qc1), .second, .val (.long qc2), .second, .val (.int ps1), .val (.int ps2), .val (.int (Int32.ofNat n)), .val (.int ((((pp.toUInt32 >>> ((2 : Int32) &&& 31).toUInt32).toInt32) &&& (32767 : Int32)) % (3 : Int32))), .unset, .unset, .unset, .unset, .unset, .unset, .unset, .unset]) rfl k_) ?_
  show OwnFin p e below s _ _ _ (s₁.setTop (mkF m 18 #[.val (.int pp), .val (.int pq), .val (.long qc1), .second, .val (.long qc2), .second, .val (.int ps1), .val (.int ps2), .val (.int (Int32.ofNat n)), .val (.int ((((pp.toUInt32 >>> ((2 : Int32) &&& 31).toUInt32).toInt32) &&& (32767 : Int32)) % (3 : Int32))), .unset, .unset, .unset, .unset, .unset, .unset, .unset, .unset] []))
  generalize h_kd1 : ((((pp.toUInt32 >>> ((2 : Int32) &&& 31).toUInt32).toInt32) &&& (32767 : Int32)) % (3 : Int32)) = kd1
  refine own_go (fun t_ k_ => XS.iloadN X0.here hx rfl (hb hby at_18) rfl k_) ?_
  show OwnFin p e below s _ _ _ (s₁.setTop (mkF m 19 #[.val (.int pp), .val (.int pq), .val (.long qc1), .second, .val (.long qc2), .second, .val (.int ps1), .val (.int ps2), .val (.int (Int32.ofNat n)), .val (.int kd1), .unset, .unset, .unset, .unset, .unset, .unset, .unset, .unset] [(.int pp)]))
  refine own_go (fun t_ k_ => XS.bipush X0.here hx rfl (hb hby at_19) k_) ?_
  show OwnFin p e below s _ _ _ (s₁.setTop (mkF m 21 #[.val (.int pp), .val (.int pq), .val (.long qc1), .second, .val (.long qc2), .second, .val (.int ps1), .val (.int ps2), .val (.int (Int32.ofNat n)), .val (.int kd1), .unset, .unset, .unset, .unset, .unset, .unset, .unset, .unset] [(.int (17 : Int32)), (.int pp)]))
  refine own_go (fun t_ k_ => XS.iushr X0.here hx rfl (hb hby at_21) rfl k_) ?_
  show OwnFin p e below s _ _ _ (s₁.setTop (mkF m 22 #[.val (.int pp), .val (.int pq), .val (.long qc1), .second, .val (.long qc2), .second, .val (.int ps1), .val (.int ps2), .val (.int (Int32.ofNat n)), .val (.int kd1), .unset, .unset, .unset, .unset, .unset, .unset, .unset, .unset] [(.int ((pp.toUInt32 >>> ((17 : Int32) &&& 31).toUInt32).toInt32))]))
  refine own_go (fun t_ k_ => XS.sipush X0.here hx rfl (hb hby at_22) k_) ?_
  show OwnFin p e below s _ _ _ (s₁.setTop (mkF m 25 #[.val (.int pp), .val (.int pq), .val (.long qc1), .second, .val (.long qc2), .second, .val (.int ps1), .val (.int ps2), .val (.int (Int32.ofNat n)), .val (.int kd1), .unset, .unset, .unset, .unset, .unset, .unset, .unset, .unset] [(.int (32767 : Int32)), (.int ((pp.toUInt32 >>> ((17 : Int32) &&& 31).toUInt32).toInt32))]))
  refine own_go (fun t_ k_ => XS.iand X0.here hx rfl (hb hby at_25) rfl k_) ?_
  show OwnFin p e below s _ _ _ (s₁.setTop (mkF m 26 #[.val (.int pp), .val (.int pq), .val (.long qc1), .second, .val (.long qc2), .second, .val (.int ps1), .val (.int ps2), .val (.int (Int32.ofNat n)), .val (.int kd1), .unset, .unset, .unset, .unset, .unset, .unset, .unset, .unset] [(.int (((pp.toUInt32 >>> ((17 : Int32) &&& 31).toUInt32).toInt32) &&& (32767 : Int32)))]))
  refine own_go (fun t_ k_ => XS.iconst X0.here hx rfl (hb hby at_26) k_) ?_
  show OwnFin p e below s _ _ _ (s₁.setTop (mkF m 27 #[.val (.int pp), .val (.int pq), .val (.long qc1), .second, .val (.long qc2), .second, .val (.int ps1), .val (.int ps2), .val (.int (Int32.ofNat n)), .val (.int kd1), .unset, .unset, .unset, .unset, .unset, .unset, .unset, .unset] [(.int (3 : Int32)), (.int (((pp.toUInt32 >>> ((17 : Int32) &&& 31).toUInt32).toInt32) &&& (32767 : Int32)))]))
  refine own_go (fun t_ k_ => Jvm.RoadKit.iremM X0 hx rfl (hb hby at_27) rfl (by decide) k_) ?_
  show OwnFin p e below s _ _ _ (s₁.setTop (mkF m 28 #[.val (.int pp), .val (.int pq), .val (.long qc1), .second, .val (.long qc2), .second, .val (.int ps1), .val (.int ps2), .val (.int (Int32.ofNat n)), .val (.int kd1), .unset, .unset, .unset, .unset, .unset, .unset, .unset, .unset] [(.int ((((pp.toUInt32 >>> ((17 : Int32) &&& 31).toUInt32).toInt32) &&& (32767 : Int32)) % (3 : Int32)))]))
  refine own_go (fun t_ k_ => XS.istore X0.here hx rfl (hb hby at_28) rfl (l' := #[.val (.int pp), .val (.int pq), .val (.long qc1), .second, .val (.long qc2), .second, .val (.int ps1), .val (.int ps2), .val (.int (Int32.ofNat n)), .val (.int kd1), .val (.int ((((pp.toUInt32 >>> ((17 : Int32) &&& 31).toUInt32).toInt32) &&& (32767 : Int32)) % (3 : Int32))), .unset, .unset, .unset, .unset, .unset, .unset, .unset]) rfl k_) ?_
  show OwnFin p e below s _ _ _ (s₁.setTop (mkF m 30 #[.val (.int pp), .val (.int pq), .val (.long qc1), .second, .val (.long qc2), .second, .val (.int ps1), .val (.int ps2), .val (.int (Int32.ofNat n)), .val (.int kd1), .val (.int ((((pp.toUInt32 >>> ((17 : Int32) &&& 31).toUInt32).toInt32) &&& (32767 : Int32)) % (3 : Int32))), .unset, .unset, .unset, .unset, .unset, .unset, .unset] []))
  generalize h_kd2 : ((((pp.toUInt32 >>> ((17 : Int32) &&& 31).toUInt32).toInt32) &&& (32767 : Int32)) % (3 : Int32)) = kd2
  refine own_go (fun t_ k_ => XS.iloadN X0.here hx rfl (hb hby at_30) rfl k_) ?_
  show OwnFin p e below s _ _ _ (s₁.setTop (mkF m 31 #[.val (.int pp), .val (.int pq), .val (.long qc1), .second, .val (.long qc2), .second, .val (.int ps1), .val (.int ps2), .val (.int (Int32.ofNat n)), .val (.int kd1), .val (.int kd2), .unset, .unset, .unset, .unset, .unset, .unset, .unset] [(.int pq)]))
  refine own_go (fun t_ k_ => XS.sipush X0.here hx rfl (hb hby at_31) k_) ?_
  show OwnFin p e below s _ _ _ (s₁.setTop (mkF m 34 #[.val (.int pp), .val (.int pq), .val (.long qc1), .second, .val (.long qc2), .second, .val (.int ps1), .val (.int ps2), .val (.int (Int32.ofNat n)), .val (.int kd1), .val (.int kd2), .unset, .unset, .unset, .unset, .unset, .unset, .unset] [(.int (1023 : Int32)), (.int pq)]))
  refine own_go (fun t_ k_ => XS.iand X0.here hx rfl (hb hby at_34) rfl k_) ?_
  show OwnFin p e below s _ _ _ (s₁.setTop (mkF m 35 #[.val (.int pp), .val (.int pq), .val (.long qc1), .second, .val (.long qc2), .second, .val (.int ps1), .val (.int ps2), .val (.int (Int32.ofNat n)), .val (.int kd1), .val (.int kd2), .unset, .unset, .unset, .unset, .unset, .unset, .unset] [(.int (pq &&& (1023 : Int32)))]))
  refine own_go (fun t_ k_ => XS.iload X0.here hx rfl (hb hby at_35) rfl k_) ?_
  show OwnFin p e below s _ _ _ (s₁.setTop (mkF m 37 #[.val (.int pp), .val (.int pq), .val (.long qc1), .second, .val (.long qc2), .second, .val (.int ps1), .val (.int ps2), .val (.int (Int32.ofNat n)), .val (.int kd1), .val (.int kd2), .unset, .unset, .unset, .unset, .unset, .unset, .unset] [(.int (Int32.ofNat n)), (.int (pq &&& (1023 : Int32)))]))
  refine own_go (fun t_ k_ => Jvm.RoadKit.iremM X0 hx rfl (hb hby at_37) rfl (own_nzd hn1 hn4) k_) ?_
  show OwnFin p e below s _ _ _ (s₁.setTop (mkF m 38 #[.val (.int pp), .val (.int pq), .val (.long qc1), .second, .val (.long qc2), .second, .val (.int ps1), .val (.int ps2), .val (.int (Int32.ofNat n)), .val (.int kd1), .val (.int kd2), .unset, .unset, .unset, .unset, .unset, .unset, .unset] [(.int ((pq &&& (1023 : Int32)) % (Int32.ofNat n)))]))
  refine own_go (fun t_ k_ => XS.istore X0.here hx rfl (hb hby at_38) rfl (l' := #[.val (.int pp), .val (.int pq), .val (.long qc1), .second, .val (.long qc2), .second, .val (.int ps1), .val (.int ps2), .val (.int (Int32.ofNat n)), .val (.int kd1), .val (.int kd2), .val (.int ((pq &&& (1023 : Int32)) % (Int32.ofNat n))), .unset, .unset, .unset, .unset, .unset, .unset]) rfl k_) ?_
  show OwnFin p e below s _ _ _ (s₁.setTop (mkF m 40 #[.val (.int pp), .val (.int pq), .val (.long qc1), .second, .val (.long qc2), .second, .val (.int ps1), .val (.int ps2), .val (.int (Int32.ofNat n)), .val (.int kd1), .val (.int kd2), .val (.int ((pq &&& (1023 : Int32)) % (Int32.ofNat n))), .unset, .unset, .unset, .unset, .unset, .unset] []))
  obtain ⟨i, hi, hin⟩ := own_remM pq (d := n) (by omega) hn4
  rw [hi]
  show OwnFin p e below s _ _ _ (s₁.setTop (mkF m 40 #[.val (.int pp), .val (.int pq), .val (.long qc1), .second, .val (.long qc2), .second, .val (.int ps1), .val (.int ps2), .val (.int (Int32.ofNat n)), .val (.int kd1), .val (.int kd2), .val (.int (Int32.ofNat i)), .unset, .unset, .unset, .unset, .unset, .unset] []))
  refine own_go (fun t_ k_ => XS.iloadN X0.here hx rfl (hb hby at_40) rfl k_) ?_
  show OwnFin p e below s _ _ _ (s₁.setTop (mkF m 41 #[.val (.int pp), .val (.int pq), .val (.long qc1), .second, .val (.long qc2), .second, .val (.int ps1), .val (.int ps2), .val (.int (Int32.ofNat n)), .val (.int kd1), .val (.int kd2), .val (.int (Int32.ofNat i)), .unset, .unset, .unset, .unset, .unset, .unset] [(.int pq)]))
  refine own_go (fun t_ k_ => XS.bipush X0.here hx rfl (hb hby at_41) k_) ?_
  show OwnFin p e below s _ _ _ (s₁.setTop (mkF m 43 #[.val (.int pp), .val (.int pq), .val (.long qc1), .second, .val (.long qc2), .second, .val (.int ps1), .val (.int ps2), .val (.int (Int32.ofNat n)), .val (.int kd1), .val (.int kd2), .val (.int (Int32.ofNat i)), .unset, .unset, .unset, .unset, .unset, .unset] [(.int (10 : Int32)), (.int pq)]))
  refine own_go (fun t_ k_ => XS.iushr X0.here hx rfl (hb hby at_43) rfl k_) ?_
  show OwnFin p e below s _ _ _ (s₁.setTop (mkF m 44 #[.val (.int pp), .val (.int pq), .val (.long qc1), .second, .val (.long qc2), .second, .val (.int ps1), .val (.int ps2), .val (.int (Int32.ofNat n)), .val (.int kd1), .val (.int kd2), .val (.int (Int32.ofNat i)), .unset, .unset, .unset, .unset, .unset, .unset] [(.int ((pq.toUInt32 >>> ((10 : Int32) &&& 31).toUInt32).toInt32))]))
  refine own_go (fun t_ k_ => XS.sipush X0.here hx rfl (hb hby at_44) k_) ?_
  show OwnFin p e below s _ _ _ (s₁.setTop (mkF m 47 #[.val (.int pp), .val (.int pq), .val (.long qc1), .second, .val (.long qc2), .second, .val (.int ps1), .val (.int ps2), .val (.int (Int32.ofNat n)), .val (.int kd1), .val (.int kd2), .val (.int (Int32.ofNat i)), .unset, .unset, .unset, .unset, .unset, .unset] [(.int (1023 : Int32)), (.int ((pq.toUInt32 >>> ((10 : Int32) &&& 31).toUInt32).toInt32))]))
  refine own_go (fun t_ k_ => XS.iand X0.here hx rfl (hb hby at_47) rfl k_) ?_
  show OwnFin p e below s _ _ _ (s₁.setTop (mkF m 48 #[.val (.int pp), .val (.int pq), .val (.long qc1), .second, .val (.long qc2), .second, .val (.int ps1), .val (.int ps2), .val (.int (Int32.ofNat n)), .val (.int kd1), .val (.int kd2), .val (.int (Int32.ofNat i)), .unset, .unset, .unset, .unset, .unset, .unset] [(.int (((pq.toUInt32 >>> ((10 : Int32) &&& 31).toUInt32).toInt32) &&& (1023 : Int32)))]))
  refine own_go (fun t_ k_ => XS.iload X0.here hx rfl (hb hby at_48) rfl k_) ?_
  show OwnFin p e below s _ _ _ (s₁.setTop (mkF m 50 #[.val (.int pp), .val (.int pq), .val (.long qc1), .second, .val (.long qc2), .second, .val (.int ps1), .val (.int ps2), .val (.int (Int32.ofNat n)), .val (.int kd1), .val (.int kd2), .val (.int (Int32.ofNat i)), .unset, .unset, .unset, .unset, .unset, .unset] [(.int (Int32.ofNat n)), (.int (((pq.toUInt32 >>> ((10 : Int32) &&& 31).toUInt32).toInt32) &&& (1023 : Int32)))]))
  refine own_go (fun t_ k_ => Jvm.RoadKit.iremM X0 hx rfl (hb hby at_50) rfl (own_nzd hn1 hn4) k_) ?_
  show OwnFin p e below s _ _ _ (s₁.setTop (mkF m 51 #[.val (.int pp), .val (.int pq), .val (.long qc1), .second, .val (.long qc2), .second, .val (.int ps1), .val (.int ps2), .val (.int (Int32.ofNat n)), .val (.int kd1), .val (.int kd2), .val (.int (Int32.ofNat i)), .unset, .unset, .unset, .unset, .unset, .unset] [(.int ((((pq.toUInt32 >>> ((10 : Int32) &&& 31).toUInt32).toInt32) &&& (1023 : Int32)) % (Int32.ofNat n)))]))
  refine own_go (fun t_ k_ => XS.istore X0.here hx rfl (hb hby at_51) rfl (l' := #[.val (.int pp), .val (.int pq), .val (.long qc1), .second, .val (.long qc2), .second, .val (.int ps1), .val (.int ps2), .val (.int (Int32.ofNat n)), .val (.int kd1), .val (.int kd2), .val (.int (Int32.ofNat i)), .val (.int ((((pq.toUInt32 >>> ((10 : Int32) &&& 31).toUInt32).toInt32) &&& (1023 : Int32)) % (Int32.ofNat n))), .unset, .unset, .unset, .unset, .unset]) rfl k_) ?_
  show OwnFin p e below s _ _ _ (s₁.setTop (mkF m 53 #[.val (.int pp), .val (.int pq), .val (.long qc1), .second, .val (.long qc2), .second, .val (.int ps1), .val (.int ps2), .val (.int (Int32.ofNat n)), .val (.int kd1), .val (.int kd2), .val (.int (Int32.ofNat i)), .val (.int ((((pq.toUInt32 >>> ((10 : Int32) &&& 31).toUInt32).toInt32) &&& (1023 : Int32)) % (Int32.ofNat n))), .unset, .unset, .unset, .unset, .unset] []))
  obtain ⟨j, hj, hjn⟩ := own_remM ((pq.toUInt32 >>> ((10 : Int32) &&& 31).toUInt32).toInt32) (d := n) (by omega) hn4
  rw [hj]
  show OwnFin p e below s _ _ _ (s₁.setTop (mkF m 53 #[.val (.int pp), .val (.int pq), .val (.long qc1), .second, .val (.long qc2), .second, .val (.int ps1), .val (.int ps2), .val (.int (Int32.ofNat n)), .val (.int kd1), .val (.int kd2), .val (.int (Int32.ofNat i)), .val (.int (Int32.ofNat j)), .unset, .unset, .unset, .unset, .unset] []))
  refine own_go (fun t_ k_ => XS.iloadN X0.here hx rfl (hb hby at_53) rfl k_) ?_
  show OwnFin p e below s _ _ _ (s₁.setTop (mkF m 54 #[.val (.int pp), .val (.int pq), .val (.long qc1), .second, .val (.long qc2), .second, .val (.int ps1), .val (.int ps2), .val (.int (Int32.ofNat n)), .val (.int kd1), .val (.int kd2), .val (.int (Int32.ofNat i)), .val (.int (Int32.ofNat j)), .unset, .unset, .unset, .unset, .unset] [(.int pq)]))
  refine own_go (fun t_ k_ => XS.bipush X0.here hx rfl (hb hby at_54) k_) ?_
  show OwnFin p e below s _ _ _ (s₁.setTop (mkF m 56 #[.val (.int pp), .val (.int pq), .val (.long qc1), .second, .val (.long qc2), .second, .val (.int ps1), .val (.int ps2), .val (.int (Int32.ofNat n)), .val (.int kd1), .val (.int kd2), .val (.int (Int32.ofNat i)), .val (.int (Int32.ofNat j)), .unset, .unset, .unset, .unset, .unset] [(.int (20 : Int32)), (.int pq)]))
  refine own_go (fun t_ k_ => XS.iushr X0.here hx rfl (hb hby at_56) rfl k_) ?_
  show OwnFin p e below s _ _ _ (s₁.setTop (mkF m 57 #[.val (.int pp), .val (.int pq), .val (.long qc1), .second, .val (.long qc2), .second, .val (.int ps1), .val (.int ps2), .val (.int (Int32.ofNat n)), .val (.int kd1), .val (.int kd2), .val (.int (Int32.ofNat i)), .val (.int (Int32.ofNat j)), .unset, .unset, .unset, .unset, .unset] [(.int ((pq.toUInt32 >>> ((20 : Int32) &&& 31).toUInt32).toInt32))]))
  refine own_go (fun t_ k_ => XS.sipush X0.here hx rfl (hb hby at_57) k_) ?_
  show OwnFin p e below s _ _ _ (s₁.setTop (mkF m 60 #[.val (.int pp), .val (.int pq), .val (.long qc1), .second, .val (.long qc2), .second, .val (.int ps1), .val (.int ps2), .val (.int (Int32.ofNat n)), .val (.int kd1), .val (.int kd2), .val (.int (Int32.ofNat i)), .val (.int (Int32.ofNat j)), .unset, .unset, .unset, .unset, .unset] [(.int (1023 : Int32)), (.int ((pq.toUInt32 >>> ((20 : Int32) &&& 31).toUInt32).toInt32))]))
  refine own_go (fun t_ k_ => XS.iand X0.here hx rfl (hb hby at_60) rfl k_) ?_
  show OwnFin p e below s _ _ _ (s₁.setTop (mkF m 61 #[.val (.int pp), .val (.int pq), .val (.long qc1), .second, .val (.long qc2), .second, .val (.int ps1), .val (.int ps2), .val (.int (Int32.ofNat n)), .val (.int kd1), .val (.int kd2), .val (.int (Int32.ofNat i)), .val (.int (Int32.ofNat j)), .unset, .unset, .unset, .unset, .unset] [(.int (((pq.toUInt32 >>> ((20 : Int32) &&& 31).toUInt32).toInt32) &&& (1023 : Int32)))]))
  refine own_go (fun t_ k_ => XS.iload X0.here hx rfl (hb hby at_61) rfl k_) ?_
  show OwnFin p e below s _ _ _ (s₁.setTop (mkF m 63 #[.val (.int pp), .val (.int pq), .val (.long qc1), .second, .val (.long qc2), .second, .val (.int ps1), .val (.int ps2), .val (.int (Int32.ofNat n)), .val (.int kd1), .val (.int kd2), .val (.int (Int32.ofNat i)), .val (.int (Int32.ofNat j)), .unset, .unset, .unset, .unset, .unset] [(.int (Int32.ofNat n)), (.int (((pq.toUInt32 >>> ((20 : Int32) &&& 31).toUInt32).toInt32) &&& (1023 : Int32)))]))
  refine own_go (fun t_ k_ => Jvm.RoadKit.iremM X0 hx rfl (hb hby at_63) rfl (own_nzd hn1 hn4) k_) ?_
  show OwnFin p e below s _ _ _ (s₁.setTop (mkF m 64 #[.val (.int pp), .val (.int pq), .val (.long qc1), .second, .val (.long qc2), .second, .val (.int ps1), .val (.int ps2), .val (.int (Int32.ofNat n)), .val (.int kd1), .val (.int kd2), .val (.int (Int32.ofNat i)), .val (.int (Int32.ofNat j)), .unset, .unset, .unset, .unset, .unset] [(.int ((((pq.toUInt32 >>> ((20 : Int32) &&& 31).toUInt32).toInt32) &&& (1023 : Int32)) % (Int32.ofNat n)))]))
  refine own_go (fun t_ k_ => XS.istore X0.here hx rfl (hb hby at_64) rfl (l' := #[.val (.int pp), .val (.int pq), .val (.long qc1), .second, .val (.long qc2), .second, .val (.int ps1), .val (.int ps2), .val (.int (Int32.ofNat n)), .val (.int kd1), .val (.int kd2), .val (.int (Int32.ofNat i)), .val (.int (Int32.ofNat j)), .val (.int ((((pq.toUInt32 >>> ((20 : Int32) &&& 31).toUInt32).toInt32) &&& (1023 : Int32)) % (Int32.ofNat n))), .unset, .unset, .unset, .unset]) rfl k_) ?_
  show OwnFin p e below s _ _ _ (s₁.setTop (mkF m 66 #[.val (.int pp), .val (.int pq), .val (.long qc1), .second, .val (.long qc2), .second, .val (.int ps1), .val (.int ps2), .val (.int (Int32.ofNat n)), .val (.int kd1), .val (.int kd2), .val (.int (Int32.ofNat i)), .val (.int (Int32.ofNat j)), .val (.int ((((pq.toUInt32 >>> ((20 : Int32) &&& 31).toUInt32).toInt32) &&& (1023 : Int32)) % (Int32.ofNat n))), .unset, .unset, .unset, .unset] []))
  obtain ⟨k, hk, hkn⟩ := own_remM ((pq.toUInt32 >>> ((20 : Int32) &&& 31).toUInt32).toInt32) (d := n) (by omega) hn4
  rw [hk]
  show OwnFin p e below s _ _ _ (s₁.setTop (mkF m 66 #[.val (.int pp), .val (.int pq), .val (.long qc1), .second, .val (.long qc2), .second, .val (.int ps1), .val (.int ps2), .val (.int (Int32.ofNat n)), .val (.int kd1), .val (.int kd2), .val (.int (Int32.ofNat i)), .val (.int (Int32.ofNat j)), .val (.int (Int32.ofNat k)), .unset, .unset, .unset, .unset] []))
  by_cases hz1 : kd1 = (0 : Int32)
  · refine own_go (fun t_ k_ => XS.iload X0.here hx rfl (hb hby at_66) rfl k_) ?_
    show OwnFin p e below s _ _ _ (s₁.setTop (mkF m 68 #[.val (.int pp), .val (.int pq), .val (.long qc1), .second, .val (.long qc2), .second, .val (.int ps1), .val (.int ps2), .val (.int (Int32.ofNat n)), .val (.int kd1), .val (.int kd2), .val (.int (Int32.ofNat i)), .val (.int (Int32.ofNat j)), .val (.int (Int32.ofNat k)), .unset, .unset, .unset, .unset] [(.int kd1)]))
    refine own_go (fun t_ k_ => XS.lloadN X0.here hx rfl (hb hby at_68) rfl k_) ?_
    show OwnFin p e below s _ _ _ (s₁.setTop (mkF m 69 #[.val (.int pp), .val (.int pq), .val (.long qc1), .second, .val (.long qc2), .second, .val (.int ps1), .val (.int ps2), .val (.int (Int32.ofNat n)), .val (.int kd1), .val (.int kd2), .val (.int (Int32.ofNat i)), .val (.int (Int32.ofNat j)), .val (.int (Int32.ofNat k)), .unset, .unset, .unset, .unset] [(.long qc1), (.int kd1)]))
    refine own_go (fun t_ k_ => XS.iload X0.here hx rfl (hb hby at_69) rfl k_) ?_
    show OwnFin p e below s _ _ _ (s₁.setTop (mkF m 71 #[.val (.int pp), .val (.int pq), .val (.long qc1), .second, .val (.long qc2), .second, .val (.int ps1), .val (.int ps2), .val (.int (Int32.ofNat n)), .val (.int kd1), .val (.int kd2), .val (.int (Int32.ofNat i)), .val (.int (Int32.ofNat j)), .val (.int (Int32.ofNat k)), .unset, .unset, .unset, .unset] [(.int ps1), (.long qc1), (.int kd1)]))
    obtain ⟨v1, T1, L1, X1, hQ1, st1⟩ := own_callS X0 hx hZ (y := (⟨"com/example/nearside/nearside/support/SplitDecimalArraySetPinLaw", "make", "(IJI)Lcom/example/nearside/nearside/support/SplitDecimal;"⟩ : MethodName)) hown (hw _ (List.mem_of_getElem? (i := 0) rfl)) (hw _ (List.mem_of_getElem? (i := 1) rfl)) (hw _ (List.mem_of_getElem? (i := 2) rfl)) (hw _ (List.mem_of_getElem? (i := 3) rfl)) (by decide) (W := 0) (rm1_0 l Z a0 hw [] kd1 qc1 ps1 h0 n0 Z0 hz1) (by decide) (by decide) (g := (mkF m 71 #[.val (.int pp), .val (.int pq), .val (.long qc1), .second, .val (.long qc2), .second, .val (.int ps1), .val (.int ps2), .val (.int (Int32.ofNat n)), .val (.int kd1), .val (.int kd2), .val (.int (Int32.ofNat i)), .val (.int (Int32.ofNat j)), .val (.int (Int32.ofNat k)), .unset, .unset, .unset, .unset] [(.int ps1), (.long qc1), (.int kd1)])) rfl (by rw [hml]; rfl) (argsL := [(.int kd1), (.long qc1), (.int ps1)]) (rest := []) (lenOf pd_0_0 rfl) rfl (by show 2 * 0 + _ ≤ _; exact Nat.le_of_eq rfl) (hb hby at_71) e0 rfl (by decide) (by decide)
    obtain ⟨rfl, Nq1, e1⟩ := hQ1
    have N1 := Fr.app N0 Nq1
    refine own_go st1 ?_
    show OwnFin p e below s _ _ _ (T1.setTop (mkF m 74 #[.val (.int pp), .val (.int pq), .val (.long qc1), .second, .val (.long qc2), .second, .val (.int ps1), .val (.int ps2), .val (.int (Int32.ofNat n)), .val (.int kd1), .val (.int kd2), .val (.int (Int32.ofNat i)), .val (.int (Int32.ofNat j)), .val (.int (Int32.ofNat k)), .unset, .unset, .unset, .unset] [.null]))
    refine own_go (fun t_ k_ => XS.astore X1.here hx rfl (hb hby at_74) rfl rfl (l' := #[.val (.int pp), .val (.int pq), .val (.long qc1), .second, .val (.long qc2), .second, .val (.int ps1), .val (.int ps2), .val (.int (Int32.ofNat n)), .val (.int kd1), .val (.int kd2), .val (.int (Int32.ofNat i)), .val (.int (Int32.ofNat j)), .val (.int (Int32.ofNat k)), .val .null, .unset, .unset, .unset]) rfl k_) ?_
    show OwnFin p e below s _ _ _ (T1.setTop (mkF m 76 #[.val (.int pp), .val (.int pq), .val (.long qc1), .second, .val (.long qc2), .second, .val (.int ps1), .val (.int ps2), .val (.int (Int32.ofNat n)), .val (.int kd1), .val (.int kd2), .val (.int (Int32.ofNat i)), .val (.int (Int32.ofNat j)), .val (.int (Int32.ofNat k)), .val .null, .unset, .unset, .unset] []))
    by_cases hz2 : kd2 = (0 : Int32)
    · refine own_go (fun t_ k_ => XS.iload X1.here hx rfl (hb hby at_76) rfl k_) ?_
      show OwnFin p e below s _ _ _ (T1.setTop (mkF m 78 #[.val (.int pp), .val (.int pq), .val (.long qc1), .second, .val (.long qc2), .second, .val (.int ps1), .val (.int ps2), .val (.int (Int32.ofNat n)), .val (.int kd1), .val (.int kd2), .val (.int (Int32.ofNat i)), .val (.int (Int32.ofNat j)), .val (.int (Int32.ofNat k)), .val .null, .unset, .unset, .unset] [(.int kd2)]))
      refine own_go (fun t_ k_ => XS.lload X1.here hx rfl (hb hby at_78) rfl k_) ?_
      show OwnFin p e below s _ _ _ (T1.setTop (mkF m 80 #[.val (.int pp), .val (.int pq), .val (.long qc1), .second, .val (.long qc2), .second, .val (.int ps1), .val (.int ps2), .val (.int (Int32.ofNat n)), .val (.int kd1), .val (.int kd2), .val (.int (Int32.ofNat i)), .val (.int (Int32.ofNat j)), .val (.int (Int32.ofNat k)), .val .null, .unset, .unset, .unset] [(.long qc2), (.int kd2)]))
      refine own_go (fun t_ k_ => XS.iload X1.here hx rfl (hb hby at_80) rfl k_) ?_
      show OwnFin p e below s _ _ _ (T1.setTop (mkF m 82 #[.val (.int pp), .val (.int pq), .val (.long qc1), .second, .val (.long qc2), .second, .val (.int ps1), .val (.int ps2), .val (.int (Int32.ofNat n)), .val (.int kd1), .val (.int kd2), .val (.int (Int32.ofNat i)), .val (.int (Int32.ofNat j)), .val (.int (Int32.ofNat k)), .val .null, .unset, .unset, .unset] [(.int ps2), (.long qc2), (.int kd2)]))
      obtain ⟨v2, T2, L2, X2, hQ2, st2⟩ := own_callS X1 hx hZ (y := (⟨"com/example/nearside/nearside/support/SplitDecimalArraySetPinLaw", "make", "(IJI)Lcom/example/nearside/nearside/support/SplitDecimal;"⟩ : MethodName)) hown (hw _ (List.mem_of_getElem? (i := 0) rfl)) (hw _ (List.mem_of_getElem? (i := 1) rfl)) (hw _ (List.mem_of_getElem? (i := 2) rfl)) (hw _ (List.mem_of_getElem? (i := 3) rfl)) (by decide) (W := 0) (rm1_0 l Z a0 hw [] kd2 qc2 ps2 h0 n0 Z0 hz2) (by decide) (by decide) (g := (mkF m 82 #[.val (.int pp), .val (.int pq), .val (.long qc1), .second, .val (.long qc2), .second, .val (.int ps1), .val (.int ps2), .val (.int (Int32.ofNat n)), .val (.int kd1), .val (.int kd2), .val (.int (Int32.ofNat i)), .val (.int (Int32.ofNat j)), .val (.int (Int32.ofNat k)), .val .null, .unset, .unset, .unset] [(.int ps2), (.long qc2), (.int kd2)])) rfl (by rw [hml]; rfl) (argsL := [(.int kd2), (.long qc2), (.int ps2)]) (rest := []) (lenOf pd_0_0 rfl) rfl (by show 2 * 0 + _ ≤ _; exact Nat.le_of_eq rfl) (hb hby at_82) e1 rfl (by decide) (by decide)
      obtain ⟨rfl, Nq2, e2⟩ := hQ2
      have N2 := Fr.app N1 Nq2
      refine own_go st2 ?_
      show OwnFin p e below s _ _ _ (T2.setTop (mkF m 85 #[.val (.int pp), .val (.int pq), .val (.long qc1), .second, .val (.long qc2), .second, .val (.int ps1), .val (.int ps2), .val (.int (Int32.ofNat n)), .val (.int kd1), .val (.int kd2), .val (.int (Int32.ofNat i)), .val (.int (Int32.ofNat j)), .val (.int (Int32.ofNat k)), .val .null, .unset, .unset, .unset] [.null]))
      refine own_go (fun t_ k_ => XS.astore X2.here hx rfl (hb hby at_85) rfl rfl (l' := #[.val (.int pp), .val (.int pq), .val (.long qc1), .second, .val (.long qc2), .second, .val (.int ps1), .val (.int ps2), .val (.int (Int32.ofNat n)), .val (.int kd1), .val (.int kd2), .val (.int (Int32.ofNat i)), .val (.int (Int32.ofNat j)), .val (.int (Int32.ofNat k)), .val .null, .val .null, .unset, .unset]) rfl k_) ?_
      show OwnFin p e below s _ _ _ (T2.setTop (mkF m 87 #[.val (.int pp), .val (.int pq), .val (.long qc1), .second, .val (.long qc2), .second, .val (.int ps1), .val (.int ps2), .val (.int (Int32.ofNat n)), .val (.int kd1), .val (.int kd2), .val (.int (Int32.ofNat i)), .val (.int (Int32.ofNat j)), .val (.int (Int32.ofNat k)), .val .null, .val .null, .unset, .unset] []))
      obtain ⟨T3, h3, X3, e3, E3, A3, D3, -, st3⟩ := newO X2 hx hZ hown (hw _ (List.mem_of_getElem? (i := 4) rfl)) (hw _ (List.mem_of_getElem? (i := 5) rfl)) (hw _ (List.mem_of_getElem? (i := 6) rfl)) e2 (g := (mkF m 87 #[.val (.int pp), .val (.int pq), .val (.long qc1), .second, .val (.long qc2), .second, .val (.int ps1), .val (.int ps2), .val (.int (Int32.ofNat n)), .val (.int kd1), .val (.int kd2), .val (.int (Int32.ofNat i)), .val (.int (Int32.ofNat j)), .val (.int (Int32.ofNat k)), .val .null, .val .null, .unset, .unset] [])) rfl (hb hby at_87) (by decide) (by decide)
      obtain ⟨b3, g3⟩ : ∃ z, z = h0.size := ⟨_, rfl⟩
      rw [← g3] at A3 D3 st3
      have g_b3 : n0 ≤ b3 := Nat.le_trans Z0 (Nat.le_of_eq g3.symm)
      have Z3 : n0 ≤ h3.size := Nat.le_trans Z0 E3.1
      have E_b3 := A3
      have F_compact_b3 : Fld Z h3 b3 "com/example/nearside/nearside/support/SplitDecimalArray" "compact" "[J" .null := D3 (Or.inr (hw _ (List.mem_of_getElem? (i := 15) rfl))) (ty := (.array .long)) (by decide)
      have F_scale_b3 : Fld Z h3 b3 "com/example/nearside/nearside/support/SplitDecimalArray" "scale" "[I" .null := D3 (Or.inr (hw _ (List.mem_of_getElem? (i := 18) rfl))) (ty := (.array .int)) (by decide)
      have F_whole_b3 : Fld Z h3 b3 "com/example/nearside/nearside/support/SplitDecimalArray" "whole" "[Lcom/example/nearside/nearside/support/SplitDecimal;" .null := D3 (Or.inl (hw _ (List.mem_of_getElem? (i := 30) rfl))) (ty := (.array (.object "com/example/nearside/nearside/support/SplitDecimal"))) (by decide)
      refine own_go st3 ?_
      show OwnFin p e below s _ _ _ (T3.setTop (mkF m 90 #[.val (.int pp), .val (.int pq), .val (.long qc1), .second, .val (.long qc2), .second, .val (.int ps1), .val (.int ps2), .val (.int (Int32.ofNat n)), .val (.int kd1), .val (.int kd2), .val (.int (Int32.ofNat i)), .val (.int (Int32.ofNat j)), .val (.int (Int32.ofNat k)), .val .null, .val .null, .unset, .unset] [(.ref b3)]))
      refine own_go (fun t_ k_ => XS.dup X3.here hx rfl (hb hby at_90) rfl rfl k_) ?_
      show OwnFin p e below s _ _ _ (T3.setTop (mkF m 91 #[.val (.int pp), .val (.int pq), .val (.long qc1), .second, .val (.long qc2), .second, .val (.int ps1), .val (.int ps2), .val (.int (Int32.ofNat n)), .val (.int kd1), .val (.int kd2), .val (.int (Int32.ofNat i)), .val (.int (Int32.ofNat j)), .val (.int (Int32.ofNat k)), .val .null, .val .null, .unset, .unset] [(.ref b3), (.ref b3)]))
      refine own_go (fun t_ k_ => XS.iload X3.here hx rfl (hb hby at_91) rfl k_) ?_
      show OwnFin p e below s _ _ _ (T3.setTop (mkF m 93 #[.val (.int pp), .val (.int pq), .val (.long qc1), .second, .val (.long qc2), .second, .val (.int ps1), .val (.int ps2), .val (.int (Int32.ofNat n)), .val (.int kd1), .val (.int kd2), .val (.int (Int32.ofNat i)), .val (.int (Int32.ofNat j)), .val (.int (Int32.ofNat k)), .val .null, .val .null, .unset, .unset] [(.int (Int32.ofNat n)), (.ref b3), (.ref b3)]))
      obtain ⟨v4, T4, L4, X4, hQ4, st4⟩ := own_callI X3 hx hZ (y := (⟨"com/example/nearside/nearside/support/SplitDecimalArray", "<init>", "(I)V"⟩ : MethodName)) rfl hown (hw _ (List.mem_of_getElem? (i := 7) rfl)) (hw _ (List.mem_of_getElem? (i := 8) rfl)) (hw _ (List.mem_of_getElem? (i := 6) rfl)) (hw _ (List.mem_of_getElem? (i := 9) rfl)) (by decide) (W := 1) (rm2 l Z a0 hw [] b3 (Int32.ofNat n) n h3 n0 Z3 rfl hn4 E_b3 g_b3 F_compact_b3 F_scale_b3 F_whole_b3) (by decide) (by decide) (g := (mkF m 93 #[.val (.int pp), .val (.int pq), .val (.long qc1), .second, .val (.long qc2), .second, .val (.int ps1), .val (.int ps2), .val (.int (Int32.ofNat n)), .val (.int kd1), .val (.int kd2), .val (.int (Int32.ofNat i)), .val (.int (Int32.ofNat j)), .val (.int (Int32.ofNat k)), .val .null, .val .null, .unset, .unset] [(.int (Int32.ofNat n)), (.ref b3), (.ref b3)])) rfl (by rw [hml]; rfl) (a := b3) (argsL := [(.int (Int32.ofNat n))]) (rest := [(.ref b3)]) (lenOf pd_0_1 rfl) rfl (by show 2 * 0 + _ ≤ _; exact Nat.le_of_eq rfl) (hb hby at_93) e3 rfl (by decide) (by decide)
      obtain ⟨rfl, Nq4, Kq4, E_ao, ca, sc, sz1, sz2, ne_ca_sc, F_compact, F_scale, F_whole, V_ca, V_sc⟩ := hQ4
      have N4 := Fr.app N2 Nq4
      have g_ca : n0 ≤ ca := Nat.le_trans Z3 sz1
      have g_sc : n0 ≤ sc := Nat.le_trans Z3 sz2
      have ne_b3_ca : b3 ≠ ca := Nat.ne_of_lt (Nat.lt_of_lt_of_le E_b3.lt sz1)
      have ne_b3_sc : b3 ≠ sc := Nat.ne_of_lt (Nat.lt_of_lt_of_le E_b3.lt sz2)
      have E_b3_4 := E_b3.keep Kq4
      have Z4 : n0 ≤ T4.heap.size := Nat.le_trans Z3 Kq4.1
      refine own_go st4 ?_
      show OwnFin p e below s _ _ _ (T4.setTop (mkF m 96 #[.val (.int pp), .val (.int pq), .val (.long qc1), .second, .val (.long qc2), .second, .val (.int ps1), .val (.int ps2), .val (.int (Int32.ofNat n)), .val (.int kd1), .val (.int kd2), .val (.int (Int32.ofNat i)), .val (.int (Int32.ofNat j)), .val (.int (Int32.ofNat k)), .val .null, .val .null, .unset, .unset] [(.ref b3)]))
      refine own_go (fun t_ k_ => XS.astore X4.here hx rfl (hb hby at_96) rfl rfl (l' := #[.val (.int pp), .val (.int pq), .val (.long qc1), .second, .val (.long qc2), .second, .val (.int ps1), .val (.int ps2), .val (.int (Int32.ofNat n)), .val (.int kd1), .val (.int kd2), .val (.int (Int32.ofNat i)), .val (.int (Int32.ofNat j)), .val (.int (Int32.ofNat k)), .val .null, .val .null, .val (.ref b3), .unset]) rfl k_) ?_
      show OwnFin p e below s _ _ _ (T4.setTop (mkF m 98 #[.val (.int pp), .val (.int pq), .val (.long qc1), .second, .val (.long qc2), .second, .val (.int ps1), .val (.int ps2), .val (.int (Int32.ofNat n)), .val (.int kd1), .val (.int kd2), .val (.int (Int32.ofNat i)), .val (.int (Int32.ofNat j)), .val (.int (Int32.ofNat k)), .val .null, .val .null, .val (.ref b3), .unset] []))
      refine own_go (fun t_ k_ => XS.aload X4.here hx rfl (hb hby at_98) rfl rfl k_) ?_
      show OwnFin p e below s _ _ _ (T4.setTop (mkF m 100 #[.val (.int pp), .val (.int pq), .val (.long qc1), .second, .val (.long qc2), .second, .val (.int ps1), .val (.int ps2), .val (.int (Int32.ofNat n)), .val (.int kd1), .val (.int kd2), .val (.int (Int32.ofNat i)), .val (.int (Int32.ofNat j)), .val (.int (Int32.ofNat k)), .val .null, .val .null, .val (.ref b3), .unset] [(.ref b3)]))
      refine own_go (fun t_ k_ => XS.iload X4.here hx rfl (hb hby at_100) rfl k_) ?_
      show OwnFin p e below s _ _ _ (T4.setTop (mkF m 102 #[.val (.int pp), .val (.int pq), .val (.long qc1), .second, .val (.long qc2), .second, .val (.int ps1), .val (.int ps2), .val (.int (Int32.ofNat n)), .val (.int kd1), .val (.int kd2), .val (.int (Int32.ofNat i)), .val (.int (Int32.ofNat j)), .val (.int (Int32.ofNat k)), .val .null, .val .null, .val (.ref b3), .unset] [(.int (Int32.ofNat i)), (.ref b3)]))
      refine own_go (fun t_ k_ => XS.aload X4.here hx rfl (hb hby at_102) rfl rfl k_) ?_
      show OwnFin p e below s _ _ _ (T4.setTop (mkF m 104 #[.val (.int pp), .val (.int pq), .val (.long qc1), .second, .val (.long qc2), .second, .val (.int ps1), .val (.int ps2), .val (.int (Int32.ofNat n)), .val (.int kd1), .val (.int kd2), .val (.int (Int32.ofNat i)), .val (.int (Int32.ofNat j)), .val (.int (Int32.ofNat k)), .val .null, .val .null, .val (.ref b3), .unset] [.null, (.int (Int32.ofNat i)), (.ref b3)]))
      obtain ⟨v5, T5, L5, X5, hQ5, st5⟩ := own_callV X4 hx hZ (y := (⟨"com/example/nearside/nearside/support/SplitDecimalArray", "set", "(ILcom/example/nearside/nearside/support/SplitDecimal;)V"⟩ : MethodName)) (z := (⟨"com/example/nearside/nearside/support/SplitDecimalArray", "set", "(ILcom/example/nearside/nearside/support/SplitDecimal;)V"⟩ : MethodName)) hown (hw _ (List.mem_of_getElem? (i := 24) rfl)) (hw _ (List.mem_of_getElem? (i := 25) rfl)) (notFace_of_selects (args := #[]) (mvT hZ (hw _ (List.mem_of_getElem? (i := 27) rfl)))) (hw _ (List.mem_of_getElem? (i := 27) rfl)) (hw _ (List.mem_of_getElem? (i := 26) rfl)) (hw _ (List.mem_of_getElem? (i := 6) rfl)) (hw _ (List.mem_of_getElem? (i := 28) rfl)) (by decide) (W := 0) (rm5_N0 l Z a0 hw [] b3 (Int32.ofNat i) ca sc n i (fun _ => (-9223372036854775808 : Int64)) (fun _ => (0 : Int32)) T4.heap n0 Z4 rfl hin hn4 E_ao F_compact F_scale F_whole V_ca V_sc ne_b3_ca ne_b3_sc ne_ca_sc g_ca) (by decide) (by decide) E_ao (g := (mkF m 104 #[.val (.int pp), .val (.int pq), .val (.long qc1), .second, .val (.long qc2), .second, .val (.int ps1), .val (.int ps2), .val (.int (Int32.ofNat n)), .val (.int kd1), .val (.int kd2), .val (.int (Int32.ofNat i)), .val (.int (Int32.ofNat j)), .val (.int (Int32.ofNat k)), .val .null, .val .null, .val (.ref b3), .unset] [.null, (.int (Int32.ofNat i)), (.ref b3)])) rfl (by rw [hml]; rfl) (argsL := [(.int (Int32.ofNat i)), .null]) (rest := []) (lenOf pd_0_4 rfl) rfl (by show 2 * 0 + _ ≤ _; exact Nat.le_of_eq rfl) (hb hby at_104) rfl rfl (by decide) (by decide)
      obtain ⟨rfl, Nq5, Kq5, Vc5⟩ := hQ5
      have N5 := Fr.app N4 Nq5
      have E_ao_5 := E_ao.keep Kq5
      have F_compact_5 := F_compact.keep Kq5 (ninS ne_b3_ca nin0)
      have F_scale_5 := F_scale.keep Kq5 (ninS ne_b3_ca nin0)
      have F_whole_5 := F_whole.keep Kq5 (ninS ne_b3_ca nin0)
      have V_sc_5 := V_sc.keep Kq5 (ninS (Ne.symm ne_ca_sc) nin0)
      have Z5 : n0 ≤ T5.heap.size := Nat.le_trans Z4 Kq5.1
      refine own_go st5 ?_
      show OwnFin p e below s _ _ _ (T5.setTop (mkF m 107 #[.val (.int pp), .val (.int pq), .val (.long qc1), .second, .val (.long qc2), .second, .val (.int ps1), .val (.int ps2), .val (.int (Int32.ofNat n)), .val (.int kd1), .val (.int kd2), .val (.int (Int32.ofNat i)), .val (.int (Int32.ofNat j)), .val (.int (Int32.ofNat k)), .val .null, .val .null, .val (.ref b3), .unset] []))
      refine own_go (fun t_ k_ => XS.aload X5.here hx rfl (hb hby at_107) rfl rfl k_) ?_
      show OwnFin p e below s _ _ _ (T5.setTop (mkF m 109 #[.val (.int pp), .val (.int pq), .val (.long qc1), .second, .val (.long qc2), .second, .val (.int ps1), .val (.int ps2), .val (.int (Int32.ofNat n)), .val (.int kd1), .val (.int kd2), .val (.int (Int32.ofNat i)), .val (.int (Int32.ofNat j)), .val (.int (Int32.ofNat k)), .val .null, .val .null, .val (.ref b3), .unset] [(.ref b3)]))
      refine own_go (fun t_ k_ => XS.iload X5.here hx rfl (hb hby at_109) rfl k_) ?_
      show OwnFin p e below s _ _ _ (T5.setTop (mkF m 111 #[.val (.int pp), .val (.int pq), .val (.long qc1), .second, .val (.long qc2), .second, .val (.int ps1), .val (.int ps2), .val (.int (Int32.ofNat n)), .val (.int kd1), .val (.int kd2), .val (.int (Int32.ofNat i)), .val (.int (Int32.ofNat j)), .val (.int (Int32.ofNat k)), .val .null, .val .null, .val (.ref b3), .unset] [(.int (Int32.ofNat j)), (.ref b3)]))
      refine own_go (fun t_ k_ => XS.aload X5.here hx rfl (hb hby at_111) rfl rfl k_) ?_
      show OwnFin p e below s _ _ _ (T5.setTop (mkF m 113 #[.val (.int pp), .val (.int pq), .val (.long qc1), .second, .val (.long qc2), .second, .val (.int ps1), .val (.int ps2), .val (.int (Int32.ofNat n)), .val (.int kd1), .val (.int kd2), .val (.int (Int32.ofNat i)), .val (.int (Int32.ofNat j)), .val (.int (Int32.ofNat k)), .val .null, .val .null, .val (.ref b3), .unset] [.null, (.int (Int32.ofNat j)), (.ref b3)]))
      obtain ⟨v6, T6, L6, X6, hQ6, st6⟩ := own_callV X5 hx hZ (y := (⟨"com/example/nearside/nearside/support/SplitDecimalArray", "set", "(ILcom/example/nearside/nearside/support/SplitDecimal;)V"⟩ : MethodName)) (z := (⟨"com/example/nearside/nearside/support/SplitDecimalArray", "set", "(ILcom/example/nearside/nearside/support/SplitDecimal;)V"⟩ : MethodName)) hown (hw _ (List.mem_of_getElem? (i := 24) rfl)) (hw _ (List.mem_of_getElem? (i := 25) rfl)) (notFace_of_selects (args := #[]) (mvT hZ (hw _ (List.mem_of_getElem? (i := 27) rfl)))) (hw _ (List.mem_of_getElem? (i := 27) rfl)) (hw _ (List.mem_of_getElem? (i := 26) rfl)) (hw _ (List.mem_of_getElem? (i := 6) rfl)) (hw _ (List.mem_of_getElem? (i := 28) rfl)) (by decide) (W := 0) (rm5_N0 l Z a0 hw [] b3 (Int32.ofNat j) ca sc n j (fun z => if z = i then (-9223372036854775808 : Int64) else (fun _ => (-9223372036854775808 : Int64)) z) (fun _ => (0 : Int32)) T5.heap n0 Z5 rfl hjn hn4 E_ao_5 F_compact_5 F_scale_5 F_whole_5 Vc5 V_sc_5 ne_b3_ca ne_b3_sc ne_ca_sc g_ca) (by decide) (by decide) E_ao_5 (g := (mkF m 113 #[.val (.int pp), .val (.int pq), .val (.long qc1), .second, .val (.long qc2), .second, .val (.int ps1), .val (.int ps2), .val (.int (Int32.ofNat n)), .val (.int kd1), .val (.int kd2), .val (.int (Int32.ofNat i)), .val (.int (Int32.ofNat j)), .val (.int (Int32.ofNat k)), .val .null, .val .null, .val (.ref b3), .unset] [.null, (.int (Int32.ofNat j)), (.ref b3)])) rfl (by rw [hml]; rfl) (argsL := [(.int (Int32.ofNat j)), .null]) (rest := []) (lenOf pd_0_4 rfl) rfl (by show 2 * 0 + _ ≤ _; exact Nat.le_of_eq rfl) (hb hby at_113) rfl rfl (by decide) (by decide)
      obtain ⟨rfl, Nq6, Kq6, Vc6⟩ := hQ6
      have N6 := Fr.app N5 Nq6
      have E_ao_6 := E_ao_5.keep Kq6
      have F_compact_6 := F_compact_5.keep Kq6 (ninS ne_b3_ca nin0)
      have F_scale_6 := F_scale_5.keep Kq6 (ninS ne_b3_ca nin0)
      have F_whole_6 := F_whole_5.keep Kq6 (ninS ne_b3_ca nin0)
      have V_sc_6 := V_sc_5.keep Kq6 (ninS (Ne.symm ne_ca_sc) nin0)
      have Z6 : n0 ≤ T6.heap.size := Nat.le_trans Z5 Kq6.1
      refine own_go st6 ?_
      show OwnFin p e below s _ _ _ (T6.setTop (mkF m 116 #[.val (.int pp), .val (.int pq), .val (.long qc1), .second, .val (.long qc2), .second, .val (.int ps1), .val (.int ps2), .val (.int (Int32.ofNat n)), .val (.int kd1), .val (.int kd2), .val (.int (Int32.ofNat i)), .val (.int (Int32.ofNat j)), .val (.int (Int32.ofNat k)), .val .null, .val .null, .val (.ref b3), .unset] []))
      refine own_go (fun t_ k_ => XS.aload X6.here hx rfl (hb hby at_116) rfl rfl k_) ?_
      show OwnFin p e below s _ _ _ (T6.setTop (mkF m 118 #[.val (.int pp), .val (.int pq), .val (.long qc1), .second, .val (.long qc2), .second, .val (.int ps1), .val (.int ps2), .val (.int (Int32.ofNat n)), .val (.int kd1), .val (.int kd2), .val (.int (Int32.ofNat i)), .val (.int (Int32.ofNat j)), .val (.int (Int32.ofNat k)), .val .null, .val .null, .val (.ref b3), .unset] [(.ref b3)]))
      refine own_go (fun t_ k_ => XS.iload X6.here hx rfl (hb hby at_118) rfl k_) ?_
      show OwnFin p e below s _ _ _ (T6.setTop (mkF m 120 #[.val (.int pp), .val (.int pq), .val (.long qc1), .second, .val (.long qc2), .second, .val (.int ps1), .val (.int ps2), .val (.int (Int32.ofNat n)), .val (.int kd1), .val (.int kd2), .val (.int (Int32.ofNat i)), .val (.int (Int32.ofNat j)), .val (.int (Int32.ofNat k)), .val .null, .val .null, .val (.ref b3), .unset] [(.int (Int32.ofNat j)), (.ref b3)]))
      obtain ⟨v7, T7, L7, X7, hQ7, st7⟩ := own_callV X6 hx hZ (y := (⟨"com/example/nearside/nearside/support/SplitDecimalArray", "get", "(I)Lcom/example/nearside/nearside/support/SplitDecimal;"⟩ : MethodName)) (z := (⟨"com/example/nearside/nearside/support/SplitDecimalArray", "get", "(I)Lcom/example/nearside/nearside/support/SplitDecimal;"⟩ : MethodName)) hown (hw _ (List.mem_of_getElem? (i := 31) rfl)) (hw _ (List.mem_of_getElem? (i := 32) rfl)) (notFace_of_selects (args := #[]) (mvT hZ (hw _ (List.mem_of_getElem? (i := 34) rfl)))) (hw _ (List.mem_of_getElem? (i := 34) rfl)) (hw _ (List.mem_of_getElem? (i := 33) rfl)) (hw _ (List.mem_of_getElem? (i := 6) rfl)) (hw _ (List.mem_of_getElem? (i := 35) rfl)) (by decide) (W := 0) (rm6_N l Z a0 hw [] b3 (Int32.ofNat j) ca n j (fun z => if z = j then (-9223372036854775808 : Int64) else (fun z => if z = i then (-9223372036854775808 : Int64) else (fun _ => (-9223372036854775808 : Int64)) z) z) T6.heap n0 Z6 rfl hjn F_compact_6 F_whole_6 Vc6 (by (try dsimp only); rw [if_pos rfl])) (by decide) (by decide) E_ao_6 (g := (mkF m 120 #[.val (.int pp), .val (.int pq), .val (.long qc1), .second, .val (.long qc2), .second, .val (.int ps1), .val (.int ps2), .val (.int (Int32.ofNat n)), .val (.int kd1), .val (.int kd2), .val (.int (Int32.ofNat i)), .val (.int (Int32.ofNat j)), .val (.int (Int32.ofNat k)), .val .null, .val .null, .val (.ref b3), .unset] [(.int (Int32.ofNat j)), (.ref b3)])) rfl (by rw [hml]; rfl) (argsL := [(.int (Int32.ofNat j))]) (rest := []) (lenOf pd_0_5 rfl) rfl (by show 2 * 0 + _ ≤ _; exact Nat.le_of_eq rfl) (hb hby at_120) rfl rfl (by decide) (by decide)
      obtain ⟨rfl, Nq7, e7⟩ := hQ7
      have N7 := Fr.app N6 Nq7
      refine own_go st7 ?_
      show OwnFin p e below s _ _ _ (T7.setTop (mkF m 123 #[.val (.int pp), .val (.int pq), .val (.long qc1), .second, .val (.long qc2), .second, .val (.int ps1), .val (.int ps2), .val (.int (Int32.ofNat n)), .val (.int kd1), .val (.int kd2), .val (.int (Int32.ofNat i)), .val (.int (Int32.ofNat j)), .val (.int (Int32.ofNat k)), .val .null, .val .null, .val (.ref b3), .unset] [.null]))
      refine own_go (fun t_ k_ => XS.aload X7.here hx rfl (hb hby at_123) rfl rfl k_) ?_
      show OwnFin p e below s _ _ _ (T7.setTop (mkF m 125 #[.val (.int pp), .val (.int pq), .val (.long qc1), .second, .val (.long qc2), .second, .val (.int ps1), .val (.int ps2), .val (.int (Int32.ofNat n)), .val (.int kd1), .val (.int kd2), .val (.int (Int32.ofNat i)), .val (.int (Int32.ofNat j)), .val (.int (Int32.ofNat k)), .val .null, .val .null, .val (.ref b3), .unset] [.null, .null]))
      obtain ⟨v8, T8, L8, X8, hQ8, st8⟩ := own_callS X7 hx hZ (y := (⟨"com/example/nearside/nearside/support/SplitDecimalArraySetPinLaw", "holds", "(Lcom/example/nearside/nearside/support/SplitDecimal;Lcom/example/nearside/nearside/support/SplitDecimal;)Z"⟩ : MethodName)) hown (hw _ (List.mem_of_getElem? (i := 36) rfl)) (hw _ (List.mem_of_getElem? (i := 37) rfl)) (hw _ (List.mem_of_getElem? (i := 2) rfl)) (hw _ (List.mem_of_getElem? (i := 38) rfl)) (by decide) (W := 0) (rm7_N l Z a0 hw []  T6.heap n0 Z6) (by decide) (by decide) (g := (mkF m 125 #[.val (.int pp), .val (.int pq), .val (.long qc1), .second, .val (.long qc2), .second, .val (.int ps1), .val (.int ps2), .val (.int (Int32.ofNat n)), .val (.int kd1), .val (.int kd2), .val (.int (Int32.ofNat i)), .val (.int (Int32.ofNat j)), .val (.int (Int32.ofNat k)), .val .null, .val .null, .val (.ref b3), .unset] [.null, .null])) rfl (by rw [hml]; rfl) (argsL := [.null, .null]) (rest := []) (lenOf pd_0_6 rfl) rfl (by show 2 * 0 + _ ≤ _; exact Nat.le_of_eq rfl) (hb hby at_125) e7 rfl (by decide) (by decide)
      obtain ⟨rfl, Nq8, e8⟩ := hQ8
      have N8 := Fr.app N7 Nq8
      refine own_go st8 ?_
      show OwnFin p e below s _ _ _ (T8.setTop (mkF m 128 #[.val (.int pp), .val (.int pq), .val (.long qc1), .second, .val (.long qc2), .second, .val (.int ps1), .val (.int ps2), .val (.int (Int32.ofNat n)), .val (.int kd1), .val (.int kd2), .val (.int (Int32.ofNat i)), .val (.int (Int32.ofNat j)), .val (.int (Int32.ofNat k)), .val .null, .val .null, .val (.ref b3), .unset] [(.int (1 : Int32))]))
      refine own_go (fun t_ k_ => XS.istore X8.here hx rfl (hb hby at_128) rfl (l' := #[.val (.int pp), .val (.int pq), .val (.long qc1), .second, .val (.long qc2), .second, .val (.int ps1), .val (.int ps2), .val (.int (Int32.ofNat n)), .val (.int kd1), .val (.int kd2), .val (.int (Int32.ofNat i)), .val (.int (Int32.ofNat j)), .val (.int (Int32.ofNat k)), .val .null, .val .null, .val (.ref b3), .val (.int (1 : Int32))]) rfl k_) ?_
      show OwnFin p e below s _ _ _ (T8.setTop (mkF m 130 #[.val (.int pp), .val (.int pq), .val (.long qc1), .second, .val (.long qc2), .second, .val (.int ps1), .val (.int ps2), .val (.int (Int32.ofNat n)), .val (.int kd1), .val (.int kd2), .val (.int (Int32.ofNat i)), .val (.int (Int32.ofNat j)), .val (.int (Int32.ofNat k)), .val .null, .val .null, .val (.ref b3), .val (.int (1 : Int32))] []))
      by_cases hij : i = j
      · refine own_go (fun t_ k_ => XS.iload X8.here hx rfl (hb hby at_130) rfl k_) ?_
        show OwnFin p e below s _ _ _ (T8.setTop (mkF m 132 #[.val (.int pp), .val (.int pq), .val (.long qc1), .second, .val (.long qc2), .second, .val (.int ps1), .val (.int ps2), .val (.int (Int32.ofNat n)), .val (.int kd1), .val (.int kd2), .val (.int (Int32.ofNat i)), .val (.int (Int32.ofNat j)), .val (.int (Int32.ofNat k)), .val .null, .val .null, .val (.ref b3), .val (.int (1 : Int32))] [(.int (Int32.ofNat i))]))
        refine own_go (fun t_ k_ => XS.iload X8.here hx rfl (hb hby at_132) rfl k_) ?_
        show OwnFin p e below s _ _ _ (T8.setTop (mkF m 134 #[.val (.int pp), .val (.int pq), .val (.long qc1), .second, .val (.long qc2), .second, .val (.int ps1), .val (.int ps2), .val (.int (Int32.ofNat n)), .val (.int kd1), .val (.int kd2), .val (.int (Int32.ofNat i)), .val (.int (Int32.ofNat j)), .val (.int (Int32.ofNat k)), .val .null, .val .null, .val (.ref b3), .val (.int (1 : Int32))] [(.int (Int32.ofNat j)), (.int (Int32.ofNat i))]))
        have hc134 : (Int32.ofNat i) = (Int32.ofNat j) := by rw [hij]
        refine own_go (fun t_ k_ => XS.icmpYes X8.here hx rfl (pc0 := 134) (pc' := 164) rfl (hb hby at_134) rfl (teq hc134).1 (by decide) (by decide) k_) ?_
        show OwnFin p e below s _ _ _ (T8.setTop (mkF m 164 #[.val (.int pp), .val (.int pq), .val (.long qc1), .second, .val (.long qc2), .second, .val (.int ps1), .val (.int ps2), .val (.int (Int32.ofNat n)), .val (.int kd1), .val (.int kd2), .val (.int (Int32.ofNat i)), .val (.int (Int32.ofNat j)), .val (.int (Int32.ofNat k)), .val .null, .val .null, .val (.ref b3), .val (.int (1 : Int32))] []))
        by_cases hki : k = i
        · refine own_go (fun t_ k_ => XS.iload X8.here hx rfl (hb hby at_164) rfl k_) ?_
          show OwnFin p e below s _ _ _ (T8.setTop (mkF m 166 #[.val (.int pp), .val (.int pq), .val (.long qc1), .second, .val (.long qc2), .second, .val (.int ps1), .val (.int ps2), .val (.int (Int32.ofNat n)), .val (.int kd1), .val (.int kd2), .val (.int (Int32.ofNat i)), .val (.int (Int32.ofNat j)), .val (.int (Int32.ofNat k)), .val .null, .val .null, .val (.ref b3), .val (.int (1 : Int32))] [(.int (Int32.ofNat k))]))
          refine own_go (fun t_ k_ => XS.iload X8.here hx rfl (hb hby at_166) rfl k_) ?_
          show OwnFin p e below s _ _ _ (T8.setTop (mkF m 168 #[.val (.int pp), .val (.int pq), .val (.long qc1), .second, .val (.long qc2), .second, .val (.int ps1), .val (.int ps2), .val (.int (Int32.ofNat n)), .val (.int kd1), .val (.int kd2), .val (.int (Int32.ofNat i)), .val (.int (Int32.ofNat j)), .val (.int (Int32.ofNat k)), .val .null, .val .null, .val (.ref b3), .val (.int (1 : Int32))] [(.int (Int32.ofNat i)), (.int (Int32.ofNat k))]))
          have hc168 : (Int32.ofNat k) = (Int32.ofNat i) := by rw [hki]
          refine own_go (fun t_ k_ => XS.icmpYes X8.here hx rfl (pc0 := 168) (pc' := 200) rfl (hb hby at_168) rfl (teq hc168).1 (by decide) (by decide) k_) ?_
          show OwnFin p e below s _ _ _ (T8.setTop (mkF m 200 #[.val (.int pp), .val (.int pq), .val (.long qc1), .second, .val (.long qc2), .second, .val (.int ps1), .val (.int ps2), .val (.int (Int32.ofNat n)), .val (.int kd1), .val (.int kd2), .val (.int (Int32.ofNat i)), .val (.int (Int32.ofNat j)), .val (.int (Int32.ofNat k)), .val .null, .val .null, .val (.ref b3), .val (.int (1 : Int32))] []))
          refine own_go (fun t_ k_ => XS.iload X8.here hx rfl (hb hby at_200) rfl k_) ?_
          show OwnFin p e below s _ _ _ (T8.setTop (mkF m 202 #[.val (.int pp), .val (.int pq), .val (.long qc1), .second, .val (.long qc2), .second, .val (.int ps1), .val (.int ps2), .val (.int (Int32.ofNat n)), .val (.int kd1), .val (.int kd2), .val (.int (Int32.ofNat i)), .val (.int (Int32.ofNat j)), .val (.int (Int32.ofNat k)), .val .null, .val .null, .val (.ref b3), .val (.int (1 : Int32))] [(.int (1 : Int32))]))
          refine own_ret X8 (v := some (.int (1 : Int32))) hlk (fun hh => by rw [hret] at hh; cases hh) (fun fs hr => retN X8 hx (t := .boolean) hret (by simp) (hb hby at_202) hr) (by decide) (by decide) ?_
          exact ⟨rfl, N8⟩
        · refine own_go (fun t_ k_ => XS.iload X8.here hx rfl (hb hby at_164) rfl k_) ?_
          show OwnFin p e below s _ _ _ (T8.setTop (mkF m 166 #[.val (.int pp), .val (.int pq), .val (.long qc1), .second, .val (.long qc2), .second, .val (.int ps1), .val (.int ps2), .val (.int (Int32.ofNat n)), .val (.int kd1), .val (.int kd2), .val (.int (Int32.ofNat i)), .val (.int (Int32.ofNat j)), .val (.int (Int32.ofNat k)), .val .null, .val .null, .val (.ref b3), .val (.int (1 : Int32))] [(.int (Int32.ofNat k))]))
          refine own_go (fun t_ k_ => XS.iload X8.here hx rfl (hb hby at_166) rfl k_) ?_
          show OwnFin p e below s _ _ _ (T8.setTop (mkF m 168 #[.val (.int pp), .val (.int pq), .val (.long qc1), .second, .val (.long qc2), .second, .val (.int ps1), .val (.int ps2), .val (.int (Int32.ofNat n)), .val (.int kd1), .val (.int kd2), .val (.int (Int32.ofNat i)), .val (.int (Int32.ofNat j)), .val (.int (Int32.ofNat k)), .val .null, .val .null, .val (.ref b3), .val (.int (1 : Int32))] [(.int (Int32.ofNat i)), (.int (Int32.ofNat k))]))
          have hc168 : ¬ ((Int32.ofNat k) = (Int32.ofNat i)) := fun q => hki (own_ofNat_inj (by omega) (by omega) q)
          refine own_go (fun t_ k_ => XS.icmpNo X8.here hx rfl (hb hby at_168) rfl (feq hc168).1 k_) ?_
          show OwnFin p e below s _ _ _ (T8.setTop (mkF m 171 #[.val (.int pp), .val (.int pq), .val (.long qc1), .second, .val (.long qc2), .second, .val (.int ps1), .val (.int ps2), .val (.int (Int32.ofNat n)), .val (.int kd1), .val (.int kd2), .val (.int (Int32.ofNat i)), .val (.int (Int32.ofNat j)), .val (.int (Int32.ofNat k)), .val .null, .val .null, .val (.ref b3), .val (.int (1 : Int32))] []))
          by_cases hkj : k = j
          · refine own_go (fun t_ k_ => XS.iload X8.here hx rfl (hb hby at_171) rfl k_) ?_
            show OwnFin p e below s _ _ _ (T8.setTop (mkF m 173 #[.val (.int pp), .val (.int pq), .val (.long qc1), .second, .val (.long qc2), .second, .val (.int ps1), .val (.int ps2), .val (.int (Int32.ofNat n)), .val (.int kd1), .val (.int kd2), .val (.int (Int32.ofNat i)), .val (.int (Int32.ofNat j)), .val (.int (Int32.ofNat k)), .val .null, .val .null, .val (.ref b3), .val (.int (1 : Int32))] [(.int (Int32.ofNat k))]))
            refine own_go (fun t_ k_ => XS.iload X8.here hx rfl (hb hby at_173) rfl k_) ?_
            show OwnFin p e below s _ _ _ (T8.setTop (mkF m 175 #[.val (.int pp), .val (.int pq), .val (.long qc1), .second, .val (.long qc2), .second, .val (.int ps1), .val (.int ps2), .val (.int (Int32.ofNat n)), .val (.int kd1), .val (.int kd2), .val (.int (Int32.ofNat i)), .val (.int (Int32.ofNat j)), .val (.int (Int32.ofNat k)), .val .null, .val .null, .val (.ref b3), .val (.int (1 : Int32))] [(.int (Int32.ofNat j)), (.int (Int32.ofNat k))]))
            have hc175 : (Int32.ofNat k) = (Int32.ofNat j) := by rw [hkj]
            refine own_go (fun t_ k_ => XS.icmpYes X8.here hx rfl (pc0 := 175) (pc' := 200) rfl (hb hby at_175) rfl (teq hc175).1 (by decide) (by decide) k_) ?_
            show OwnFin p e below s _ _ _ (T8.setTop (mkF m 200 #[.val (.int pp), .val (.int pq), .val (.long qc1), .second, .val (.long qc2), .second, .val (.int ps1), .val (.int ps2), .val (.int (Int32.ofNat n)), .val (.int kd1), .val (.int kd2), .val (.int (Int32.ofNat i)), .val (.int (Int32.ofNat j)), .val (.int (Int32.ofNat k)), .val .null, .val .null, .val (.ref b3), .val (.int (1 : Int32))] []))
            refine own_go (fun t_ k_ => XS.iload X8.here hx rfl (hb hby at_200) rfl k_) ?_
            show OwnFin p e below s _ _ _ (T8.setTop (mkF m 202 #[.val (.int pp), .val (.int pq), .val (.long qc1), .second, .val (.long qc2), .second, .val (.int ps1), .val (.int ps2), .val (.int (Int32.ofNat n)), .val (.int kd1), .val (.int kd2), .val (.int (Int32.ofNat i)), .val (.int (Int32.ofNat j)), .val (.int (Int32.ofNat k)), .val .null, .val .null, .val (.ref b3), .val (.int (1 : Int32))] [(.int (1 : Int32))]))
            refine own_ret X8 (v := some (.int (1 : Int32))) hlk (fun hh => by rw [hret] at hh; cases hh) (fun fs hr => retN X8 hx (t := .boolean) hret (by simp) (hb hby at_202) hr) (by decide) (by decide) ?_
            exact ⟨rfl, N8⟩
          · refine own_go (fun t_ k_ => XS.iload X8.here hx rfl (hb hby at_171) rfl k_) ?_
            show OwnFin p e below s _ _ _ (T8.setTop (mkF m 173 #[.val (.int pp), .val (.int pq), .val (.long qc1), .second, .val (.long qc2), .second, .val (.int ps1), .val (.int ps2), .val (.int (Int32.ofNat n)), .val (.int kd1), .val (.int kd2), .val (.int (Int32.ofNat i)), .val (.int (Int32.ofNat j)), .val (.int (Int32.ofNat k)), .val .null, .val .null, .val (.ref b3), .val (.int (1 : Int32))] [(.int (Int32.ofNat k))]))
            refine own_go (fun t_ k_ => XS.iload X8.here hx rfl (hb hby at_173) rfl k_) ?_
            show OwnFin p e below s _ _ _ (T8.setTop (mkF m 175 #[.val (.int pp), .val (.int pq), .val (.long qc1), .second, .val (.long qc2), .second, .val (.int ps1), .val (.int ps2), .val (.int (Int32.ofNat n)), .val (.int kd1), .val (.int kd2), .val (.int (Int32.ofNat i)), .val (.int (Int32.ofNat j)), .val (.int (Int32.ofNat k)), .val .null, .val .null, .val (.ref b3), .val (.int (1 : Int32))] [(.int (Int32.ofNat j)), (.int (Int32.ofNat k))]))
            have hc175 : ¬ ((Int32.ofNat k) = (Int32.ofNat j)) := fun q => hkj (own_ofNat_inj (by omega) (by omega) q)
            refine own_go (fun t_ k_ => XS.icmpNo X8.here hx rfl (hb hby at_175) rfl (feq hc175).1 k_) ?_
            show OwnFin p e below s _ _ _ (T8.setTop (mkF m 178 #[.val (.int pp), .val (.int pq), .val (.long qc1), .second, .val (.long qc2), .second, .val (.int ps1), .val (.int ps2), .val (.int (Int32.ofNat n)), .val (.int kd1), .val (.int kd2), .val (.int (Int32.ofNat i)), .val (.int (Int32.ofNat j)), .val (.int (Int32.ofNat k)), .val .null, .val .null, .val (.ref b3), .val (.int (1 : Int32))] []))
            refine own_go (fun t_ k_ => XS.iload X8.here hx rfl (hb hby at_178) rfl k_) ?_
            show OwnFin p e below s _ _ _ (T8.setTop (mkF m 180 #[.val (.int pp), .val (.int pq), .val (.long qc1), .second, .val (.long qc2), .second, .val (.int ps1), .val (.int ps2), .val (.int (Int32.ofNat n)), .val (.int kd1), .val (.int kd2), .val (.int (Int32.ofNat i)), .val (.int (Int32.ofNat j)), .val (.int (Int32.ofNat k)), .val .null, .val .null, .val (.ref b3), .val (.int (1 : Int32))] [(.int (1 : Int32))]))
            refine own_go (fun t_ k_ => XS.ifNo X8.here hx rfl (hb hby at_180) rfl ((if0 _ _).trans (feq (by decide)).1) k_) ?_
            show OwnFin p e below s _ _ _ (T8.setTop (mkF m 183 #[.val (.int pp), .val (.int pq), .val (.long qc1), .second, .val (.long qc2), .second, .val (.int ps1), .val (.int ps2), .val (.int (Int32.ofNat n)), .val (.int kd1), .val (.int kd2), .val (.int (Int32.ofNat i)), .val (.int (Int32.ofNat j)), .val (.int (Int32.ofNat k)), .val .null, .val .null, .val (.ref b3), .val (.int (1 : Int32))] []))
            refine own_go (fun t_ k_ => XS.aload X8.here hx rfl (hb hby at_183) rfl rfl k_) ?_
            show OwnFin p e below s _ _ _ (T8.setTop (mkF m 185 #[.val (.int pp), .val (.int pq), .val (.long qc1), .second, .val (.long qc2), .second, .val (.int ps1), .val (.int ps2), .val (.int (Int32.ofNat n)), .val (.int kd1), .val (.int kd2), .val (.int (Int32.ofNat i)), .val (.int (Int32.ofNat j)), .val (.int (Int32.ofNat k)), .val .null, .val .null, .val (.ref b3), .val (.int (1 : Int32))] [(.ref b3)]))
            refine own_go (fun t_ k_ => XS.iload X8.here hx rfl (hb hby at_185) rfl k_) ?_
            show OwnFin p e below s _ _ _ (T8.setTop (mkF m 187 #[.val (.int pp), .val (.int pq), .val (.long qc1), .second, .val (.long qc2), .second, .val (.int ps1), .val (.int ps2), .val (.int (Int32.ofNat n)), .val (.int kd1), .val (.int kd2), .val (.int (Int32.ofNat i)), .val (.int (Int32.ofNat j)), .val (.int (Int32.ofNat k)), .val .null, .val .null, .val (.ref b3), .val (.int (1 : Int32))] [(.int (Int32.ofNat k)), (.ref b3)]))
            obtain ⟨v9, T9, L9, X9, hQ9, st9⟩ := own_callV X8 hx hZ (y := (⟨"com/example/nearside/nearside/support/SplitDecimalArray", "get", "(I)Lcom/example/nearside/nearside/support/SplitDecimal;"⟩ : MethodName)) (z := (⟨"com/example/nearside/nearside/support/SplitDecimalArray", "get", "(I)Lcom/example/nearside/nearside/support/SplitDecimal;"⟩ : MethodName)) hown (hw _ (List.mem_of_getElem? (i := 31) rfl)) (hw _ (List.mem_of_getElem? (i := 32) rfl)) (notFace_of_selects (args := #[]) (mvT hZ (hw _ (List.mem_of_getElem? (i := 34) rfl)))) (hw _ (List.mem_of_getElem? (i := 34) rfl)) (hw _ (List.mem_of_getElem? (i := 33) rfl)) (hw _ (List.mem_of_getElem? (i := 6) rfl)) (hw _ (List.mem_of_getElem? (i := 35) rfl)) (by decide) (W := 0) (rm6_N l Z a0 hw [] b3 (Int32.ofNat k) ca n k (fun z => if z = j then (-9223372036854775808 : Int64) else (fun z => if z = i then (-9223372036854775808 : Int64) else (fun _ => (-9223372036854775808 : Int64)) z) z) T6.heap n0 Z6 rfl hkn F_compact_6 F_whole_6 Vc6 (by (try dsimp only); rw [if_neg hkj, if_neg hki])) (by decide) (by decide) E_ao_6 (g := (mkF m 187 #[.val (.int pp), .val (.int pq), .val (.long qc1), .second, .val (.long qc2), .second, .val (.int ps1), .val (.int ps2), .val (.int (Int32.ofNat n)), .val (.int kd1), .val (.int kd2), .val (.int (Int32.ofNat i)), .val (.int (Int32.ofNat j)), .val (.int (Int32.ofNat k)), .val .null, .val .null, .val (.ref b3), .val (.int (1 : Int32))] [(.int (Int32.ofNat k)), (.ref b3)])) rfl (by rw [hml]; rfl) (argsL := [(.int (Int32.ofNat k))]) (rest := []) (lenOf pd_0_5 rfl) rfl (by show 2 * 0 + _ ≤ _; exact Nat.le_of_eq rfl) (hb hby at_187) e8 rfl (by decide) (by decide)
            obtain ⟨rfl, Nq9, e9⟩ := hQ9
            have N9 := Fr.app N8 Nq9
            refine own_go st9 ?_
            show OwnFin p e below s _ _ _ (T9.setTop (mkF m 190 #[.val (.int pp), .val (.int pq), .val (.long qc1), .second, .val (.long qc2), .second, .val (.int ps1), .val (.int ps2), .val (.int (Int32.ofNat n)), .val (.int kd1), .val (.int kd2), .val (.int (Int32.ofNat i)), .val (.int (Int32.ofNat j)), .val (.int (Int32.ofNat k)), .val .null, .val .null, .val (.ref b3), .val (.int (1 : Int32))] [.null]))
            refine own_go (fun t_ k_ => XS.ifnonnullNo X9.here hx rfl (hb hby at_190) rfl k_) ?_
            show OwnFin p e below s _ _ _ (T9.setTop (mkF m 193 #[.val (.int pp), .val (.int pq), .val (.long qc1), .second, .val (.long qc2), .second, .val (.int ps1), .val (.int ps2), .val (.int (Int32.ofNat n)), .val (.int kd1), .val (.int kd2), .val (.int (Int32.ofNat i)), .val (.int (Int32.ofNat j)), .val (.int (Int32.ofNat k)), .val .null, .val .null, .val (.ref b3), .val (.int (1 : Int32))] []))
            refine own_go (fun t_ k_ => XS.iconst X9.here hx rfl (hb hby at_193) k_) ?_
            show OwnFin p e below s _ _ _ (T9.setTop (mkF m 194 #[.val (.int pp), .val (.int pq), .val (.long qc1), .second, .val (.long qc2), .second, .val (.int ps1), .val (.int ps2), .val (.int (Int32.ofNat n)), .val (.int kd1), .val (.int kd2), .val (.int (Int32.ofNat i)), .val (.int (Int32.ofNat j)), .val (.int (Int32.ofNat k)), .val .null, .val .null, .val (.ref b3), .val (.int (1 : Int32))] [(.int (1 : Int32))]))
            refine own_go (fun t_ k_ => XS.goto X9.here hx rfl (pc0 := 194) (pc' := 198) rfl (hb hby at_194) (by decide) (by decide) k_) ?_
            show OwnFin p e below s _ _ _ (T9.setTop (mkF m 198 #[.val (.int pp), .val (.int pq), .val (.long qc1), .second, .val (.long qc2), .second, .val (.int ps1), .val (.int ps2), .val (.int (Int32.ofNat n)), .val (.int kd1), .val (.int kd2), .val (.int (Int32.ofNat i)), .val (.int (Int32.ofNat j)), .val (.int (Int32.ofNat k)), .val .null, .val .null, .val (.ref b3), .val (.int (1 : Int32))] [(.int (1 : Int32))]))
            refine own_go (fun t_ k_ => XS.istore X9.here hx rfl (hb hby at_198) rfl (l' := #[.val (.int pp), .val (.int pq), .val (.long qc1), .second, .val (.long qc2), .second, .val (.int ps1), .val (.int ps2), .val (.int (Int32.ofNat n)), .val (.int kd1), .val (.int kd2), .val (.int (Int32.ofNat i)), .val (.int (Int32.ofNat j)), .val (.int (Int32.ofNat k)), .val .null, .val .null, .val (.ref b3), .val (.int (1 : Int32))]) rfl k_) ?_
            show OwnFin p e below s _ _ _ (T9.setTop (mkF m 200 #[.val (.int pp), .val (.int pq), .val (.long qc1), .second, .val (.long qc2), .second, .val (.int ps1), .val (.int ps2), .val (.int (Int32.ofNat n)), .val (.int kd1), .val (.int kd2), .val (.int (Int32.ofNat i)), .val (.int (Int32.ofNat j)), .val (.int (Int32.ofNat k)), .val .null, .val .null, .val (.ref b3), .val (.int (1 : Int32))] []))
            refine own_go (fun t_ k_ => XS.iload X9.here hx rfl (hb hby at_200) rfl k_) ?_
            show OwnFin p e below s _ _ _ (T9.setTop (mkF m 202 #[.val (.int pp), .val (.int pq), .val (.long qc1), .second, .val (.long qc2), .second, .val (.int ps1), .val (.int ps2), .val (.int (Int32.ofNat n)), .val (.int kd1), .val (.int kd2), .val (.int (Int32.ofNat i)), .val (.int (Int32.ofNat j)), .val (.int (Int32.ofNat k)), .val .null, .val .null, .val (.ref b3), .val (.int (1 : Int32))] [(.int (1 : Int32))]))
            refine own_ret X9 (v := some (.int (1 : Int32))) hlk (fun hh => by rw [hret] at hh; cases hh) (fun fs hr => retN X9 hx (t := .boolean) hret (by simp) (hb hby at_202) hr) (by decide) (by decide) ?_
            exact ⟨rfl, N9⟩
      · refine own_go (fun t_ k_ => XS.iload X8.here hx rfl (hb hby at_130) rfl k_) ?_
        show OwnFin p e below s _ _ _ (T8.setTop (mkF m 132 #[.val (.int pp), .val (.int pq), .val (.long qc1), .second, .val (.long qc2), .second, .val (.int ps1), .val (.int ps2), .val (.int (Int32.ofNat n)), .val (.int kd1), .val (.int kd2), .val (.int (Int32.ofNat i)), .val (.int (Int32.ofNat j)), .val (.int (Int32.ofNat k)), .val .null, .val .null, .val (.ref b3), .val (.int (1 : Int32))] [(.int (Int32.ofNat i))]))
        refine own_go (fun t_ k_ => XS.iload X8.here hx rfl (hb hby at_132) rfl k_) ?_
        show OwnFin p e below s _ _ _ (T8.setTop (mkF m 134 #[.val (.int pp), .val (.int pq), .val (.long qc1), .second, .val (.long qc2), .second, .val (.int ps1), .val (.int ps2), .val (.int (Int32.ofNat n)), .val (.int kd1), .val (.int kd2), .val (.int (Int32.ofNat i)), .val (.int (Int32.ofNat j)), .val (.int (Int32.ofNat k)), .val .null, .val .null, .val (.ref b3), .val (.int (1 : Int32))] [(.int (Int32.ofNat j)), (.int (Int32.ofNat i))]))
        have hc134 : ¬ ((Int32.ofNat i) = (Int32.ofNat j)) := fun q => hij (own_ofNat_inj (by omega) (by omega) q)
        refine own_go (fun t_ k_ => XS.icmpNo X8.here hx rfl (hb hby at_134) rfl (feq hc134).1 k_) ?_
        show OwnFin p e below s _ _ _ (T8.setTop (mkF m 137 #[.val (.int pp), .val (.int pq), .val (.long qc1), .second, .val (.long qc2), .second, .val (.int ps1), .val (.int ps2), .val (.int (Int32.ofNat n)), .val (.int kd1), .val (.int kd2), .val (.int (Int32.ofNat i)), .val (.int (Int32.ofNat j)), .val (.int (Int32.ofNat k)), .val .null, .val .null, .val (.ref b3), .val (.int (1 : Int32))] []))
        refine own_go (fun t_ k_ => XS.iload X8.here hx rfl (hb hby at_137) rfl k_) ?_
        show OwnFin p e below s _ _ _ (T8.setTop (mkF m 139 #[.val (.int pp), .val (.int pq), .val (.long qc1), .second, .val (.long qc2), .second, .val (.int ps1), .val (.int ps2), .val (.int (Int32.ofNat n)), .val (.int kd1), .val (.int kd2), .val (.int (Int32.ofNat i)), .val (.int (Int32.ofNat j)), .val (.int (Int32.ofNat k)), .val .null, .val .null, .val (.ref b3), .val (.int (1 : Int32))] [(.int (1 : Int32))]))
        refine own_go (fun t_ k_ => XS.ifNo X8.here hx rfl (hb hby at_139) rfl ((if0 _ _).trans (feq (by decide)).1) k_) ?_
        show OwnFin p e below s _ _ _ (T8.setTop (mkF m 142 #[.val (.int pp), .val (.int pq), .val (.long qc1), .second, .val (.long qc2), .second, .val (.int ps1), .val (.int ps2), .val (.int (Int32.ofNat n)), .val (.int kd1), .val (.int kd2), .val (.int (Int32.ofNat i)), .val (.int (Int32.ofNat j)), .val (.int (Int32.ofNat k)), .val .null, .val .null, .val (.ref b3), .val (.int (1 : Int32))] []))
        refine own_go (fun t_ k_ => XS.aload X8.here hx rfl (hb hby at_142) rfl rfl k_) ?_
        show OwnFin p e below s _ _ _ (T8.setTop (mkF m 144 #[.val (.int pp), .val (.int pq), .val (.long qc1), .second, .val (.long qc2), .second, .val (.int ps1), .val (.int ps2), .val (.int (Int32.ofNat n)), .val (.int kd1), .val (.int kd2), .val (.int (Int32.ofNat i)), .val (.int (Int32.ofNat j)), .val (.int (Int32.ofNat k)), .val .null, .val .null, .val (.ref b3), .val (.int (1 : Int32))] [(.ref b3)]))
        refine own_go (fun t_ k_ => XS.iload X8.here hx rfl (hb hby at_144) rfl k_) ?_
        show OwnFin p e below s _ _ _ (T8.setTop (mkF m 146 #[.val (.int pp), .val (.int pq), .val (.long qc1), .second, .val (.long qc2), .second, .val (.int ps1), .val (.int ps2), .val (.int (Int32.ofNat n)), .val (.int kd1), .val (.int kd2), .val (.int (Int32.ofNat i)), .val (.int (Int32.ofNat j)), .val (.int (Int32.ofNat k)), .val .null, .val .null, .val (.ref b3), .val (.int (1 : Int32))] [(.int (Int32.ofNat i)), (.ref b3)]))
        obtain ⟨v10, T10, L10, X10, hQ10, st10⟩ := own_callV X8 hx hZ (y := (⟨"com/example/nearside/nearside/support/SplitDecimalArray", "get", "(I)Lcom/example/nearside/nearside/support/SplitDecimal;"⟩ : MethodName)) (z := (⟨"com/example/nearside/nearside/support/SplitDecimalArray", "get", "(I)Lcom/example/nearside/nearside/support/SplitDecimal;"⟩ : MethodName)) hown (hw _ (List.mem_of_getElem? (i := 31) rfl)) (hw _ (List.mem_of_getElem? (i := 32) rfl)) (notFace_of_selects (args := #[]) (mvT hZ (hw _ (List.mem_of_getElem? (i := 34) rfl)))) (hw _ (List.mem_of_getElem? (i := 34) rfl)) (hw _ (List.mem_of_getElem? (i := 33) rfl)) (hw _ (List.mem_of_getElem? (i := 6) rfl)) (hw _ (List.mem_of_getElem? (i := 35) rfl)) (by decide) (W := 0) (rm6_N l Z a0 hw [] b3 (Int32.ofNat i) ca n i (fun z => if z = j then (-9223372036854775808 : Int64) else (fun z => if z = i then (-9223372036854775808 : Int64) else (fun _ => (-9223372036854775808 : Int64)) z) z) T6.heap n0 Z6 rfl hin F_compact_6 F_whole_6 Vc6 (by (try dsimp only); rw [if_neg hij, if_pos rfl])) (by decide) (by decide) E_ao_6 (g := (mkF m 146 #[.val (.int pp), .val (.int pq), .val (.long qc1), .second, .val (.long qc2), .second, .val (.int ps1), .val (.int ps2), .val (.int (Int32.ofNat n)), .val (.int kd1), .val (.int kd2), .val (.int (Int32.ofNat i)), .val (.int (Int32.ofNat j)), .val (.int (Int32.ofNat k)), .val .null, .val .null, .val (.ref b3), .val (.int (1 : Int32))] [(.int (Int32.ofNat i)), (.ref b3)])) rfl (by rw [hml]; rfl) (argsL := [(.int (Int32.ofNat i))]) (rest := []) (lenOf pd_0_5 rfl) rfl (by show 2 * 0 + _ ≤ _; exact Nat.le_of_eq rfl) (hb hby at_146) e8 rfl (by decide) (by decide)
        obtain ⟨rfl, Nq10, e10⟩ := hQ10
        have N10 := Fr.app N8 Nq10
        refine own_go st10 ?_
        show OwnFin p e below s _ _ _ (T10.setTop (mkF m 149 #[.val (.int pp), .val (.int pq), .val (.long qc1), .second, .val (.long qc2), .second, .val (.int ps1), .val (.int ps2), .val (.int (Int32.ofNat n)), .val (.int kd1), .val (.int kd2), .val (.int (Int32.ofNat i)), .val (.int (Int32.ofNat j)), .val (.int (Int32.ofNat k)), .val .null, .val .null, .val (.ref b3), .val (.int (1 : Int32))] [.null]))
        refine own_go (fun t_ k_ => XS.aload X10.here hx rfl (hb hby at_149) rfl rfl k_) ?_
        show OwnFin p e below s _ _ _ (T10.setTop (mkF m 151 #[.val (.int pp), .val (.int pq), .val (.long qc1), .second, .val (.long qc2), .second, .val (.int ps1), .val (.int ps2), .val (.int (Int32.ofNat n)), .val (.int kd1), .val (.int kd2), .val (.int (Int32.ofNat i)), .val (.int (Int32.ofNat j)), .val (.int (Int32.ofNat k)), .val .null, .val .null, .val (.ref b3), .val (.int (1 : Int32))] [.null, .null]))
        obtain ⟨v11, T11, L11, X11, hQ11, st11⟩ := own_callS X10 hx hZ (y := (⟨"com/example/nearside/nearside/support/SplitDecimalArraySetPinLaw", "holds", "(Lcom/example/nearside/nearside/support/SplitDecimal;Lcom/example/nearside/nearside/support/SplitDecimal;)Z"⟩ : MethodName)) hown (hw _ (List.mem_of_getElem? (i := 36) rfl)) (hw _ (List.mem_of_getElem? (i := 37) rfl)) (hw _ (List.mem_of_getElem? (i := 2) rfl)) (hw _ (List.mem_of_getElem? (i := 38) rfl)) (by decide) (W := 0) (rm7_N l Z a0 hw []  T6.heap n0 Z6) (by decide) (by decide) (g := (mkF m 151 #[.val (.int pp), .val (.int pq), .val (.long qc1), .second, .val (.long qc2), .second, .val (.int ps1), .val (.int ps2), .val (.int (Int32.ofNat n)), .val (.int kd1), .val (.int kd2), .val (.int (Int32.ofNat i)), .val (.int (Int32.ofNat j)), .val (.int (Int32.ofNat k)), .val .null, .val .null, .val (.ref b3), .val (.int (1 : Int32))] [.null, .null])) rfl (by rw [hml]; rfl) (argsL := [.null, .null]) (rest := []) (lenOf pd_0_6 rfl) rfl (by show 2 * 0 + _ ≤ _; exact Nat.le_of_eq rfl) (hb hby at_151) e10 rfl (by decide) (by decide)
        obtain ⟨rfl, Nq11, e11⟩ := hQ11
        have N11 := Fr.app N10 Nq11
        refine own_go st11 ?_
        show OwnFin p e below s _ _ _ (T11.setTop (mkF m 154 #[.val (.int pp), .val (.int pq), .val (.long qc1), .second, .val (.long qc2), .second, .val (.int ps1), .val (.int ps2), .val (.int (Int32.ofNat n)), .val (.int kd1), .val (.int kd2), .val (.int (Int32.ofNat i)), .val (.int (Int32.ofNat j)), .val (.int (Int32.ofNat k)), .val .null, .val .null, .val (.ref b3), .val (.int (1 : Int32))] [(.int (1 : Int32))]))
        refine own_go (fun t_ k_ => XS.ifNo X11.here hx rfl (hb hby at_154) rfl ((if0 _ _).trans (feq (by decide)).1) k_) ?_
        show OwnFin p e below s _ _ _ (T11.setTop (mkF m 157 #[.val (.int pp), .val (.int pq), .val (.long qc1), .second, .val (.long qc2), .second, .val (.int ps1), .val (.int ps2), .val (.int (Int32.ofNat n)), .val (.int kd1), .val (.int kd2), .val (.int (Int32.ofNat i)), .val (.int (Int32.ofNat j)), .val (.int (Int32.ofNat k)), .val .null, .val .null, .val (.ref b3), .val (.int (1 : Int32))] []))
        refine own_go (fun t_ k_ => XS.iconst X11.here hx rfl (hb hby at_157) k_) ?_
        show OwnFin p e below s _ _ _ (T11.setTop (mkF m 158 #[.val (.int pp), .val (.int pq), .val (.long qc1), .second, .val (.long qc2), .second, .val (.int ps1), .val (.int ps2), .val (.int (Int32.ofNat n)), .val (.int kd1), .val (.int kd2), .val (.int (Int32.ofNat i)), .val (.int (Int32.ofNat j)), .val (.int (Int32.ofNat k)), .val .null, .val .null, .val (.ref b3), .val (.int (1 : Int32))] [(.int (1 : Int32))]))
        refine own_go (fun t_ k_ => XS.goto X11.here hx rfl (pc0 := 158) (pc' := 162) rfl (hb hby at_158) (by decide) (by decide) k_) ?_
        show OwnFin p e below s _ _ _ (T11.setTop (mkF m 162 #[.val (.int pp), .val (.int pq), .val (.long qc1), .second, .val (.long qc2), .second, .val (.int ps1), .val (.int ps2), .val (.int (Int32.ofNat n)), .val (.int kd1), .val (.int kd2), .val (.int (Int32.ofNat i)), .val (.int (Int32.ofNat j)), .val (.int (Int32.ofNat k)), .val .null, .val .null, .val (.ref b3), .val (.int (1 : Int32))] [(.int (1 : Int32))]))
        refine own_go (fun t_ k_ => XS.istore X11.here hx rfl (hb hby at_162) rfl (l' := #[.val (.int pp), .val (.int pq), .val (.long qc1), .second, .val (.long qc2), .second, .val (.int ps1), .val (.int ps2), .val (.int (Int32.ofNat n)), .val (.int kd1), .val (.int kd2), .val (.int (Int32.ofNat i)), .val (.int (Int32.ofNat j)), .val (.int (Int32.ofNat k)), .val .null, .val .null, .val (.ref b3), .val (.int (1 : Int32))]) rfl k_) ?_
        show OwnFin p e below s _ _ _ (T11.setTop (mkF m 164 #[.val (.int pp), .val (.int pq), .val (.long qc1), .second, .val (.long qc2), .second, .val (.int ps1), .val (.int ps2), .val (.int (Int32.ofNat n)), .val (.int kd1), .val (.int kd2), .val (.int (Int32.ofNat i)), .val (.int (Int32.ofNat j)), .val (.int (Int32.ofNat k)), .val .null, .val .null, .val (.ref b3), .val (.int (1 : Int32))] []))
        by_cases hki : k = i
        · refine own_go (fun t_ k_ => XS.iload X11.here hx rfl (hb hby at_164) rfl k_) ?_
          show OwnFin p e below s _ _ _ (T11.setTop (mkF m 166 #[.val (.int pp), .val (.int pq), .val (.long qc1), .second, .val (.long qc2), .second, .val (.int ps1), .val (.int ps2), .val (.int (Int32.ofNat n)), .val (.int kd1), .val (.int kd2), .val (.int (Int32.ofNat i)), .val (.int (Int32.ofNat j)), .val (.int (Int32.ofNat k)), .val .null, .val .null, .val (.ref b3), .val (.int (1 : Int32))] [(.int (Int32.ofNat k))]))
          refine own_go (fun t_ k_ => XS.iload X11.here hx rfl (hb hby at_166) rfl k_) ?_
          show OwnFin p e below s _ _ _ (T11.setTop (mkF m 168 #[.val (.int pp), .val (.int pq), .val (.long qc1), .second, .val (.long qc2), .second, .val (.int ps1), .val (.int ps2), .val (.int (Int32.ofNat n)), .val (.int kd1), .val (.int kd2), .val (.int (Int32.ofNat i)), .val (.int (Int32.ofNat j)), .val (.int (Int32.ofNat k)), .val .null, .val .null, .val (.ref b3), .val (.int (1 : Int32))] [(.int (Int32.ofNat i)), (.int (Int32.ofNat k))]))
          have hc168 : (Int32.ofNat k) = (Int32.ofNat i) := by rw [hki]
          refine own_go (fun t_ k_ => XS.icmpYes X11.here hx rfl (pc0 := 168) (pc' := 200) rfl (hb hby at_168) rfl (teq hc168).1 (by decide) (by decide) k_) ?_
          show OwnFin p e below s _ _ _ (T11.setTop (mkF m 200 #[.val (.int pp), .val (.int pq), .val (.long qc1), .second, .val (.long qc2), .second, .val (.int ps1), .val (.int ps2), .val (.int (Int32.ofNat n)), .val (.int kd1), .val (.int kd2), .val (.int (Int32.ofNat i)), .val (.int (Int32.ofNat j)), .val (.int (Int32.ofNat k)), .val .null, .val .null, .val (.ref b3), .val (.int (1 : Int32))] []))
          refine own_go (fun t_ k_ => XS.iload X11.here hx rfl (hb hby at_200) rfl k_) ?_
          show OwnFin p e below s _ _ _ (T11.setTop (mkF m 202 #[.val (.int pp), .val (.int pq), .val (.long qc1), .second, .val (.long qc2), .second, .val (.int ps1), .val (.int ps2), .val (.int (Int32.ofNat n)), .val (.int kd1), .val (.int kd2), .val (.int (Int32.ofNat i)), .val (.int (Int32.ofNat j)), .val (.int (Int32.ofNat k)), .val .null, .val .null, .val (.ref b3), .val (.int (1 : Int32))] [(.int (1 : Int32))]))
          refine own_ret X11 (v := some (.int (1 : Int32))) hlk (fun hh => by rw [hret] at hh; cases hh) (fun fs hr => retN X11 hx (t := .boolean) hret (by simp) (hb hby at_202) hr) (by decide) (by decide) ?_
          exact ⟨rfl, N11⟩
        · refine own_go (fun t_ k_ => XS.iload X11.here hx rfl (hb hby at_164) rfl k_) ?_
          show OwnFin p e below s _ _ _ (T11.setTop (mkF m 166 #[.val (.int pp), .val (.int pq), .val (.long qc1), .second, .val (.long qc2), .second, .val (.int ps1), .val (.int ps2), .val (.int (Int32.ofNat n)), .val (.int kd1), .val (.int kd2), .val (.int (Int32.ofNat i)), .val (.int (Int32.ofNat j)), .val (.int (Int32.ofNat k)), .val .null, .val .null, .val (.ref b3), .val (.int (1 : Int32))] [(.int (Int32.ofNat k))]))
          refine own_go (fun t_ k_ => XS.iload X11.here hx rfl (hb hby at_166) rfl k_) ?_
          show OwnFin p e below s _ _ _ (T11.setTop (mkF m 168 #[.val (.int pp), .val (.int pq), .val (.long qc1), .second, .val (.long qc2), .second, .val (.int ps1), .val (.int ps2), .val (.int (Int32.ofNat n)), .val (.int kd1), .val (.int kd2), .val (.int (Int32.ofNat i)), .val (.int (Int32.ofNat j)), .val (.int (Int32.ofNat k)), .val .null, .val .null, .val (.ref b3), .val (.int (1 : Int32))] [(.int (Int32.ofNat i)), (.int (Int32.ofNat k))]))
          have hc168 : ¬ ((Int32.ofNat k) = (Int32.ofNat i)) := fun q => hki (own_ofNat_inj (by omega) (by omega) q)
          refine own_go (fun t_ k_ => XS.icmpNo X11.here hx rfl (hb hby at_168) rfl (feq hc168).1 k_) ?_
          show OwnFin p e below s _ _ _ (T11.setTop (mkF m 171 #[.val (.int pp), .val (.int pq), .val (.long qc1), .second, .val (.long qc2), .second, .val (.int ps1), .val (.int ps2), .val (.int (Int32.ofNat n)), .val (.int kd1), .val (.int kd2), .val (.int (Int32.ofNat i)), .val (.int (Int32.ofNat j)), .val (.int (Int32.ofNat k)), .val .null, .val .null, .val (.ref b3), .val (.int (1 : Int32))] []))
          by_cases hkj : k = j
          · refine own_go (fun t_ k_ => XS.iload X11.here hx rfl (hb hby at_171) rfl k_) ?_
            show OwnFin p e below s _ _ _ (T11.setTop (mkF m 173 #[.val (.int pp), .val (.int pq), .val (.long qc1), .second, .val (.long qc2), .second, .val (.int ps1), .val (.int ps2), .val (.int (Int32.ofNat n)), .val (.int kd1), .val (.int kd2), .val (.int (Int32.ofNat i)), .val (.int (Int32.ofNat j)), .val (.int (Int32.ofNat k)), .val .null, .val .null, .val (.ref b3), .val (.int (1 : Int32))] [(.int (Int32.ofNat k))]))
            refine own_go (fun t_ k_ => XS.iload X11.here hx rfl (hb hby at_173) rfl k_) ?_
            show OwnFin p e below s _ _ _ (T11.setTop (mkF m 175 #[.val (.int pp), .val (.int pq), .val (.long qc1), .second, .val (.long qc2), .second, .val (.int ps1), .val (.int ps2), .val (.int (Int32.ofNat n)), .val (.int kd1), .val (.int kd2), .val (.int (Int32.ofNat i)), .val (.int (Int32.ofNat j)), .val (.int (Int32.ofNat k)), .val .null, .val .null, .val (.ref b3), .val (.int (1 : Int32))] [(.int (Int32.ofNat j)), (.int (Int32.ofNat k))]))
            have hc175 : (Int32.ofNat k) = (Int32.ofNat j) := by rw [hkj]
            refine own_go (fun t_ k_ => XS.icmpYes X11.here hx rfl (pc0 := 175) (pc' := 200) rfl (hb hby at_175) rfl (teq hc175).1 (by decide) (by decide) k_) ?_
            show OwnFin p e below s _ _ _ (T11.setTop (mkF m 200 #[.val (.int pp), .val (.int pq), .val (.long qc1), .second, .val (.long qc2), .second, .val (.int ps1), .val (.int ps2), .val (.int (Int32.ofNat n)), .val (.int kd1), .val (.int kd2), .val (.int (Int32.ofNat i)), .val (.int (Int32.ofNat j)), .val (.int (Int32.ofNat k)), .val .null, .val .null, .val (.ref b3), .val (.int (1 : Int32))] []))
            refine own_go (fun t_ k_ => XS.iload X11.here hx rfl (hb hby at_200) rfl k_) ?_
            show OwnFin p e below s _ _ _ (T11.setTop (mkF m 202 #[.val (.int pp), .val (.int pq), .val (.long qc1), .second, .val (.long qc2), .second, .val (.int ps1), .val (.int ps2), .val (.int (Int32.ofNat n)), .val (.int kd1), .val (.int kd2), .val (.int (Int32.ofNat i)), .val (.int (Int32.ofNat j)), .val (.int (Int32.ofNat k)), .val .null, .val .null, .val (.ref b3), .val (.int (1 : Int32))] [(.int (1 : Int32))]))
            refine own_ret X11 (v := some (.int (1 : Int32))) hlk (fun hh => by rw [hret] at hh; cases hh) (fun fs hr => retN X11 hx (t := .boolean) hret (by simp) (hb hby at_202) hr) (by decide) (by decide) ?_
            exact ⟨rfl, N11⟩
          · refine own_go (fun t_ k_ => XS.iload X11.here hx rfl (hb hby at_171) rfl k_) ?_
            show OwnFin p e below s _ _ _ (T11.setTop (mkF m 173 #[.val (.int pp), .val (.int pq), .val (.long qc1), .second, .val (.long qc2), .second, .val (.int ps1), .val (.int ps2), .val (.int (Int32.ofNat n)), .val (.int kd1), .val (.int kd2), .val (.int (Int32.ofNat i)), .val (.int (Int32.ofNat j)), .val (.int (Int32.ofNat k)), .val .null, .val .null, .val (.ref b3), .val (.int (1 : Int32))] [(.int (Int32.ofNat k))]))
            refine own_go (fun t_ k_ => XS.iload X11.here hx rfl (hb hby at_173) rfl k_) ?_
            show OwnFin p e below s _ _ _ (T11.setTop (mkF m 175 #[.val (.int pp), .val (.int pq), .val (.long qc1), .second, .val (.long qc2), .second, .val (.int ps1), .val (.int ps2), .val (.int (Int32.ofNat n)), .val (.int kd1), .val (.int kd2), .val (.int (Int32.ofNat i)), .val (.int (Int32.ofNat j)), .val (.int (Int32.ofNat k)), .val .null, .val .null, .val (.ref b3), .val (.int (1 : Int32))] [(.int (Int32.ofNat j)), (.int (Int32.ofNat k))]))
            have hc175 : ¬ ((Int32.ofNat k) = (Int32.ofNat j)) := fun q => hkj (own_ofNat_inj (by omega) (by omega) q)
            refine own_go (fun t_ k_ => XS.icmpNo X11.here hx rfl (hb hby at_175) rfl (feq hc175).1 k_) ?_
            show OwnFin p e below s _ _ _ (T11.setTop (mkF m 178 #[.val (.int pp), .val (.int pq), .val (.long qc1), .second, .val (.long qc2), .second, .val (.int ps1), .val (.int ps2), .val (.int (Int32.ofNat n)), .val (.int kd1), .val (.int kd2), .val (.int (Int32.ofNat i)), .val (.int (Int32.ofNat j)), .val (.int (Int32.ofNat k)), .val .null, .val .null, .val (.ref b3), .val (.int (1 : Int32))] []))
            refine own_go (fun t_ k_ => XS.iload X11.here hx rfl (hb hby at_178) rfl k_) ?_
            show OwnFin p e below s _ _ _ (T11.setTop (mkF m 180 #[.val (.int pp), .val (.int pq), .val (.long qc1), .second, .val (.long qc2), .second, .val (.int ps1), .val (.int ps2), .val (.int (Int32.ofNat n)), .val (.int kd1), .val (.int kd2), .val (.int (Int32.ofNat i)), .val (.int (Int32.ofNat j)), .val (.int (Int32.ofNat k)), .val .null, .val .null, .val (.ref b3), .val (.int (1 : Int32))] [(.int (1 : Int32))]))
            refine own_go (fun t_ k_ => XS.ifNo X11.here hx rfl (hb hby at_180) rfl ((if0 _ _).trans (feq (by decide)).1) k_) ?_
            show OwnFin p e below s _ _ _ (T11.setTop (mkF m 183 #[.val (.int pp), .val (.int pq), .val (.long qc1), .second, .val (.long qc2), .second, .val (.int ps1), .val (.int ps2), .val (.int (Int32.ofNat n)), .val (.int kd1), .val (.int kd2), .val (.int (Int32.ofNat i)), .val (.int (Int32.ofNat j)), .val (.int (Int32.ofNat k)), .val .null, .val .null, .val (.ref b3), .val (.int (1 : Int32))] []))
            refine own_go (fun t_ k_ => XS.aload X11.here hx rfl (hb hby at_183) rfl rfl k_) ?_
            show OwnFin p e below s _ _ _ (T11.setTop (mkF m 185 #[.val (.int pp), .val (.int pq), .val (.long qc1), .second, .val (.long qc2), .second, .val (.int ps1), .val (.int ps2), .val (.int (Int32.ofNat n)), .val (.int kd1), .val (.int kd2), .val (.int (Int32.ofNat i)), .val (.int (Int32.ofNat j)), .val (.int (Int32.ofNat k)), .val .null, .val .null, .val (.ref b3), .val (.int (1 : Int32))] [(.ref b3)]))
            refine own_go (fun t_ k_ => XS.iload X11.here hx rfl (hb hby at_185) rfl k_) ?_
            show OwnFin p e below s _ _ _ (T11.setTop (mkF m 187 #[.val (.int pp), .val (.int pq), .val (.long qc1), .second, .val (.long qc2), .second, .val (.int ps1), .val (.int ps2), .val (.int (Int32.ofNat n)), .val (.int kd1), .val (.int kd2), .val (.int (Int32.ofNat i)), .val (.int (Int32.ofNat j)), .val (.int (Int32.ofNat k)), .val .null, .val .null, .val (.ref b3), .val (.int (1 : Int32))] [(.int (Int32.ofNat k)), (.ref b3)]))
            obtain ⟨v12, T12, L12, X12, hQ12, st12⟩ := own_callV X11 hx hZ (y := (⟨"com/example/nearside/nearside/support/SplitDecimalArray", "get", "(I)Lcom/example/nearside/nearside/support/SplitDecimal;"⟩ : MethodName)) (z := (⟨"com/example/nearside/nearside/support/SplitDecimalArray", "get", "(I)Lcom/example/nearside/nearside/support/SplitDecimal;"⟩ : MethodName)) hown (hw _ (List.mem_of_getElem? (i := 31) rfl)) (hw _ (List.mem_of_getElem? (i := 32) rfl)) (notFace_of_selects (args := #[]) (mvT hZ (hw _ (List.mem_of_getElem? (i := 34) rfl)))) (hw _ (List.mem_of_getElem? (i := 34) rfl)) (hw _ (List.mem_of_getElem? (i := 33) rfl)) (hw _ (List.mem_of_getElem? (i := 6) rfl)) (hw _ (List.mem_of_getElem? (i := 35) rfl)) (by decide) (W := 0) (rm6_N l Z a0 hw [] b3 (Int32.ofNat k) ca n k (fun z => if z = j then (-9223372036854775808 : Int64) else (fun z => if z = i then (-9223372036854775808 : Int64) else (fun _ => (-9223372036854775808 : Int64)) z) z) T6.heap n0 Z6 rfl hkn F_compact_6 F_whole_6 Vc6 (by (try dsimp only); rw [if_neg hkj, if_neg hki])) (by decide) (by decide) E_ao_6 (g := (mkF m 187 #[.val (.int pp), .val (.int pq), .val (.long qc1), .second, .val (.long qc2), .second, .val (.int ps1), .val (.int ps2), .val (.int (Int32.ofNat n)), .val (.int kd1), .val (.int kd2), .val (.int (Int32.ofNat i)), .val (.int (Int32.ofNat j)), .val (.int (Int32.ofNat k)), .val .null, .val .null, .val (.ref b3), .val (.int (1 : Int32))] [(.int (Int32.ofNat k)), (.ref b3)])) rfl (by rw [hml]; rfl) (argsL := [(.int (Int32.ofNat k))]) (rest := []) (lenOf pd_0_5 rfl) rfl (by show 2 * 0 + _ ≤ _; exact Nat.le_of_eq rfl) (hb hby at_187) e11 rfl (by decide) (by decide)
            obtain ⟨rfl, Nq12, e12⟩ := hQ12
            have N12 := Fr.app N11 Nq12
            refine own_go st12 ?_
            show OwnFin p e below s _ _ _ (T12.setTop (mkF m 190 #[.val (.int pp), .val (.int pq), .val (.long qc1), .second, .val (.long qc2), .second, .val (.int ps1), .val (.int ps2), .val (.int (Int32.ofNat n)), .val (.int kd1), .val (.int kd2), .val (.int (Int32.ofNat i)), .val (.int (Int32.ofNat j)), .val (.int (Int32.ofNat k)), .val .null, .val .null, .val (.ref b3), .val (.int (1 : Int32))] [.null]))
            refine own_go (fun t_ k_ => XS.ifnonnullNo X12.here hx rfl (hb hby at_190) rfl k_) ?_
            show OwnFin p e below s _ _ _ (T12.setTop (mkF m 193 #[.val (.int pp), .val (.int pq), .val (.long qc1), .second, .val (.long qc2), .second, .val (.int ps1), .val (.int ps2), .val (.int (Int32.ofNat n)), .val (.int kd1), .val (.int kd2), .val (.int (Int32.ofNat i)), .val (.int (Int32.ofNat j)), .val (.int (Int32.ofNat k)), .val .null, .val .null, .val (.ref b3), .val (.int (1 : Int32))] []))
            refine own_go (fun t_ k_ => XS.iconst X12.here hx rfl (hb hby at_193) k_) ?_
            show OwnFin p e below s _ _ _ (T12.setTop (mkF m 194 #[.val (.int pp), .val (.int pq), .val (.long qc1), .second, .val (.long qc2), .second, .val (.int ps1), .val (.int ps2), .val (.int (Int32.ofNat n)), .val (.int kd1), .val (.int kd2), .val (.int (Int32.ofNat i)), .val (.int (Int32.ofNat j)), .val (.int (Int32.ofNat k)), .val .null, .val .null, .val (.ref b3), .val (.int (1 : Int32))] [(.int (1 : Int32))]))
            refine own_go (fun t_ k_ => XS.goto X12.here hx rfl (pc0 := 194) (pc' := 198) rfl (hb hby at_194) (by decide) (by decide) k_) ?_
            show OwnFin p e below s _ _ _ (T12.setTop (mkF m 198 #[.val (.int pp), .val (.int pq), .val (.long qc1), .second, .val (.long qc2), .second, .val (.int ps1), .val (.int ps2), .val (.int (Int32.ofNat n)), .val (.int kd1), .val (.int kd2), .val (.int (Int32.ofNat i)), .val (.int (Int32.ofNat j)), .val (.int (Int32.ofNat k)), .val .null, .val .null, .val (.ref b3), .val (.int (1 : Int32))] [(.int (1 : Int32))]))
            refine own_go (fun t_ k_ => XS.istore X12.here hx rfl (hb hby at_198) rfl (l' := #[.val (.int pp), .val (.int pq), .val (.long qc1), .second, .val (.long qc2), .second, .val (.int ps1), .val (.int ps2), .val (.int (Int32.ofNat n)), .val (.int kd1), .val (.int kd2), .val (.int (Int32.ofNat i)), .val (.int (Int32.ofNat j)), .val (.int (Int32.ofNat k)), .val .null, .val .null, .val (.ref b3), .val (.int (1 : Int32))]) rfl k_) ?_
            show OwnFin p e below s _ _ _ (T12.setTop (mkF m 200 #[.val (.int pp), .val (.int pq), .val (.long qc1), .second, .val (.long qc2), .second, .val (.int ps1), .val (.int ps2), .val (.int (Int32.ofNat n)), .val (.int kd1), .val (.int kd2), .val (.int (Int32.ofNat i)), .val (.int (Int32.ofNat j)), .val (.int (Int32.ofNat k)), .val .null, .val .null, .val (.ref b3), .val (.int (1 : Int32))] []))
            refine own_go (fun t_ k_ => XS.iload X12.here hx rfl (hb hby at_200) rfl k_) ?_
            show OwnFin p e below s _ _ _ (T12.setTop (mkF m 202 #[.val (.int pp), .val (.int pq), .val (.long qc1), .second, .val (.long qc2), .second, .val (.int ps1), .val (.int ps2), .val (.int (Int32.ofNat n)), .val (.int kd1), .val (.int kd2), .val (.int (Int32.ofNat i)), .val (.int (Int32.ofNat j)), .val (.int (Int32.ofNat k)), .val .null, .val .null, .val (.ref b3), .val (.int (1 : Int32))] [(.int (1 : Int32))]))
            refine own_ret X12 (v := some (.int (1 : Int32))) hlk (fun hh => by rw [hret] at hh; cases hh) (fun fs hr => retN X12 hx (t := .boolean) hret (by simp) (hb hby at_202) hr) (by decide) (by decide) ?_
            exact ⟨rfl, N12⟩
    by_cases ho2 : kd2 = (1 : Int32)
    · refine own_go (fun t_ k_ => XS.iload X1.here hx rfl (hb hby at_76) rfl k_) ?_
      show OwnFin p e below s _ _ _ (T1.setTop (mkF m 78 #[.val (.int pp), .val (.int pq), .val (.long qc1), .second, .val (.long qc2), .second, .val (.int ps1), .val (.int ps2), .val (.int (Int32.ofNat n)), .val (.int kd1), .val (.int kd2), .val (.int (Int32.ofNat i)), .val (.int (Int32.ofNat j)), .val (.int (Int32.ofNat k)), .val .null, .unset, .unset, .unset] [(.int kd2)]))
      refine own_go (fun t_ k_ => XS.lload X1.here hx rfl (hb hby at_78) rfl k_) ?_
      show OwnFin p e below s _ _ _ (T1.setTop (mkF m 80 #[.val (.int pp), .val (.int pq), .val (.long qc1), .second, .val (.long qc2), .second, .val (.int ps1), .val (.int ps2), .val (.int (Int32.ofNat n)), .val (.int kd1), .val (.int kd2), .val (.int (Int32.ofNat i)), .val (.int (Int32.ofNat j)), .val (.int (Int32.ofNat k)), .val .null, .unset, .unset, .unset] [(.long qc2), (.int kd2)]))
      refine own_go (fun t_ k_ => XS.iload X1.here hx rfl (hb hby at_80) rfl k_) ?_
      show OwnFin p e below s _ _ _ (T1.setTop (mkF m 82 #[.val (.int pp), .val (.int pq), .val (.long qc1), .second, .val (.long qc2), .second, .val (.int ps1), .val (.int ps2), .val (.int (Int32.ofNat n)), .val (.int kd1), .val (.int kd2), .val (.int (Int32.ofNat i)), .val (.int (Int32.ofNat j)), .val (.int (Int32.ofNat k)), .val .null, .unset, .unset, .unset] [(.int ps2), (.long qc2), (.int kd2)]))
      obtain ⟨v13, T13, L13, X13, hQ13, st13⟩ := own_callS X1 hx hZ (y := (⟨"com/example/nearside/nearside/support/SplitDecimalArraySetPinLaw", "make", "(IJI)Lcom/example/nearside/nearside/support/SplitDecimal;"⟩ : MethodName)) hown (hw _ (List.mem_of_getElem? (i := 0) rfl)) (hw _ (List.mem_of_getElem? (i := 1) rfl)) (hw _ (List.mem_of_getElem? (i := 2) rfl)) (hw _ (List.mem_of_getElem? (i := 3) rfl)) (by decide) (W := 0) (rm1_1 l Z a0 hw [] kd2 qc2 ps2 h0 n0 Z0 ho2) (by decide) (by decide) (g := (mkF m 82 #[.val (.int pp), .val (.int pq), .val (.long qc1), .second, .val (.long qc2), .second, .val (.int ps1), .val (.int ps2), .val (.int (Int32.ofNat n)), .val (.int kd1), .val (.int kd2), .val (.int (Int32.ofNat i)), .val (.int (Int32.ofNat j)), .val (.int (Int32.ofNat k)), .val .null, .unset, .unset, .unset] [(.int ps2), (.long qc2), (.int kd2)])) rfl (by rw [hml]; rfl) (argsL := [(.int kd2), (.long qc2), (.int ps2)]) (rest := []) (lenOf pd_0_0 rfl) rfl (by show 2 * 0 + _ ≤ _; exact Nat.le_of_eq rfl) (hb hby at_82) e1 rfl (by decide) (by decide)
      obtain ⟨r13, rfl, Nq13, Kq13, sq13, Eq13, Fq13_0, Fq13_1⟩ := hQ13
      have N13 := Fr.app N1 Nq13
      have g_r13 : n0 ≤ r13 := Nat.le_trans Z0 sq13
      have Z13 : n0 ≤ T13.heap.size := Nat.le_trans Z0 Kq13.1
      refine own_go st13 ?_
      show OwnFin p e below s _ _ _ (T13.setTop (mkF m 85 #[.val (.int pp), .val (.int pq), .val (.long qc1), .second, .val (.long qc2), .second, .val (.int ps1), .val (.int ps2), .val (.int (Int32.ofNat n)), .val (.int kd1), .val (.int kd2), .val (.int (Int32.ofNat i)), .val (.int (Int32.ofNat j)), .val (.int (Int32.ofNat k)), .val .null, .unset, .unset, .unset] [(.ref r13)]))
      refine own_go (fun t_ k_ => XS.astore X13.here hx rfl (hb hby at_85) rfl rfl (l' := #[.val (.int pp), .val (.int pq), .val (.long qc1), .second, .val (.long qc2), .second, .val (.int ps1), .val (.int ps2), .val (.int (Int32.ofNat n)), .val (.int kd1), .val (.int kd2), .val (.int (Int32.ofNat i)), .val (.int (Int32.ofNat j)), .val (.int (Int32.ofNat k)), .val .null, .val (.ref r13), .unset, .unset]) rfl k_) ?_
      show OwnFin p e below s _ _ _ (T13.setTop (mkF m 87 #[.val (.int pp), .val (.int pq), .val (.long qc1), .second, .val (.long qc2), .second, .val (.int ps1), .val (.int ps2), .val (.int (Int32.ofNat n)), .val (.int kd1), .val (.int kd2), .val (.int (Int32.ofNat i)), .val (.int (Int32.ofNat j)), .val (.int (Int32.ofNat k)), .val .null, .val (.ref r13), .unset, .unset] []))
      obtain ⟨T14, h14, X14, e14, E14, A14, D14, -, st14⟩ := newO X13 hx hZ hown (hw _ (List.mem_of_getElem? (i := 4) rfl)) (hw _ (List.mem_of_getElem? (i := 5) rfl)) (hw _ (List.mem_of_getElem? (i := 6) rfl)) rfl (g := (mkF m 87 #[.val (.int pp), .val (.int pq), .val (.long qc1), .second, .val (.long qc2), .second, .val (.int ps1), .val (.int ps2), .val (.int (Int32.ofNat n)), .val (.int kd1), .val (.int kd2), .val (.int (Int32.ofNat i)), .val (.int (Int32.ofNat j)), .val (.int (Int32.ofNat k)), .val .null, .val (.ref r13), .unset, .unset] [])) rfl (hb hby at_87) (by decide) (by decide)
      obtain ⟨b14, g14⟩ : ∃ z, z = T13.heap.size := ⟨_, rfl⟩
      rw [← g14] at A14 D14 st14
      have g_b14 : n0 ≤ b14 := Nat.le_trans Z13 (Nat.le_of_eq g14.symm)
      have ne_r13_b14 : r13 ≠ b14 := Nat.ne_of_lt (Nat.lt_of_lt_of_le Eq13.lt (Nat.le_of_eq g14.symm))
      have E_r13_14 := Eq13.ext E14
      have F_compact_r13_14 := Fq13_0.ext E14
      have F_scale_r13_14 := Fq13_1.ext E14
      have Z14 : n0 ≤ h14.size := Nat.le_trans Z13 E14.1
      have E_b14 := A14
      have F_compact_b14 : Fld Z h14 b14 "com/example/nearside/nearside/support/SplitDecimalArray" "compact" "[J" .null := D14 (Or.inr (hw _ (List.mem_of_getElem? (i := 15) rfl))) (ty := (.array .long)) (by decide)
      have F_scale_b14 : Fld Z h14 b14 "com/example/nearside/nearside/support/SplitDecimalArray" "scale" "[I" .null := D14 (Or.inr (hw _ (List.mem_of_getElem? (i := 18) rfl))) (ty := (.array .int)) (by decide)
      have F_whole_b14 : Fld Z h14 b14 "com/example/nearside/nearside/support/SplitDecimalArray" "whole" "[Lcom/example/nearside/nearside/support/SplitDecimal;" .null := D14 (Or.inl (hw _ (List.mem_of_getElem? (i := 30) rfl))) (ty := (.array (.object "com/example/nearside/nearside/support/SplitDecimal"))) (by decide)
      refine own_go st14 ?_
      show OwnFin p e below s _ _ _ (T14.setTop (mkF m 90 #[.val (.int pp), .val (.int pq), .val (.long qc1), .second, .val (.long qc2), .second, .val (.int ps1), .val (.int ps2), .val (.int (Int32.ofNat n)), .val (.int kd1), .val (.int kd2), .val (.int (Int32.ofNat i)), .val (.int (Int32.ofNat j)), .val (.int (Int32.ofNat k)), .val .null, .val (.ref r13), .unset, .unset] [(.ref b14)]))
      refine own_go (fun t_ k_ => XS.dup X14.here hx rfl (hb hby at_90) rfl rfl k_) ?_
      show OwnFin p e below s _ _ _ (T14.setTop (mkF m 91 #[.val (.int pp), .val (.int pq), .val (.long qc1), .second, .val (.long qc2), .second, .val (.int ps1), .val (.int ps2), .val (.int (Int32.ofNat n)), .val (.int kd1), .val (.int kd2), .val (.int (Int32.ofNat i)), .val (.int (Int32.ofNat j)), .val (.int (Int32.ofNat k)), .val .null, .val (.ref r13), .unset, .unset] [(.ref b14), (.ref b14)]))
      refine own_go (fun t_ k_ => XS.iload X14.here hx rfl (hb hby at_91) rfl k_) ?_
      show OwnFin p e below s _ _ _ (T14.setTop (mkF m 93 #[.val (.int pp), .val (.int pq), .val (.long qc1), .second, .val (.long qc2), .second, .val (.int ps1), .val (.int ps2), .val (.int (Int32.ofNat n)), .val (.int kd1), .val (.int kd2), .val (.int (Int32.ofNat i)), .val (.int (Int32.ofNat j)), .val (.int (Int32.ofNat k)), .val .null, .val (.ref r13), .unset, .unset] [(.int (Int32.ofNat n)), (.ref b14), (.ref b14)]))
      obtain ⟨v15, T15, L15, X15, hQ15, st15⟩ := own_callI X14 hx hZ (y := (⟨"com/example/nearside/nearside/support/SplitDecimalArray", "<init>", "(I)V"⟩ : MethodName)) rfl hown (hw _ (List.mem_of_getElem? (i := 7) rfl)) (hw _ (List.mem_of_getElem? (i := 8) rfl)) (hw _ (List.mem_of_getElem? (i := 6) rfl)) (hw _ (List.mem_of_getElem? (i := 9) rfl)) (by decide) (W := 1) (rm2 l Z a0 hw [] b14 (Int32.ofNat n) n h14 n0 Z14 rfl hn4 E_b14 g_b14 F_compact_b14 F_scale_b14 F_whole_b14) (by decide) (by decide) (g := (mkF m 93 #[.val (.int pp), .val (.int pq), .val (.long qc1), .second, .val (.long qc2), .second, .val (.int ps1), .val (.int ps2), .val (.int (Int32.ofNat n)), .val (.int kd1), .val (.int kd2), .val (.int (Int32.ofNat i)), .val (.int (Int32.ofNat j)), .val (.int (Int32.ofNat k)), .val .null, .val (.ref r13), .unset, .unset] [(.int (Int32.ofNat n)), (.ref b14), (.ref b14)])) rfl (by rw [hml]; rfl) (a := b14) (argsL := [(.int (Int32.ofNat n))]) (rest := [(.ref b14)]) (lenOf pd_0_1 rfl) rfl (by show 2 * 0 + _ ≤ _; exact Nat.le_of_eq rfl) (hb hby at_93) e14 rfl (by decide) (by decide)
      obtain ⟨rfl, Nq15, Kq15, E_ao, ca, sc, sz1, sz2, ne_ca_sc, F_compact, F_scale, F_whole, V_ca, V_sc⟩ := hQ15
      have N15 := Fr.app N13 Nq15
      have g_ca : n0 ≤ ca := Nat.le_trans Z14 sz1
      have g_sc : n0 ≤ sc := Nat.le_trans Z14 sz2
      have ne_r13_ca : r13 ≠ ca := Nat.ne_of_lt (Nat.lt_of_lt_of_le E_r13_14.lt sz1)
      have ne_r13_sc : r13 ≠ sc := Nat.ne_of_lt (Nat.lt_of_lt_of_le E_r13_14.lt sz2)
      have ne_b14_ca : b14 ≠ ca := Nat.ne_of_lt (Nat.lt_of_lt_of_le E_b14.lt sz1)
      have ne_b14_sc : b14 ≠ sc := Nat.ne_of_lt (Nat.lt_of_lt_of_le E_b14.lt sz2)
      have E_r13_15 := E_r13_14.keep Kq15
      have F_compact_r13_15 := F_compact_r13_14.keep Kq15 (ninS ne_r13_b14 nin0)
      have F_scale_r13_15 := F_scale_r13_14.keep Kq15 (ninS ne_r13_b14 nin0)
      have E_b14_15 := E_b14.keep Kq15
      have Z15 : n0 ≤ T15.heap.size := Nat.le_trans Z14 Kq15.1
      refine own_go st15 ?_
      show OwnFin p e below s _ _ _ (T15.setTop (mkF m 96 #[.val (.int pp), .val (.int pq), .val (.long qc1), .second, .val (.long qc2), .second, .val (.int ps1), .val (.int ps2), .val (.int (Int32.ofNat n)), .val (.int kd1), .val (.int kd2), .val (.int (Int32.ofNat i)), .val (.int (Int32.ofNat j)), .val (.int (Int32.ofNat k)), .val .null, .val (.ref r13), .unset, .unset] [(.ref b14)]))
      refine own_go (fun t_ k_ => XS.astore X15.here hx rfl (hb hby at_96) rfl rfl (l' := #[.val (.int pp), .val (.int pq), .val (.long qc1), .second, .val (.long qc2), .second, .val (.int ps1), .val (.int ps2), .val (.int (Int32.ofNat n)), .val (.int kd1), .val (.int kd2), .val (.int (Int32.ofNat i)), .val (.int (Int32.ofNat j)), .val (.int (Int32.ofNat k)), .val .null, .val (.ref r13), .val (.ref b14), .unset]) rfl k_) ?_
      show OwnFin p e below s _ _ _ (T15.setTop (mkF m 98 #[.val (.int pp), .val (.int pq), .val (.long qc1), .second, .val (.long qc2), .second, .val (.int ps1), .val (.int ps2), .val (.int (Int32.ofNat n)), .val (.int kd1), .val (.int kd2), .val (.int (Int32.ofNat i)), .val (.int (Int32.ofNat j)), .val (.int (Int32.ofNat k)), .val .null, .val (.ref r13), .val (.ref b14), .unset] []))
      refine own_go (fun t_ k_ => XS.aload X15.here hx rfl (hb hby at_98) rfl rfl k_) ?_
      show OwnFin p e below s _ _ _ (T15.setTop (mkF m 100 #[.val (.int pp), .val (.int pq), .val (.long qc1), .second, .val (.long qc2), .second, .val (.int ps1), .val (.int ps2), .val (.int (Int32.ofNat n)), .val (.int kd1), .val (.int kd2), .val (.int (Int32.ofNat i)), .val (.int (Int32.ofNat j)), .val (.int (Int32.ofNat k)), .val .null, .val (.ref r13), .val (.ref b14), .unset] [(.ref b14)]))
      refine own_go (fun t_ k_ => XS.iload X15.here hx rfl (hb hby at_100) rfl k_) ?_
      show OwnFin p e below s _ _ _ (T15.setTop (mkF m 102 #[.val (.int pp), .val (.int pq), .val (.long qc1), .second, .val (.long qc2), .second, .val (.int ps1), .val (.int ps2), .val (.int (Int32.ofNat n)), .val (.int kd1), .val (.int kd2), .val (.int (Int32.ofNat i)), .val (.int (Int32.ofNat j)), .val (.int (Int32.ofNat k)), .val .null, .val (.ref r13), .val (.ref b14), .unset] [(.int (Int32.ofNat i)), (.ref b14)]))
      refine own_go (fun t_ k_ => XS.aload X15.here hx rfl (hb hby at_102) rfl rfl k_) ?_
      show OwnFin p e below s _ _ _ (T15.setTop (mkF m 104 #[.val (.int pp), .val (.int pq), .val (.long qc1), .second, .val (.long qc2), .second, .val (.int ps1), .val (.int ps2), .val (.int (Int32.ofNat n)), .val (.int kd1), .val (.int kd2), .val (.int (Int32.ofNat i)), .val (.int (Int32.ofNat j)), .val (.int (Int32.ofNat k)), .val .null, .val (.ref r13), .val (.ref b14), .unset] [.null, (.int (Int32.ofNat i)), (.ref b14)]))
      obtain ⟨v16, T16, L16, X16, hQ16, st16⟩ := own_callV X15 hx hZ (y := (⟨"com/example/nearside/nearside/support/SplitDecimalArray", "set", "(ILcom/example/nearside/nearside/support/SplitDecimal;)V"⟩ : MethodName)) (z := (⟨"com/example/nearside/nearside/support/SplitDecimalArray", "set", "(ILcom/example/nearside/nearside/support/SplitDecimal;)V"⟩ : MethodName)) hown (hw _ (List.mem_of_getElem? (i := 24) rfl)) (hw _ (List.mem_of_getElem? (i := 25) rfl)) (notFace_of_selects (args := #[]) (mvT hZ (hw _ (List.mem_of_getElem? (i := 27) rfl)))) (hw _ (List.mem_of_getElem? (i := 27) rfl)) (hw _ (List.mem_of_getElem? (i := 26) rfl)) (hw _ (List.mem_of_getElem? (i := 6) rfl)) (hw _ (List.mem_of_getElem? (i := 28) rfl)) (by decide) (W := 0) (rm5_N0 l Z a0 hw [] b14 (Int32.ofNat i) ca sc n i (fun _ => (-9223372036854775808 : Int64)) (fun _ => (0 : Int32)) T15.heap n0 Z15 rfl hin hn4 E_ao F_compact F_scale F_whole V_ca V_sc ne_b14_ca ne_b14_sc ne_ca_sc g_ca) (by decide) (by decide) E_ao (g := (mkF m 104 #[.val (.int pp), .val (.int pq), .val (.long qc1), .second, .val (.long qc2), .second, .val (.int ps1), .val (.int ps2), .val (.int (Int32.ofNat n)), .val (.int kd1), .val (.int kd2), .val (.int (Int32.ofNat i)), .val (.int (Int32.ofNat j)), .val (.int (Int32.ofNat k)), .val .null, .val (.ref r13), .val (.ref b14), .unset] [.null, (.int (Int32.ofNat i)), (.ref b14)])) rfl (by rw [hml]; rfl) (argsL := [(.int (Int32.ofNat i)), .null]) (rest := []) (lenOf pd_0_4 rfl) rfl (by show 2 * 0 + _ ≤ _; exact Nat.le_of_eq rfl) (hb hby at_104) rfl rfl (by decide) (by decide)
      obtain ⟨rfl, Nq16, Kq16, Vc16⟩ := hQ16
      have N16 := Fr.app N15 Nq16
      have E_r13_16 := E_r13_15.keep Kq16
      have F_compact_r13_16 := F_compact_r13_15.keep Kq16 (ninS ne_r13_ca nin0)
      have F_scale_r13_16 := F_scale_r13_15.keep Kq16 (ninS ne_r13_ca nin0)
      have E_ao_16 := E_ao.keep Kq16
      have F_compact_16 := F_compact.keep Kq16 (ninS ne_b14_ca nin0)
      have F_scale_16 := F_scale.keep Kq16 (ninS ne_b14_ca nin0)
      have F_whole_16 := F_whole.keep Kq16 (ninS ne_b14_ca nin0)
      have V_sc_16 := V_sc.keep Kq16 (ninS (Ne.symm ne_ca_sc) nin0)
      have Z16 : n0 ≤ T16.heap.size := Nat.le_trans Z15 Kq16.1
      refine own_go st16 ?_
      show OwnFin p e below s _ _ _ (T16.setTop (mkF m 107 #[.val (.int pp), .val (.int pq), .val (.long qc1), .second, .val (.long qc2), .second, .val (.int ps1), .val (.int ps2), .val (.int (Int32.ofNat n)), .val (.int kd1), .val (.int kd2), .val (.int (Int32.ofNat i)), .val (.int (Int32.ofNat j)), .val (.int (Int32.ofNat k)), .val .null, .val (.ref r13), .val (.ref b14), .unset] []))
      refine own_go (fun t_ k_ => XS.aload X16.here hx rfl (hb hby at_107) rfl rfl k_) ?_
      show OwnFin p e below s _ _ _ (T16.setTop (mkF m 109 #[.val (.int pp), .val (.int pq), .val (.long qc1), .second, .val (.long qc2), .second, .val (.int ps1), .val (.int ps2), .val (.int (Int32.ofNat n)), .val (.int kd1), .val (.int kd2), .val (.int (Int32.ofNat i)), .val (.int (Int32.ofNat j)), .val (.int (Int32.ofNat k)), .val .null, .val (.ref r13), .val (.ref b14), .unset] [(.ref b14)]))
      refine own_go (fun t_ k_ => XS.iload X16.here hx rfl (hb hby at_109) rfl k_) ?_
      show OwnFin p e below s _ _ _ (T16.setTop (mkF m 111 #[.val (.int pp), .val (.int pq), .val (.long qc1), .second, .val (.long qc2), .second, .val (.int ps1), .val (.int ps2), .val (.int (Int32.ofNat n)), .val (.int kd1), .val (.int kd2), .val (.int (Int32.ofNat i)), .val (.int (Int32.ofNat j)), .val (.int (Int32.ofNat k)), .val .null, .val (.ref r13), .val (.ref b14), .unset] [(.int (Int32.ofNat j)), (.ref b14)]))
      refine own_go (fun t_ k_ => XS.aload X16.here hx rfl (hb hby at_111) rfl rfl k_) ?_
      show OwnFin p e below s _ _ _ (T16.setTop (mkF m 113 #[.val (.int pp), .val (.int pq), .val (.long qc1), .second, .val (.long qc2), .second, .val (.int ps1), .val (.int ps2), .val (.int (Int32.ofNat n)), .val (.int kd1), .val (.int kd2), .val (.int (Int32.ofNat i)), .val (.int (Int32.ofNat j)), .val (.int (Int32.ofNat k)), .val .null, .val (.ref r13), .val (.ref b14), .unset] [(.ref r13), (.int (Int32.ofNat j)), (.ref b14)]))
      obtain ⟨v17, T17, L17, X17, hQ17, st17⟩ := own_callV X16 hx hZ (y := (⟨"com/example/nearside/nearside/support/SplitDecimalArray", "set", "(ILcom/example/nearside/nearside/support/SplitDecimal;)V"⟩ : MethodName)) (z := (⟨"com/example/nearside/nearside/support/SplitDecimalArray", "set", "(ILcom/example/nearside/nearside/support/SplitDecimal;)V"⟩ : MethodName)) hown (hw _ (List.mem_of_getElem? (i := 24) rfl)) (hw _ (List.mem_of_getElem? (i := 25) rfl)) (notFace_of_selects (args := #[]) (mvT hZ (hw _ (List.mem_of_getElem? (i := 27) rfl)))) (hw _ (List.mem_of_getElem? (i := 27) rfl)) (hw _ (List.mem_of_getElem? (i := 26) rfl)) (hw _ (List.mem_of_getElem? (i := 6) rfl)) (hw _ (List.mem_of_getElem? (i := 28) rfl)) (by decide) (W := 0) (rm5_C0 l Z a0 hw [] b14 (Int32.ofNat j) r13 ca sc n j (fun z => if z = i then (-9223372036854775808 : Int64) else (fun _ => (-9223372036854775808 : Int64)) z) (fun _ => (0 : Int32)) T16.heap n0 Z16 rfl hjn hn4 E_ao_16 F_compact_16 F_scale_16 F_whole_16 Vc16 V_sc_16 E_r13_16 F_compact_r13_16 F_scale_r13_16 (own_cw _) ne_b14_ca ne_b14_sc ne_ca_sc ne_r13_ca ne_r13_sc (Ne.symm ne_r13_b14) g_ca g_sc) (by decide) (by decide) E_ao_16 (g := (mkF m 113 #[.val (.int pp), .val (.int pq), .val (.long qc1), .second, .val (.long qc2), .second, .val (.int ps1), .val (.int ps2), .val (.int (Int32.ofNat n)), .val (.int kd1), .val (.int kd2), .val (.int (Int32.ofNat i)), .val (.int (Int32.ofNat j)), .val (.int (Int32.ofNat k)), .val .null, .val (.ref r13), .val (.ref b14), .unset] [(.ref r13), (.int (Int32.ofNat j)), (.ref b14)])) rfl (by rw [hml]; rfl) (argsL := [(.int (Int32.ofNat j)), (.ref r13)]) (rest := []) (lenOf pd_0_4 rfl) rfl (by show 2 * 0 + _ ≤ _; exact Nat.le_of_eq rfl) (hb hby at_113) rfl rfl (by decide) (by decide)
      obtain ⟨rfl, Nq17, Kq17, Vc17, Vs17⟩ := hQ17
      have N17 := Fr.app N16 Nq17
      have E_r13_17 := E_r13_16.keep Kq17
      have F_compact_r13_17 := F_compact_r13_16.keep Kq17 (ninS ne_r13_ca (ninS ne_r13_sc nin0))
      have F_scale_r13_17 := F_scale_r13_16.keep Kq17 (ninS ne_r13_ca (ninS ne_r13_sc nin0))
      have E_ao_17 := E_ao_16.keep Kq17
      have F_compact_17 := F_compact_16.keep Kq17 (ninS ne_b14_ca (ninS ne_b14_sc nin0))
      have F_scale_17 := F_scale_16.keep Kq17 (ninS ne_b14_ca (ninS ne_b14_sc nin0))
      have F_whole_17 := F_whole_16.keep Kq17 (ninS ne_b14_ca (ninS ne_b14_sc nin0))
      have Z17 : n0 ≤ T17.heap.size := Nat.le_trans Z16 Kq17.1
      refine own_go st17 ?_
      show OwnFin p e below s _ _ _ (T17.setTop (mkF m 116 #[.val (.int pp), .val (.int pq), .val (.long qc1), .second, .val (.long qc2), .second, .val (.int ps1), .val (.int ps2), .val (.int (Int32.ofNat n)), .val (.int kd1), .val (.int kd2), .val (.int (Int32.ofNat i)), .val (.int (Int32.ofNat j)), .val (.int (Int32.ofNat k)), .val .null, .val (.ref r13), .val (.ref b14), .unset] []))
      refine own_go (fun t_ k_ => XS.aload X17.here hx rfl (hb hby at_116) rfl rfl k_) ?_
      show OwnFin p e below s _ _ _ (T17.setTop (mkF m 118 #[.val (.int pp), .val (.int pq), .val (.long qc1), .second, .val (.long qc2), .second, .val (.int ps1), .val (.int ps2), .val (.int (Int32.ofNat n)), .val (.int kd1), .val (.int kd2), .val (.int (Int32.ofNat i)), .val (.int (Int32.ofNat j)), .val (.int (Int32.ofNat k)), .val .null, .val (.ref r13), .val (.ref b14), .unset] [(.ref b14)]))
      refine own_go (fun t_ k_ => XS.iload X17.here hx rfl (hb hby at_118) rfl k_) ?_
      show OwnFin p e below s _ _ _ (T17.setTop (mkF m 120 #[.val (.int pp), .val (.int pq), .val (.long qc1), .second, .val (.long qc2), .second, .val (.int ps1), .val (.int ps2), .val (.int (Int32.ofNat n)), .val (.int kd1), .val (.int kd2), .val (.int (Int32.ofNat i)), .val (.int (Int32.ofNat j)), .val (.int (Int32.ofNat k)), .val .null, .val (.ref r13), .val (.ref b14), .unset] [(.int (Int32.ofNat j)), (.ref b14)]))
      obtain ⟨v18, T18, L18, X18, hQ18, st18⟩ := own_callV X17 hx hZ (y := (⟨"com/example/nearside/nearside/support/SplitDecimalArray", "get", "(I)Lcom/example/nearside/nearside/support/SplitDecimal;"⟩ : MethodName)) (z := (⟨"com/example/nearside/nearside/support/SplitDecimalArray", "get", "(I)Lcom/example/nearside/nearside/support/SplitDecimal;"⟩ : MethodName)) hown (hw _ (List.mem_of_getElem? (i := 31) rfl)) (hw _ (List.mem_of_getElem? (i := 32) rfl)) (notFace_of_selects (args := #[]) (mvT hZ (hw _ (List.mem_of_getElem? (i := 34) rfl)))) (hw _ (List.mem_of_getElem? (i := 34) rfl)) (hw _ (List.mem_of_getElem? (i := 33) rfl)) (hw _ (List.mem_of_getElem? (i := 6) rfl)) (hw _ (List.mem_of_getElem? (i := 35) rfl)) (by decide) (W := 0) (rm6_C l Z a0 hw [] b14 (Int32.ofNat j) ca sc n j (fun z => if z = j then (own_c qc2) else (fun z => if z = i then (-9223372036854775808 : Int64) else (fun _ => (-9223372036854775808 : Int64)) z) z) (fun z => if z = j then ps2 else (fun _ => (0 : Int32)) z) (own_c qc2) ps2 T17.heap n0 Z17 rfl hjn F_compact_17 F_scale_17 Vc17 Vs17 (by (try dsimp only); rw [if_pos rfl]) (by (try dsimp only); rw [if_pos rfl]) (own_cw _)) (by decide) (by decide) E_ao_17 (g := (mkF m 120 #[.val (.int pp), .val (.int pq), .val (.long qc1), .second, .val (.long qc2), .second, .val (.int ps1), .val (.int ps2), .val (.int (Int32.ofNat n)), .val (.int kd1), .val (.int kd2), .val (.int (Int32.ofNat i)), .val (.int (Int32.ofNat j)), .val (.int (Int32.ofNat k)), .val .null, .val (.ref r13), .val (.ref b14), .unset] [(.int (Int32.ofNat j)), (.ref b14)])) rfl (by rw [hml]; rfl) (argsL := [(.int (Int32.ofNat j))]) (rest := []) (lenOf pd_0_5 rfl) rfl (by show 2 * 0 + _ ≤ _; exact Nat.le_of_eq rfl) (hb hby at_120) rfl rfl (by decide) (by decide)
      obtain ⟨r18, rfl, Nq18, Kq18, sq18, Eq18, Fq18_0, Fq18_1⟩ := hQ18
      have N18 := Fr.app N17 Nq18
      have g_r18 : n0 ≤ r18 := Nat.le_trans Z17 sq18
      have ne_r13_r18 : r13 ≠ r18 := Nat.ne_of_lt (Nat.lt_of_lt_of_le E_r13_17.lt sq18)
      have ne_b14_r18 : b14 ≠ r18 := Nat.ne_of_lt (Nat.lt_of_lt_of_le E_ao_17.lt sq18)
      have ne_ca_r18 : ca ≠ r18 := Nat.ne_of_lt (Nat.lt_of_lt_of_le Vc17.lt sq18)
      have ne_sc_r18 : sc ≠ r18 := Nat.ne_of_lt (Nat.lt_of_lt_of_le Vs17.lt sq18)
      have E_r13_18 := E_r13_17.keep Kq18
      have F_compact_r13_18 := F_compact_r13_17.keep Kq18 nin0
      have F_scale_r13_18 := F_scale_r13_17.keep Kq18 nin0
      have E_ao_18 := E_ao_17.keep Kq18
      have F_compact_18 := F_compact_17.keep Kq18 nin0
      have F_scale_18 := F_scale_17.keep Kq18 nin0
      have F_whole_18 := F_whole_17.keep Kq18 nin0
      have Vc17_18 := Vc17.keep Kq18 nin0
      have Vs17_18 := Vs17.keep Kq18 nin0
      have Z18 : n0 ≤ T18.heap.size := Nat.le_trans Z17 Kq18.1
      refine own_go st18 ?_
      show OwnFin p e below s _ _ _ (T18.setTop (mkF m 123 #[.val (.int pp), .val (.int pq), .val (.long qc1), .second, .val (.long qc2), .second, .val (.int ps1), .val (.int ps2), .val (.int (Int32.ofNat n)), .val (.int kd1), .val (.int kd2), .val (.int (Int32.ofNat i)), .val (.int (Int32.ofNat j)), .val (.int (Int32.ofNat k)), .val .null, .val (.ref r13), .val (.ref b14), .unset] [(.ref r18)]))
      refine own_go (fun t_ k_ => XS.aload X18.here hx rfl (hb hby at_123) rfl rfl k_) ?_
      show OwnFin p e below s _ _ _ (T18.setTop (mkF m 125 #[.val (.int pp), .val (.int pq), .val (.long qc1), .second, .val (.long qc2), .second, .val (.int ps1), .val (.int ps2), .val (.int (Int32.ofNat n)), .val (.int kd1), .val (.int kd2), .val (.int (Int32.ofNat i)), .val (.int (Int32.ofNat j)), .val (.int (Int32.ofNat k)), .val .null, .val (.ref r13), .val (.ref b14), .unset] [(.ref r13), (.ref r18)]))
      obtain ⟨v19, T19, L19, X19, hQ19, st19⟩ := own_callS X18 hx hZ (y := (⟨"com/example/nearside/nearside/support/SplitDecimalArraySetPinLaw", "holds", "(Lcom/example/nearside/nearside/support/SplitDecimal;Lcom/example/nearside/nearside/support/SplitDecimal;)Z"⟩ : MethodName)) hown (hw _ (List.mem_of_getElem? (i := 36) rfl)) (hw _ (List.mem_of_getElem? (i := 37) rfl)) (hw _ (List.mem_of_getElem? (i := 2) rfl)) (hw _ (List.mem_of_getElem? (i := 38) rfl)) (by decide) (W := 0) (rm7_C l Z a0 hw [] r18 r13 T18.heap n0 Z18 (own_cw _) Fq18_0 Fq18_1 F_compact_r13_18 F_scale_r13_18) (by decide) (by decide) (g := (mkF m 125 #[.val (.int pp), .val (.int pq), .val (.long qc1), .second, .val (.long qc2), .second, .val (.int ps1), .val (.int ps2), .val (.int (Int32.ofNat n)), .val (.int kd1), .val (.int kd2), .val (.int (Int32.ofNat i)), .val (.int (Int32.ofNat j)), .val (.int (Int32.ofNat k)), .val .null, .val (.ref r13), .val (.ref b14), .unset] [(.ref r13), (.ref r18)])) rfl (by rw [hml]; rfl) (argsL := [(.ref r18), (.ref r13)]) (rest := []) (lenOf pd_0_6 rfl) rfl (by show 2 * 0 + _ ≤ _; exact Nat.le_of_eq rfl) (hb hby at_125) rfl rfl (by decide) (by decide)
      obtain ⟨rfl, Nq19, e19⟩ := hQ19
      have N19 := Fr.app N18 Nq19
      refine own_go st19 ?_
      show OwnFin p e below s _ _ _ (T19.setTop (mkF m 128 #[.val (.int pp), .val (.int pq), .val (.long qc1), .second, .val (.long qc2), .second, .val (.int ps1), .val (.int ps2), .val (.int (Int32.ofNat n)), .val (.int kd1), .val (.int kd2), .val (.int (Int32.ofNat i)), .val (.int (Int32.ofNat j)), .val (.int (Int32.ofNat k)), .val .null, .val (.ref r13), .val (.ref b14), .unset] [(.int (1 : Int32))]))
      refine own_go (fun t_ k_ => XS.istore X19.here hx rfl (hb hby at_128) rfl (l' := #[.val (.int pp), .val (.int pq), .val (.long qc1), .second, .val (.long qc2), .second, .val (.int ps1), .val (.int ps2), .val (.int (Int32.ofNat n)), .val (.int kd1), .val (.int kd2), .val (.int (Int32.ofNat i)), .val (.int (Int32.ofNat j)), .val (.int (Int32.ofNat k)), .val .null, .val (.ref r13), .val (.ref b14), .val (.int (1 : Int32))]) rfl k_) ?_
      show OwnFin p e below s _ _ _ (T19.setTop (mkF m 130 #[.val (.int pp), .val (.int pq), .val (.long qc1), .second, .val (.long qc2), .second, .val (.int ps1), .val (.int ps2), .val (.int (Int32.ofNat n)), .val (.int kd1), .val (.int kd2), .val (.int (Int32.ofNat i)), .val (.int (Int32.ofNat j)), .val (.int (Int32.ofNat k)), .val .null, .val (.ref r13), .val (.ref b14), .val (.int (1 : Int32))] []))
      by_cases hij : i = j
      · refine own_go (fun t_ k_ => XS.iload X19.here hx rfl (hb hby at_130) rfl k_) ?_
        show OwnFin p e below s _ _ _ (T19.setTop (mkF m 132 #[.val (.int pp), .val (.int pq), .val (.long qc1), .second, .val (.long qc2), .second, .val (.int ps1), .val (.int ps2), .val (.int (Int32.ofNat n)), .val (.int kd1), .val (.int kd2), .val (.int (Int32.ofNat i)), .val (.int (Int32.ofNat j)), .val (.int (Int32.ofNat k)), .val .null, .val (.ref r13), .val (.ref b14), .val (.int (1 : Int32))] [(.int (Int32.ofNat i))]))
        refine own_go (fun t_ k_ => XS.iload X19.here hx rfl (hb hby at_132) rfl k_) ?_
        show OwnFin p e below s _ _ _ (T19.setTop (mkF m 134 #[.val (.int pp), .val (.int pq), .val (.long qc1), .second, .val (.long qc2), .second, .val (.int ps1), .val (.int ps2), .val (.int (Int32.ofNat n)), .val (.int kd1), .val (.int kd2), .val (.int (Int32.ofNat i)), .val (.int (Int32.ofNat j)), .val (.int (Int32.ofNat k)), .val .null, .val (.ref r13), .val (.ref b14), .val (.int (1 : Int32))] [(.int (Int32.ofNat j)), (.int (Int32.ofNat i))]))
        have hc134 : (Int32.ofNat i) = (Int32.ofNat j) := by rw [hij]
        refine own_go (fun t_ k_ => XS.icmpYes X19.here hx rfl (pc0 := 134) (pc' := 164) rfl (hb hby at_134) rfl (teq hc134).1 (by decide) (by decide) k_) ?_
        show OwnFin p e below s _ _ _ (T19.setTop (mkF m 164 #[.val (.int pp), .val (.int pq), .val (.long qc1), .second, .val (.long qc2), .second, .val (.int ps1), .val (.int ps2), .val (.int (Int32.ofNat n)), .val (.int kd1), .val (.int kd2), .val (.int (Int32.ofNat i)), .val (.int (Int32.ofNat j)), .val (.int (Int32.ofNat k)), .val .null, .val (.ref r13), .val (.ref b14), .val (.int (1 : Int32))] []))
        by_cases hki : k = i
        · refine own_go (fun t_ k_ => XS.iload X19.here hx rfl (hb hby at_164) rfl k_) ?_
          show OwnFin p e below s _ _ _ (T19.setTop (mkF m 166 #[.val (.int pp), .val (.int pq), .val (.long qc1), .second, .val (.long qc2), .second, .val (.int ps1), .val (.int ps2), .val (.int (Int32.ofNat n)), .val (.int kd1), .val (.int kd2), .val (.int (Int32.ofNat i)), .val (.int (Int32.ofNat j)), .val (.int (Int32.ofNat k)), .val .null, .val (.ref r13), .val (.ref b14), .val (.int (1 : Int32))] [(.int (Int32.ofNat k))]))
          refine own_go (fun t_ k_ => XS.iload X19.here hx rfl (hb hby at_166) rfl k_) ?_
          show OwnFin p e below s _ _ _ (T19.setTop (mkF m 168 #[.val (.int pp), .val (.int pq), .val (.long qc1), .second, .val (.long qc2), .second, .val (.int ps1), .val (.int ps2), .val (.int (Int32.ofNat n)), .val (.int kd1), .val (.int kd2), .val (.int (Int32.ofNat i)), .val (.int (Int32.ofNat j)), .val (.int (Int32.ofNat k)), .val .null, .val (.ref r13), .val (.ref b14), .val (.int (1 : Int32))] [(.int (Int32.ofNat i)), (.int (Int32.ofNat k))]))
          have hc168 : (Int32.ofNat k) = (Int32.ofNat i) := by rw [hki]
          refine own_go (fun t_ k_ => XS.icmpYes X19.here hx rfl (pc0 := 168) (pc' := 200) rfl (hb hby at_168) rfl (teq hc168).1 (by decide) (by decide) k_) ?_
          show OwnFin p e below s _ _ _ (T19.setTop (mkF m 200 #[.val (.int pp), .val (.int pq), .val (.long qc1), .second, .val (.long qc2), .second, .val (.int ps1), .val (.int ps2), .val (.int (Int32.ofNat n)), .val (.int kd1), .val (.int kd2), .val (.int (Int32.ofNat i)), .val (.int (Int32.ofNat j)), .val (.int (Int32.ofNat k)), .val .null, .val (.ref r13), .val (.ref b14), .val (.int (1 : Int32))] []))
          refine own_go (fun t_ k_ => XS.iload X19.here hx rfl (hb hby at_200) rfl k_) ?_
          show OwnFin p e below s _ _ _ (T19.setTop (mkF m 202 #[.val (.int pp), .val (.int pq), .val (.long qc1), .second, .val (.long qc2), .second, .val (.int ps1), .val (.int ps2), .val (.int (Int32.ofNat n)), .val (.int kd1), .val (.int kd2), .val (.int (Int32.ofNat i)), .val (.int (Int32.ofNat j)), .val (.int (Int32.ofNat k)), .val .null, .val (.ref r13), .val (.ref b14), .val (.int (1 : Int32))] [(.int (1 : Int32))]))
          refine own_ret X19 (v := some (.int (1 : Int32))) hlk (fun hh => by rw [hret] at hh; cases hh) (fun fs hr => retN X19 hx (t := .boolean) hret (by simp) (hb hby at_202) hr) (by decide) (by decide) ?_
          exact ⟨rfl, N19⟩
        · refine own_go (fun t_ k_ => XS.iload X19.here hx rfl (hb hby at_164) rfl k_) ?_
          show OwnFin p e below s _ _ _ (T19.setTop (mkF m 166 #[.val (.int pp), .val (.int pq), .val (.long qc1), .second, .val (.long qc2), .second, .val (.int ps1), .val (.int ps2), .val (.int (Int32.ofNat n)), .val (.int kd1), .val (.int kd2), .val (.int (Int32.ofNat i)), .val (.int (Int32.ofNat j)), .val (.int (Int32.ofNat k)), .val .null, .val (.ref r13), .val (.ref b14), .val (.int (1 : Int32))] [(.int (Int32.ofNat k))]))
          refine own_go (fun t_ k_ => XS.iload X19.here hx rfl (hb hby at_166) rfl k_) ?_
          show OwnFin p e below s _ _ _ (T19.setTop (mkF m 168 #[.val (.int pp), .val (.int pq), .val (.long qc1), .second, .val (.long qc2), .second, .val (.int ps1), .val (.int ps2), .val (.int (Int32.ofNat n)), .val (.int kd1), .val (.int kd2), .val (.int (Int32.ofNat i)), .val (.int (Int32.ofNat j)), .val (.int (Int32.ofNat k)), .val .null, .val (.ref r13), .val (.ref b14), .val (.int (1 : Int32))] [(.int (Int32.ofNat i)), (.int (Int32.ofNat k))]))
          have hc168 : ¬ ((Int32.ofNat k) = (Int32.ofNat i)) := fun q => hki (own_ofNat_inj (by omega) (by omega) q)
          refine own_go (fun t_ k_ => XS.icmpNo X19.here hx rfl (hb hby at_168) rfl (feq hc168).1 k_) ?_
          show OwnFin p e below s _ _ _ (T19.setTop (mkF m 171 #[.val (.int pp), .val (.int pq), .val (.long qc1), .second, .val (.long qc2), .second, .val (.int ps1), .val (.int ps2), .val (.int (Int32.ofNat n)), .val (.int kd1), .val (.int kd2), .val (.int (Int32.ofNat i)), .val (.int (Int32.ofNat j)), .val (.int (Int32.ofNat k)), .val .null, .val (.ref r13), .val (.ref b14), .val (.int (1 : Int32))] []))
          by_cases hkj : k = j
          · refine own_go (fun t_ k_ => XS.iload X19.here hx rfl (hb hby at_171) rfl k_) ?_
            show OwnFin p e below s _ _ _ (T19.setTop (mkF m 173 #[.val (.int pp), .val (.int pq), .val (.long qc1), .second, .val (.long qc2), .second, .val (.int ps1), .val (.int ps2), .val (.int (Int32.ofNat n)), .val (.int kd1), .val (.int kd2), .val (.int (Int32.ofNat i)), .val (.int (Int32.ofNat j)), .val (.int (Int32.ofNat k)), .val .null, .val (.ref r13), .val (.ref b14), .val (.int (1 : Int32))] [(.int (Int32.ofNat k))]))
            refine own_go (fun t_ k_ => XS.iload X19.here hx rfl (hb hby at_173) rfl k_) ?_
            show OwnFin p e below s _ _ _ (T19.setTop (mkF m 175 #[.val (.int pp), .val (.int pq), .val (.long qc1), .second, .val (.long qc2), .second, .val (.int ps1), .val (.int ps2), .val (.int (Int32.ofNat n)), .val (.int kd1), .val (.int kd2), .val (.int (Int32.ofNat i)), .val (.int (Int32.ofNat j)), .val (.int (Int32.ofNat k)), .val .null, .val (.ref r13), .val (.ref b14), .val (.int (1 : Int32))] [(.int (Int32.ofNat j)), (.int (Int32.ofNat k))]))
            have hc175 : (Int32.ofNat k) = (Int32.ofNat j) := by rw [hkj]
            refine own_go (fun t_ k_ => XS.icmpYes X19.here hx rfl (pc0 := 175) (pc' := 200) rfl (hb hby at_175) rfl (teq hc175).1 (by decide) (by decide) k_) ?_
            show OwnFin p e below s _ _ _ (T19.setTop (mkF m 200 #[.val (.int pp), .val (.int pq), .val (.long qc1), .second, .val (.long qc2), .second, .val (.int ps1), .val (.int ps2), .val (.int (Int32.ofNat n)), .val (.int kd1), .val (.int kd2), .val (.int (Int32.ofNat i)), .val (.int (Int32.ofNat j)), .val (.int (Int32.ofNat k)), .val .null, .val (.ref r13), .val (.ref b14), .val (.int (1 : Int32))] []))
            refine own_go (fun t_ k_ => XS.iload X19.here hx rfl (hb hby at_200) rfl k_) ?_
            show OwnFin p e below s _ _ _ (T19.setTop (mkF m 202 #[.val (.int pp), .val (.int pq), .val (.long qc1), .second, .val (.long qc2), .second, .val (.int ps1), .val (.int ps2), .val (.int (Int32.ofNat n)), .val (.int kd1), .val (.int kd2), .val (.int (Int32.ofNat i)), .val (.int (Int32.ofNat j)), .val (.int (Int32.ofNat k)), .val .null, .val (.ref r13), .val (.ref b14), .val (.int (1 : Int32))] [(.int (1 : Int32))]))
            refine own_ret X19 (v := some (.int (1 : Int32))) hlk (fun hh => by rw [hret] at hh; cases hh) (fun fs hr => retN X19 hx (t := .boolean) hret (by simp) (hb hby at_202) hr) (by decide) (by decide) ?_
            exact ⟨rfl, N19⟩
          · refine own_go (fun t_ k_ => XS.iload X19.here hx rfl (hb hby at_171) rfl k_) ?_
            show OwnFin p e below s _ _ _ (T19.setTop (mkF m 173 #[.val (.int pp), .val (.int pq), .val (.long qc1), .second, .val (.long qc2), .second, .val (.int ps1), .val (.int ps2), .val (.int (Int32.ofNat n)), .val (.int kd1), .val (.int kd2), .val (.int (Int32.ofNat i)), .val (.int (Int32.ofNat j)), .val (.int (Int32.ofNat k)), .val .null, .val (.ref r13), .val (.ref b14), .val (.int (1 : Int32))] [(.int (Int32.ofNat k))]))
            refine own_go (fun t_ k_ => XS.iload X19.here hx rfl (hb hby at_173) rfl k_) ?_
            show OwnFin p e below s _ _ _ (T19.setTop (mkF m 175 #[.val (.int pp), .val (.int pq), .val (.long qc1), .second, .val (.long qc2), .second, .val (.int ps1), .val (.int ps2), .val (.int (Int32.ofNat n)), .val (.int kd1), .val (.int kd2), .val (.int (Int32.ofNat i)), .val (.int (Int32.ofNat j)), .val (.int (Int32.ofNat k)), .val .null, .val (.ref r13), .val (.ref b14), .val (.int (1 : Int32))] [(.int (Int32.ofNat j)), (.int (Int32.ofNat k))]))
            have hc175 : ¬ ((Int32.ofNat k) = (Int32.ofNat j)) := fun q => hkj (own_ofNat_inj (by omega) (by omega) q)
            refine own_go (fun t_ k_ => XS.icmpNo X19.here hx rfl (hb hby at_175) rfl (feq hc175).1 k_) ?_
            show OwnFin p e below s _ _ _ (T19.setTop (mkF m 178 #[.val (.int pp), .val (.int pq), .val (.long qc1), .second, .val (.long qc2), .second, .val (.int ps1), .val (.int ps2), .val (.int (Int32.ofNat n)), .val (.int kd1), .val (.int kd2), .val (.int (Int32.ofNat i)), .val (.int (Int32.ofNat j)), .val (.int (Int32.ofNat k)), .val .null, .val (.ref r13), .val (.ref b14), .val (.int (1 : Int32))] []))
            refine own_go (fun t_ k_ => XS.iload X19.here hx rfl (hb hby at_178) rfl k_) ?_
            show OwnFin p e below s _ _ _ (T19.setTop (mkF m 180 #[.val (.int pp), .val (.int pq), .val (.long qc1), .second, .val (.long qc2), .second, .val (.int ps1), .val (.int ps2), .val (.int (Int32.ofNat n)), .val (.int kd1), .val (.int kd2), .val (.int (Int32.ofNat i)), .val (.int (Int32.ofNat j)), .val (.int (Int32.ofNat k)), .val .null, .val (.ref r13), .val (.ref b14), .val (.int (1 : Int32))] [(.int (1 : Int32))]))
            refine own_go (fun t_ k_ => XS.ifNo X19.here hx rfl (hb hby at_180) rfl ((if0 _ _).trans (feq (by decide)).1) k_) ?_
            show OwnFin p e below s _ _ _ (T19.setTop (mkF m 183 #[.val (.int pp), .val (.int pq), .val (.long qc1), .second, .val (.long qc2), .second, .val (.int ps1), .val (.int ps2), .val (.int (Int32.ofNat n)), .val (.int kd1), .val (.int kd2), .val (.int (Int32.ofNat i)), .val (.int (Int32.ofNat j)), .val (.int (Int32.ofNat k)), .val .null, .val (.ref r13), .val (.ref b14), .val (.int (1 : Int32))] []))
            refine own_go (fun t_ k_ => XS.aload X19.here hx rfl (hb hby at_183) rfl rfl k_) ?_
            show OwnFin p e below s _ _ _ (T19.setTop (mkF m 185 #[.val (.int pp), .val (.int pq), .val (.long qc1), .second, .val (.long qc2), .second, .val (.int ps1), .val (.int ps2), .val (.int (Int32.ofNat n)), .val (.int kd1), .val (.int kd2), .val (.int (Int32.ofNat i)), .val (.int (Int32.ofNat j)), .val (.int (Int32.ofNat k)), .val .null, .val (.ref r13), .val (.ref b14), .val (.int (1 : Int32))] [(.ref b14)]))
            refine own_go (fun t_ k_ => XS.iload X19.here hx rfl (hb hby at_185) rfl k_) ?_
            show OwnFin p e below s _ _ _ (T19.setTop (mkF m 187 #[.val (.int pp), .val (.int pq), .val (.long qc1), .second, .val (.long qc2), .second, .val (.int ps1), .val (.int ps2), .val (.int (Int32.ofNat n)), .val (.int kd1), .val (.int kd2), .val (.int (Int32.ofNat i)), .val (.int (Int32.ofNat j)), .val (.int (Int32.ofNat k)), .val .null, .val (.ref r13), .val (.ref b14), .val (.int (1 : Int32))] [(.int (Int32.ofNat k)), (.ref b14)]))
            obtain ⟨v20, T20, L20, X20, hQ20, st20⟩ := own_callV X19 hx hZ (y := (⟨"com/example/nearside/nearside/support/SplitDecimalArray", "get", "(I)Lcom/example/nearside/nearside/support/SplitDecimal;"⟩ : MethodName)) (z := (⟨"com/example/nearside/nearside/support/SplitDecimalArray", "get", "(I)Lcom/example/nearside/nearside/support/SplitDecimal;"⟩ : MethodName)) hown (hw _ (List.mem_of_getElem? (i := 31) rfl)) (hw _ (List.mem_of_getElem? (i := 32) rfl)) (notFace_of_selects (args := #[]) (mvT hZ (hw _ (List.mem_of_getElem? (i := 34) rfl)))) (hw _ (List.mem_of_getElem? (i := 34) rfl)) (hw _ (List.mem_of_getElem? (i := 33) rfl)) (hw _ (List.mem_of_getElem? (i := 6) rfl)) (hw _ (List.mem_of_getElem? (i := 35) rfl)) (by decide) (W := 0) (rm6_N l Z a0 hw [] b14 (Int32.ofNat k) ca n k (fun z => if z = j then (own_c qc2) else (fun z => if z = i then (-9223372036854775808 : Int64) else (fun _ => (-9223372036854775808 : Int64)) z) z) T18.heap n0 Z18 rfl hkn F_compact_18 F_whole_18 Vc17_18 (by (try dsimp only); rw [if_neg hkj, if_neg hki])) (by decide) (by decide) E_ao_18 (g := (mkF m 187 #[.val (.int pp), .val (.int pq), .val (.long qc1), .second, .val (.long qc2), .second, .val (.int ps1), .val (.int ps2), .val (.int (Int32.ofNat n)), .val (.int kd1), .val (.int kd2), .val (.int (Int32.ofNat i)), .val (.int (Int32.ofNat j)), .val (.int (Int32.ofNat k)), .val .null, .val (.ref r13), .val (.ref b14), .val (.int (1 : Int32))] [(.int (Int32.ofNat k)), (.ref b14)])) rfl (by rw [hml]; rfl) (argsL := [(.int (Int32.ofNat k))]) (rest := []) (lenOf pd_0_5 rfl) rfl (by show 2 * 0 + _ ≤ _; exact Nat.le_of_eq rfl) (hb hby at_187) e19 rfl (by decide) (by decide)
            obtain ⟨rfl, Nq20, e20⟩ := hQ20
            have N20 := Fr.app N19 Nq20
            refine own_go st20 ?_
            show OwnFin p e below s _ _ _ (T20.setTop (mkF m 190 #[.val (.int pp), .val (.int pq), .val (.long qc1), .second, .val (.long qc2), .second, .val (.int ps1), .val (.int ps2), .val (.int (Int32.ofNat n)), .val (.int kd1), .val (.int kd2), .val (.int (Int32.ofNat i)), .val (.int (Int32.ofNat j)), .val (.int (Int32.ofNat k)), .val .null, .val (.ref r13), .val (.ref b14), .val (.int (1 : Int32))] [.null]))
            refine own_go (fun t_ k_ => XS.ifnonnullNo X20.here hx rfl (hb hby at_190) rfl k_) ?_
            show OwnFin p e below s _ _ _ (T20.setTop (mkF m 193 #[.val (.int pp), .val (.int pq), .val (.long qc1), .second, .val (.long qc2), .second, .val (.int ps1), .val (.int ps2), .val (.int (Int32.ofNat n)), .val (.int kd1), .val (.int kd2), .val (.int (Int32.ofNat i)), .val (.int (Int32.ofNat j)), .val (.int (Int32.ofNat k)), .val .null, .val (.ref r13), .val (.ref b14), .val (.int (1 : Int32))] []))
            refine own_go (fun t_ k_ => XS.iconst X20.here hx rfl (hb hby at_193) k_) ?_
            show OwnFin p e below s _ _ _ (T20.setTop (mkF m 194 #[.val (.int pp), .val (.int pq), .val (.long qc1), .second, .val (.long qc2), .second, .val (.int ps1), .val (.int ps2), .val (.int (Int32.ofNat n)), .val (.int kd1), .val (.int kd2), .val (.int (Int32.ofNat i)), .val (.int (Int32.ofNat j)), .val (.int (Int32.ofNat k)), .val .null, .val (.ref r13), .val (.ref b14), .val (.int (1 : Int32))] [(.int (1 : Int32))]))
            refine own_go (fun t_ k_ => XS.goto X20.here hx rfl (pc0 := 194) (pc' := 198) rfl (hb hby at_194) (by decide) (by decide) k_) ?_
            show OwnFin p e below s _ _ _ (T20.setTop (mkF m 198 #[.val (.int pp), .val (.int pq), .val (.long qc1), .second, .val (.long qc2), .second, .val (.int ps1), .val (.int ps2), .val (.int (Int32.ofNat n)), .val (.int kd1), .val (.int kd2), .val (.int (Int32.ofNat i)), .val (.int (Int32.ofNat j)), .val (.int (Int32.ofNat k)), .val .null, .val (.ref r13), .val (.ref b14), .val (.int (1 : Int32))] [(.int (1 : Int32))]))
            refine own_go (fun t_ k_ => XS.istore X20.here hx rfl (hb hby at_198) rfl (l' := #[.val (.int pp), .val (.int pq), .val (.long qc1), .second, .val (.long qc2), .second, .val (.int ps1), .val (.int ps2), .val (.int (Int32.ofNat n)), .val (.int kd1), .val (.int kd2), .val (.int (Int32.ofNat i)), .val (.int (Int32.ofNat j)), .val (.int (Int32.ofNat k)), .val .null, .val (.ref r13), .val (.ref b14), .val (.int (1 : Int32))]) rfl k_) ?_
            show OwnFin p e below s _ _ _ (T20.setTop (mkF m 200 #[.val (.int pp), .val (.int pq), .val (.long qc1), .second, .val (.long qc2), .second, .val (.int ps1), .val (.int ps2), .val (.int (Int32.ofNat n)), .val (.int kd1), .val (.int kd2), .val (.int (Int32.ofNat i)), .val (.int (Int32.ofNat j)), .val (.int (Int32.ofNat k)), .val .null, .val (.ref r13), .val (.ref b14), .val (.int (1 : Int32))] []))
            refine own_go (fun t_ k_ => XS.iload X20.here hx rfl (hb hby at_200) rfl k_) ?_
            show OwnFin p e below s _ _ _ (T20.setTop (mkF m 202 #[.val (.int pp), .val (.int pq), .val (.long qc1), .second, .val (.long qc2), .second, .val (.int ps1), .val (.int ps2), .val (.int (Int32.ofNat n)), .val (.int kd1), .val (.int kd2), .val (.int (Int32.ofNat i)), .val (.int (Int32.ofNat j)), .val (.int (Int32.ofNat k)), .val .null, .val (.ref r13), .val (.ref b14), .val (.int (1 : Int32))] [(.int (1 : Int32))]))
            refine own_ret X20 (v := some (.int (1 : Int32))) hlk (fun hh => by rw [hret] at hh; cases hh) (fun fs hr => retN X20 hx (t := .boolean) hret (by simp) (hb hby at_202) hr) (by decide) (by decide) ?_
            exact ⟨rfl, N20⟩
      · refine own_go (fun t_ k_ => XS.iload X19.here hx rfl (hb hby at_130) rfl k_) ?_
        show OwnFin p e below s _ _ _ (T19.setTop (mkF m 132 #[.val (.int pp), .val (.int pq), .val (.long qc1), .second, .val (.long qc2), .second, .val (.int ps1), .val (.int ps2), .val (.int (Int32.ofNat n)), .val (.int kd1), .val (.int kd2), .val (.int (Int32.ofNat i)), .val (.int (Int32.ofNat j)), .val (.int (Int32.ofNat k)), .val .null, .val (.ref r13), .val (.ref b14), .val (.int (1 : Int32))] [(.int (Int32.ofNat i))]))
        refine own_go (fun t_ k_ => XS.iload X19.here hx rfl (hb hby at_132) rfl k_) ?_
        show OwnFin p e below s _ _ _ (T19.setTop (mkF m 134 #[.val (.int pp), .val (.int pq), .val (.long qc1), .second, .val (.long qc2), .second, .val (.int ps1), .val (.int ps2), .val (.int (Int32.ofNat n)), .val (.int kd1), .val (.int kd2), .val (.int (Int32.ofNat i)), .val (.int (Int32.ofNat j)), .val (.int (Int32.ofNat k)), .val .null, .val (.ref r13), .val (.ref b14), .val (.int (1 : Int32))] [(.int (Int32.ofNat j)), (.int (Int32.ofNat i))]))
        have hc134 : ¬ ((Int32.ofNat i) = (Int32.ofNat j)) := fun q => hij (own_ofNat_inj (by omega) (by omega) q)
        refine own_go (fun t_ k_ => XS.icmpNo X19.here hx rfl (hb hby at_134) rfl (feq hc134).1 k_) ?_
        show OwnFin p e below s _ _ _ (T19.setTop (mkF m 137 #[.val (.int pp), .val (.int pq), .val (.long qc1), .second, .val (.long qc2), .second, .val (.int ps1), .val (.int ps2), .val (.int (Int32.ofNat n)), .val (.int kd1), .val (.int kd2), .val (.int (Int32.ofNat i)), .val (.int (Int32.ofNat j)), .val (.int (Int32.ofNat k)), .val .null, .val (.ref r13), .val (.ref b14), .val (.int (1 : Int32))] []))
        refine own_go (fun t_ k_ => XS.iload X19.here hx rfl (hb hby at_137) rfl k_) ?_
        show OwnFin p e below s _ _ _ (T19.setTop (mkF m 139 #[.val (.int pp), .val (.int pq), .val (.long qc1), .second, .val (.long qc2), .second, .val (.int ps1), .val (.int ps2), .val (.int (Int32.ofNat n)), .val (.int kd1), .val (.int kd2), .val (.int (Int32.ofNat i)), .val (.int (Int32.ofNat j)), .val (.int (Int32.ofNat k)), .val .null, .val (.ref r13), .val (.ref b14), .val (.int (1 : Int32))] [(.int (1 : Int32))]))
        refine own_go (fun t_ k_ => XS.ifNo X19.here hx rfl (hb hby at_139) rfl ((if0 _ _).trans (feq (by decide)).1) k_) ?_
        show OwnFin p e below s _ _ _ (T19.setTop (mkF m 142 #[.val (.int pp), .val (.int pq), .val (.long qc1), .second, .val (.long qc2), .second, .val (.int ps1), .val (.int ps2), .val (.int (Int32.ofNat n)), .val (.int kd1), .val (.int kd2), .val (.int (Int32.ofNat i)), .val (.int (Int32.ofNat j)), .val (.int (Int32.ofNat k)), .val .null, .val (.ref r13), .val (.ref b14), .val (.int (1 : Int32))] []))
        refine own_go (fun t_ k_ => XS.aload X19.here hx rfl (hb hby at_142) rfl rfl k_) ?_
        show OwnFin p e below s _ _ _ (T19.setTop (mkF m 144 #[.val (.int pp), .val (.int pq), .val (.long qc1), .second, .val (.long qc2), .second, .val (.int ps1), .val (.int ps2), .val (.int (Int32.ofNat n)), .val (.int kd1), .val (.int kd2), .val (.int (Int32.ofNat i)), .val (.int (Int32.ofNat j)), .val (.int (Int32.ofNat k)), .val .null, .val (.ref r13), .val (.ref b14), .val (.int (1 : Int32))] [(.ref b14)]))
        refine own_go (fun t_ k_ => XS.iload X19.here hx rfl (hb hby at_144) rfl k_) ?_
        show OwnFin p e below s _ _ _ (T19.setTop (mkF m 146 #[.val (.int pp), .val (.int pq), .val (.long qc1), .second, .val (.long qc2), .second, .val (.int ps1), .val (.int ps2), .val (.int (Int32.ofNat n)), .val (.int kd1), .val (.int kd2), .val (.int (Int32.ofNat i)), .val (.int (Int32.ofNat j)), .val (.int (Int32.ofNat k)), .val .null, .val (.ref r13), .val (.ref b14), .val (.int (1 : Int32))] [(.int (Int32.ofNat i)), (.ref b14)]))
        obtain ⟨v21, T21, L21, X21, hQ21, st21⟩ := own_callV X19 hx hZ (y := (⟨"com/example/nearside/nearside/support/SplitDecimalArray", "get", "(I)Lcom/example/nearside/nearside/support/SplitDecimal;"⟩ : MethodName)) (z := (⟨"com/example/nearside/nearside/support/SplitDecimalArray", "get", "(I)Lcom/example/nearside/nearside/support/SplitDecimal;"⟩ : MethodName)) hown (hw _ (List.mem_of_getElem? (i := 31) rfl)) (hw _ (List.mem_of_getElem? (i := 32) rfl)) (notFace_of_selects (args := #[]) (mvT hZ (hw _ (List.mem_of_getElem? (i := 34) rfl)))) (hw _ (List.mem_of_getElem? (i := 34) rfl)) (hw _ (List.mem_of_getElem? (i := 33) rfl)) (hw _ (List.mem_of_getElem? (i := 6) rfl)) (hw _ (List.mem_of_getElem? (i := 35) rfl)) (by decide) (W := 0) (rm6_N l Z a0 hw [] b14 (Int32.ofNat i) ca n i (fun z => if z = j then (own_c qc2) else (fun z => if z = i then (-9223372036854775808 : Int64) else (fun _ => (-9223372036854775808 : Int64)) z) z) T18.heap n0 Z18 rfl hin F_compact_18 F_whole_18 Vc17_18 (by (try dsimp only); rw [if_neg hij, if_pos rfl])) (by decide) (by decide) E_ao_18 (g := (mkF m 146 #[.val (.int pp), .val (.int pq), .val (.long qc1), .second, .val (.long qc2), .second, .val (.int ps1), .val (.int ps2), .val (.int (Int32.ofNat n)), .val (.int kd1), .val (.int kd2), .val (.int (Int32.ofNat i)), .val (.int (Int32.ofNat j)), .val (.int (Int32.ofNat k)), .val .null, .val (.ref r13), .val (.ref b14), .val (.int (1 : Int32))] [(.int (Int32.ofNat i)), (.ref b14)])) rfl (by rw [hml]; rfl) (argsL := [(.int (Int32.ofNat i))]) (rest := []) (lenOf pd_0_5 rfl) rfl (by show 2 * 0 + _ ≤ _; exact Nat.le_of_eq rfl) (hb hby at_146) e19 rfl (by decide) (by decide)
        obtain ⟨rfl, Nq21, e21⟩ := hQ21
        have N21 := Fr.app N19 Nq21
        refine own_go st21 ?_
        show OwnFin p e below s _ _ _ (T21.setTop (mkF m 149 #[.val (.int pp), .val (.int pq), .val (.long qc1), .second, .val (.long qc2), .second, .val (.int ps1), .val (.int ps2), .val (.int (Int32.ofNat n)), .val (.int kd1), .val (.int kd2), .val (.int (Int32.ofNat i)), .val (.int (Int32.ofNat j)), .val (.int (Int32.ofNat k)), .val .null, .val (.ref r13), .val (.ref b14), .val (.int (1 : Int32))] [.null]))
        refine own_go (fun t_ k_ => XS.aload X21.here hx rfl (hb hby at_149) rfl rfl k_) ?_
        show OwnFin p e below s _ _ _ (T21.setTop (mkF m 151 #[.val (.int pp), .val (.int pq), .val (.long qc1), .second, .val (.long qc2), .second, .val (.int ps1), .val (.int ps2), .val (.int (Int32.ofNat n)), .val (.int kd1), .val (.int kd2), .val (.int (Int32.ofNat i)), .val (.int (Int32.ofNat j)), .val (.int (Int32.ofNat k)), .val .null, .val (.ref r13), .val (.ref b14), .val (.int (1 : Int32))] [.null, .null]))
        obtain ⟨v22, T22, L22, X22, hQ22, st22⟩ := own_callS X21 hx hZ (y := (⟨"com/example/nearside/nearside/support/SplitDecimalArraySetPinLaw", "holds", "(Lcom/example/nearside/nearside/support/SplitDecimal;Lcom/example/nearside/nearside/support/SplitDecimal;)Z"⟩ : MethodName)) hown (hw _ (List.mem_of_getElem? (i := 36) rfl)) (hw _ (List.mem_of_getElem? (i := 37) rfl)) (hw _ (List.mem_of_getElem? (i := 2) rfl)) (hw _ (List.mem_of_getElem? (i := 38) rfl)) (by decide) (W := 0) (rm7_N l Z a0 hw []  T18.heap n0 Z18) (by decide) (by decide) (g := (mkF m 151 #[.val (.int pp), .val (.int pq), .val (.long qc1), .second, .val (.long qc2), .second, .val (.int ps1), .val (.int ps2), .val (.int (Int32.ofNat n)), .val (.int kd1), .val (.int kd2), .val (.int (Int32.ofNat i)), .val (.int (Int32.ofNat j)), .val (.int (Int32.ofNat k)), .val .null, .val (.ref r13), .val (.ref b14), .val (.int (1 : Int32))] [.null, .null])) rfl (by rw [hml]; rfl) (argsL := [.null, .null]) (rest := []) (lenOf pd_0_6 rfl) rfl (by show 2 * 0 + _ ≤ _; exact Nat.le_of_eq rfl) (hb hby at_151) e21 rfl (by decide) (by decide)
        obtain ⟨rfl, Nq22, e22⟩ := hQ22
        have N22 := Fr.app N21 Nq22
        refine own_go st22 ?_
        show OwnFin p e below s _ _ _ (T22.setTop (mkF m 154 #[.val (.int pp), .val (.int pq), .val (.long qc1), .second, .val (.long qc2), .second, .val (.int ps1), .val (.int ps2), .val (.int (Int32.ofNat n)), .val (.int kd1), .val (.int kd2), .val (.int (Int32.ofNat i)), .val (.int (Int32.ofNat j)), .val (.int (Int32.ofNat k)), .val .null, .val (.ref r13), .val (.ref b14), .val (.int (1 : Int32))] [(.int (1 : Int32))]))
        refine own_go (fun t_ k_ => XS.ifNo X22.here hx rfl (hb hby at_154) rfl ((if0 _ _).trans (feq (by decide)).1) k_) ?_
        show OwnFin p e below s _ _ _ (T22.setTop (mkF m 157 #[.val (.int pp), .val (.int pq), .val (.long qc1), .second, .val (.long qc2), .second, .val (.int ps1), .val (.int ps2), .val (.int (Int32.ofNat n)), .val (.int kd1), .val (.int kd2), .val (.int (Int32.ofNat i)), .val (.int (Int32.ofNat j)), .val (.int (Int32.ofNat k)), .val .null, .val (.ref r13), .val (.ref b14), .val (.int (1 : Int32))] []))
        refine own_go (fun t_ k_ => XS.iconst X22.here hx rfl (hb hby at_157) k_) ?_
        show OwnFin p e below s _ _ _ (T22.setTop (mkF m 158 #[.val (.int pp), .val (.int pq), .val (.long qc1), .second, .val (.long qc2), .second, .val (.int ps1), .val (.int ps2), .val (.int (Int32.ofNat n)), .val (.int kd1), .val (.int kd2), .val (.int (Int32.ofNat i)), .val (.int (Int32.ofNat j)), .val (.int (Int32.ofNat k)), .val .null, .val (.ref r13), .val (.ref b14), .val (.int (1 : Int32))] [(.int (1 : Int32))]))
        refine own_go (fun t_ k_ => XS.goto X22.here hx rfl (pc0 := 158) (pc' := 162) rfl (hb hby at_158) (by decide) (by decide) k_) ?_
        show OwnFin p e below s _ _ _ (T22.setTop (mkF m 162 #[.val (.int pp), .val (.int pq), .val (.long qc1), .second, .val (.long qc2), .second, .val (.int ps1), .val (.int ps2), .val (.int (Int32.ofNat n)), .val (.int kd1), .val (.int kd2), .val (.int (Int32.ofNat i)), .val (.int (Int32.ofNat j)), .val (.int (Int32.ofNat k)), .val .null, .val (.ref r13), .val (.ref b14), .val (.int (1 : Int32))] [(.int (1 : Int32))]))
        refine own_go (fun t_ k_ => XS.istore X22.here hx rfl (hb hby at_162) rfl (l' := #[.val (.int pp), .val (.int pq), .val (.long qc1), .second, .val (.long qc2), .second, .val (.int ps1), .val (.int ps2), .val (.int (Int32.ofNat n)), .val (.int kd1), .val (.int kd2), .val (.int (Int32.ofNat i)), .val (.int (Int32.ofNat j)), .val (.int (Int32.ofNat k)), .val .null, .val (.ref r13), .val (.ref b14), .val (.int (1 : Int32))]) rfl k_) ?_
        show OwnFin p e below s _ _ _ (T22.setTop (mkF m 164 #[.val (.int pp), .val (.int pq), .val (.long qc1), .second, .val (.long qc2), .second, .val (.int ps1), .val (.int ps2), .val (.int (Int32.ofNat n)), .val (.int kd1), .val (.int kd2), .val (.int (Int32.ofNat i)), .val (.int (Int32.ofNat j)), .val (.int (Int32.ofNat k)), .val .null, .val (.ref r13), .val (.ref b14), .val (.int (1 : Int32))] []))
        by_cases hki : k = i
        · refine own_go (fun t_ k_ => XS.iload X22.here hx rfl (hb hby at_164) rfl k_) ?_
          show OwnFin p e below s _ _ _ (T22.setTop (mkF m 166 #[.val (.int pp), .val (.int pq), .val (.long qc1), .second, .val (.long qc2), .second, .val (.int ps1), .val (.int ps2), .val (.int (Int32.ofNat n)), .val (.int kd1), .val (.int kd2), .val (.int (Int32.ofNat i)), .val (.int (Int32.ofNat j)), .val (.int (Int32.ofNat k)), .val .null, .val (.ref r13), .val (.ref b14), .val (.int (1 : Int32))] [(.int (Int32.ofNat k))]))
          refine own_go (fun t_ k_ => XS.iload X22.here hx rfl (hb hby at_166) rfl k_) ?_
          show OwnFin p e below s _ _ _ (T22.setTop (mkF m 168 #[.val (.int pp), .val (.int pq), .val (.long qc1), .second, .val (.long qc2), .second, .val (.int ps1), .val (.int ps2), .val (.int (Int32.ofNat n)), .val (.int kd1), .val (.int kd2), .val (.int (Int32.ofNat i)), .val (.int (Int32.ofNat j)), .val (.int (Int32.ofNat k)), .val .null, .val (.ref r13), .val (.ref b14), .val (.int (1 : Int32))] [(.int (Int32.ofNat i)), (.int (Int32.ofNat k))]))
          have hc168 : (Int32.ofNat k) = (Int32.ofNat i) := by rw [hki]
          refine own_go (fun t_ k_ => XS.icmpYes X22.here hx rfl (pc0 := 168) (pc' := 200) rfl (hb hby at_168) rfl (teq hc168).1 (by decide) (by decide) k_) ?_
          show OwnFin p e below s _ _ _ (T22.setTop (mkF m 200 #[.val (.int pp), .val (.int pq), .val (.long qc1), .second, .val (.long qc2), .second, .val (.int ps1), .val (.int ps2), .val (.int (Int32.ofNat n)), .val (.int kd1), .val (.int kd2), .val (.int (Int32.ofNat i)), .val (.int (Int32.ofNat j)), .val (.int (Int32.ofNat k)), .val .null, .val (.ref r13), .val (.ref b14), .val (.int (1 : Int32))] []))
          refine own_go (fun t_ k_ => XS.iload X22.here hx rfl (hb hby at_200) rfl k_) ?_
          show OwnFin p e below s _ _ _ (T22.setTop (mkF m 202 #[.val (.int pp), .val (.int pq), .val (.long qc1), .second, .val (.long qc2), .second, .val (.int ps1), .val (.int ps2), .val (.int (Int32.ofNat n)), .val (.int kd1), .val (.int kd2), .val (.int (Int32.ofNat i)), .val (.int (Int32.ofNat j)), .val (.int (Int32.ofNat k)), .val .null, .val (.ref r13), .val (.ref b14), .val (.int (1 : Int32))] [(.int (1 : Int32))]))
          refine own_ret X22 (v := some (.int (1 : Int32))) hlk (fun hh => by rw [hret] at hh; cases hh) (fun fs hr => retN X22 hx (t := .boolean) hret (by simp) (hb hby at_202) hr) (by decide) (by decide) ?_
          exact ⟨rfl, N22⟩
        · refine own_go (fun t_ k_ => XS.iload X22.here hx rfl (hb hby at_164) rfl k_) ?_
          show OwnFin p e below s _ _ _ (T22.setTop (mkF m 166 #[.val (.int pp), .val (.int pq), .val (.long qc1), .second, .val (.long qc2), .second, .val (.int ps1), .val (.int ps2), .val (.int (Int32.ofNat n)), .val (.int kd1), .val (.int kd2), .val (.int (Int32.ofNat i)), .val (.int (Int32.ofNat j)), .val (.int (Int32.ofNat k)), .val .null, .val (.ref r13), .val (.ref b14), .val (.int (1 : Int32))] [(.int (Int32.ofNat k))]))
          refine own_go (fun t_ k_ => XS.iload X22.here hx rfl (hb hby at_166) rfl k_) ?_
          show OwnFin p e below s _ _ _ (T22.setTop (mkF m 168 #[.val (.int pp), .val (.int pq), .val (.long qc1), .second, .val (.long qc2), .second, .val (.int ps1), .val (.int ps2), .val (.int (Int32.ofNat n)), .val (.int kd1), .val (.int kd2), .val (.int (Int32.ofNat i)), .val (.int (Int32.ofNat j)), .val (.int (Int32.ofNat k)), .val .null, .val (.ref r13), .val (.ref b14), .val (.int (1 : Int32))] [(.int (Int32.ofNat i)), (.int (Int32.ofNat k))]))
          have hc168 : ¬ ((Int32.ofNat k) = (Int32.ofNat i)) := fun q => hki (own_ofNat_inj (by omega) (by omega) q)
          refine own_go (fun t_ k_ => XS.icmpNo X22.here hx rfl (hb hby at_168) rfl (feq hc168).1 k_) ?_
          show OwnFin p e below s _ _ _ (T22.setTop (mkF m 171 #[.val (.int pp), .val (.int pq), .val (.long qc1), .second, .val (.long qc2), .second, .val (.int ps1), .val (.int ps2), .val (.int (Int32.ofNat n)), .val (.int kd1), .val (.int kd2), .val (.int (Int32.ofNat i)), .val (.int (Int32.ofNat j)), .val (.int (Int32.ofNat k)), .val .null, .val (.ref r13), .val (.ref b14), .val (.int (1 : Int32))] []))
          by_cases hkj : k = j
          · refine own_go (fun t_ k_ => XS.iload X22.here hx rfl (hb hby at_171) rfl k_) ?_
            show OwnFin p e below s _ _ _ (T22.setTop (mkF m 173 #[.val (.int pp), .val (.int pq), .val (.long qc1), .second, .val (.long qc2), .second, .val (.int ps1), .val (.int ps2), .val (.int (Int32.ofNat n)), .val (.int kd1), .val (.int kd2), .val (.int (Int32.ofNat i)), .val (.int (Int32.ofNat j)), .val (.int (Int32.ofNat k)), .val .null, .val (.ref r13), .val (.ref b14), .val (.int (1 : Int32))] [(.int (Int32.ofNat k))]))
            refine own_go (fun t_ k_ => XS.iload X22.here hx rfl (hb hby at_173) rfl k_) ?_
            show OwnFin p e below s _ _ _ (T22.setTop (mkF m 175 #[.val (.int pp), .val (.int pq), .val (.long qc1), .second, .val (.long qc2), .second, .val (.int ps1), .val (.int ps2), .val (.int (Int32.ofNat n)), .val (.int kd1), .val (.int kd2), .val (.int (Int32.ofNat i)), .val (.int (Int32.ofNat j)), .val (.int (Int32.ofNat k)), .val .null, .val (.ref r13), .val (.ref b14), .val (.int (1 : Int32))] [(.int (Int32.ofNat j)), (.int (Int32.ofNat k))]))
            have hc175 : (Int32.ofNat k) = (Int32.ofNat j) := by rw [hkj]
            refine own_go (fun t_ k_ => XS.icmpYes X22.here hx rfl (pc0 := 175) (pc' := 200) rfl (hb hby at_175) rfl (teq hc175).1 (by decide) (by decide) k_) ?_
            show OwnFin p e below s _ _ _ (T22.setTop (mkF m 200 #[.val (.int pp), .val (.int pq), .val (.long qc1), .second, .val (.long qc2), .second, .val (.int ps1), .val (.int ps2), .val (.int (Int32.ofNat n)), .val (.int kd1), .val (.int kd2), .val (.int (Int32.ofNat i)), .val (.int (Int32.ofNat j)), .val (.int (Int32.ofNat k)), .val .null, .val (.ref r13), .val (.ref b14), .val (.int (1 : Int32))] []))
            refine own_go (fun t_ k_ => XS.iload X22.here hx rfl (hb hby at_200) rfl k_) ?_
            show OwnFin p e below s _ _ _ (T22.setTop (mkF m 202 #[.val (.int pp), .val (.int pq), .val (.long qc1), .second, .val (.long qc2), .second, .val (.int ps1), .val (.int ps2), .val (.int (Int32.ofNat n)), .val (.int kd1), .val (.int kd2), .val (.int (Int32.ofNat i)), .val (.int (Int32.ofNat j)), .val (.int (Int32.ofNat k)), .val .null, .val (.ref r13), .val (.ref b14), .val (.int (1 : Int32))] [(.int (1 : Int32))]))
            refine own_ret X22 (v := some (.int (1 : Int32))) hlk (fun hh => by rw [hret] at hh; cases hh) (fun fs hr => retN X22 hx (t := .boolean) hret (by simp) (hb hby at_202) hr) (by decide) (by decide) ?_
            exact ⟨rfl, N22⟩
          · refine own_go (fun t_ k_ => XS.iload X22.here hx rfl (hb hby at_171) rfl k_) ?_
            show OwnFin p e below s _ _ _ (T22.setTop (mkF m 173 #[.val (.int pp), .val (.int pq), .val (.long qc1), .second, .val (.long qc2), .second, .val (.int ps1), .val (.int ps2), .val (.int (Int32.ofNat n)), .val (.int kd1), .val (.int kd2), .val (.int (Int32.ofNat i)), .val (.int (Int32.ofNat j)), .val (.int (Int32.ofNat k)), .val .null, .val (.ref r13), .val (.ref b14), .val (.int (1 : Int32))] [(.int (Int32.ofNat k))]))
            refine own_go (fun t_ k_ => XS.iload X22.here hx rfl (hb hby at_173) rfl k_) ?_
            show OwnFin p e below s _ _ _ (T22.setTop (mkF m 175 #[.val (.int pp), .val (.int pq), .val (.long qc1), .second, .val (.long qc2), .second, .val (.int ps1), .val (.int ps2), .val (.int (Int32.ofNat n)), .val (.int kd1), .val (.int kd2), .val (.int (Int32.ofNat i)), .val (.int (Int32.ofNat j)), .val (.int (Int32.ofNat k)), .val .null, .val (.ref r13), .val (.ref b14), .val (.int (1 : Int32))] [(.int (Int32.ofNat j)), (.int (Int32.ofNat k))]))
            have hc175 : ¬ ((Int32.ofNat k) = (Int32.ofNat j)) := fun q => hkj (own_ofNat_inj (by omega) (by omega) q)
            refine own_go (fun t_ k_ => XS.icmpNo X22.here hx rfl (hb hby at_175) rfl (feq hc175).1 k_) ?_
            show OwnFin p e below s _ _ _ (T22.setTop (mkF m 178 #[.val (.int pp), .val (.int pq), .val (.long qc1), .second, .val (.long qc2), .second, .val (.int ps1), .val (.int ps2), .val (.int (Int32.ofNat n)), .val (.int kd1), .val (.int kd2), .val (.int (Int32.ofNat i)), .val (.int (Int32.ofNat j)), .val (.int (Int32.ofNat k)), .val .null, .val (.ref r13), .val (.ref b14), .val (.int (1 : Int32))] []))
            refine own_go (fun t_ k_ => XS.iload X22.here hx rfl (hb hby at_178) rfl k_) ?_
            show OwnFin p e below s _ _ _ (T22.setTop (mkF m 180 #[.val (.int pp), .val (.int pq), .val (.long qc1), .second, .val (.long qc2), .second, .val (.int ps1), .val (.int ps2), .val (.int (Int32.ofNat n)), .val (.int kd1), .val (.int kd2), .val (.int (Int32.ofNat i)), .val (.int (Int32.ofNat j)), .val (.int (Int32.ofNat k)), .val .null, .val (.ref r13), .val (.ref b14), .val (.int (1 : Int32))] [(.int (1 : Int32))]))
            refine own_go (fun t_ k_ => XS.ifNo X22.here hx rfl (hb hby at_180) rfl ((if0 _ _).trans (feq (by decide)).1) k_) ?_
            show OwnFin p e below s _ _ _ (T22.setTop (mkF m 183 #[.val (.int pp), .val (.int pq), .val (.long qc1), .second, .val (.long qc2), .second, .val (.int ps1), .val (.int ps2), .val (.int (Int32.ofNat n)), .val (.int kd1), .val (.int kd2), .val (.int (Int32.ofNat i)), .val (.int (Int32.ofNat j)), .val (.int (Int32.ofNat k)), .val .null, .val (.ref r13), .val (.ref b14), .val (.int (1 : Int32))] []))
            refine own_go (fun t_ k_ => XS.aload X22.here hx rfl (hb hby at_183) rfl rfl k_) ?_
            show OwnFin p e below s _ _ _ (T22.setTop (mkF m 185 #[.val (.int pp), .val (.int pq), .val (.long qc1), .second, .val (.long qc2), .second, .val (.int ps1), .val (.int ps2), .val (.int (Int32.ofNat n)), .val (.int kd1), .val (.int kd2), .val (.int (Int32.ofNat i)), .val (.int (Int32.ofNat j)), .val (.int (Int32.ofNat k)), .val .null, .val (.ref r13), .val (.ref b14), .val (.int (1 : Int32))] [(.ref b14)]))
            refine own_go (fun t_ k_ => XS.iload X22.here hx rfl (hb hby at_185) rfl k_) ?_
            show OwnFin p e below s _ _ _ (T22.setTop (mkF m 187 #[.val (.int pp), .val (.int pq), .val (.long qc1), .second, .val (.long qc2), .second, .val (.int ps1), .val (.int ps2), .val (.int (Int32.ofNat n)), .val (.int kd1), .val (.int kd2), .val (.int (Int32.ofNat i)), .val (.int (Int32.ofNat j)), .val (.int (Int32.ofNat k)), .val .null, .val (.ref r13), .val (.ref b14), .val (.int (1 : Int32))] [(.int (Int32.ofNat k)), (.ref b14)]))
            obtain ⟨v23, T23, L23, X23, hQ23, st23⟩ := own_callV X22 hx hZ (y := (⟨"com/example/nearside/nearside/support/SplitDecimalArray", "get", "(I)Lcom/example/nearside/nearside/support/SplitDecimal;"⟩ : MethodName)) (z := (⟨"com/example/nearside/nearside/support/SplitDecimalArray", "get", "(I)Lcom/example/nearside/nearside/support/SplitDecimal;"⟩ : MethodName)) hown (hw _ (List.mem_of_getElem? (i := 31) rfl)) (hw _ (List.mem_of_getElem? (i := 32) rfl)) (notFace_of_selects (args := #[]) (mvT hZ (hw _ (List.mem_of_getElem? (i := 34) rfl)))) (hw _ (List.mem_of_getElem? (i := 34) rfl)) (hw _ (List.mem_of_getElem? (i := 33) rfl)) (hw _ (List.mem_of_getElem? (i := 6) rfl)) (hw _ (List.mem_of_getElem? (i := 35) rfl)) (by decide) (W := 0) (rm6_N l Z a0 hw [] b14 (Int32.ofNat k) ca n k (fun z => if z = j then (own_c qc2) else (fun z => if z = i then (-9223372036854775808 : Int64) else (fun _ => (-9223372036854775808 : Int64)) z) z) T18.heap n0 Z18 rfl hkn F_compact_18 F_whole_18 Vc17_18 (by (try dsimp only); rw [if_neg hkj, if_neg hki])) (by decide) (by decide) E_ao_18 (g := (mkF m 187 #[.val (.int pp), .val (.int pq), .val (.long qc1), .second, .val (.long qc2), .second, .val (.int ps1), .val (.int ps2), .val (.int (Int32.ofNat n)), .val (.int kd1), .val (.int kd2), .val (.int (Int32.ofNat i)), .val (.int (Int32.ofNat j)), .val (.int (Int32.ofNat k)), .val .null, .val (.ref r13), .val (.ref b14), .val (.int (1 : Int32))] [(.int (Int32.ofNat k)), (.ref b14)])) rfl (by rw [hml]; rfl) (argsL := [(.int (Int32.ofNat k))]) (rest := []) (lenOf pd_0_5 rfl) rfl (by show 2 * 0 + _ ≤ _; exact Nat.le_of_eq rfl) (hb hby at_187) e22 rfl (by decide) (by decide)
            obtain ⟨rfl, Nq23, e23⟩ := hQ23
            have N23 := Fr.app N22 Nq23
            refine own_go st23 ?_
            show OwnFin p e below s _ _ _ (T23.setTop (mkF m 190 #[.val (.int pp), .val (.int pq), .val (.long qc1), .second, .val (.long qc2), .second, .val (.int ps1), .val (.int ps2), .val (.int (Int32.ofNat n)), .val (.int kd1), .val (.int kd2), .val (.int (Int32.ofNat i)), .val (.int (Int32.ofNat j)), .val (.int (Int32.ofNat k)), .val .null, .val (.ref r13), .val (.ref b14), .val (.int (1 : Int32))] [.null]))
            refine own_go (fun t_ k_ => XS.ifnonnullNo X23.here hx rfl (hb hby at_190) rfl k_) ?_
            show OwnFin p e below s _ _ _ (T23.setTop (mkF m 193 #[.val (.int pp), .val (.int pq), .val (.long qc1), .second, .val (.long qc2), .second, .val (.int ps1), .val (.int ps2), .val (.int (Int32.ofNat n)), .val (.int kd1), .val (.int kd2), .val (.int (Int32.ofNat i)), .val (.int (Int32.ofNat j)), .val (.int (Int32.ofNat k)), .val .null, .val (.ref r13), .val (.ref b14), .val (.int (1 : Int32))] []))
            refine own_go (fun t_ k_ => XS.iconst X23.here hx rfl (hb hby at_193) k_) ?_
            show OwnFin p e below s _ _ _ (T23.setTop (mkF m 194 #[.val (.int pp), .val (.int pq), .val (.long qc1), .second, .val (.long qc2), .second, .val (.int ps1), .val (.int ps2), .val (.int (Int32.ofNat n)), .val (.int kd1), .val (.int kd2), .val (.int (Int32.ofNat i)), .val (.int (Int32.ofNat j)), .val (.int (Int32.ofNat k)), .val .null, .val (.ref r13), .val (.ref b14), .val (.int (1 : Int32))] [(.int (1 : Int32))]))
            refine own_go (fun t_ k_ => XS.goto X23.here hx rfl (pc0 := 194) (pc' := 198) rfl (hb hby at_194) (by decide) (by decide) k_) ?_
            show OwnFin p e below s _ _ _ (T23.setTop (mkF m 198 #[.val (.int pp), .val (.int pq), .val (.long qc1), .second, .val (.long qc2), .second, .val (.int ps1), .val (.int ps2), .val (.int (Int32.ofNat n)), .val (.int kd1), .val (.int kd2), .val (.int (Int32.ofNat i)), .val (.int (Int32.ofNat j)), .val (.int (Int32.ofNat k)), .val .null, .val (.ref r13), .val (.ref b14), .val (.int (1 : Int32))] [(.int (1 : Int32))]))
            refine own_go (fun t_ k_ => XS.istore X23.here hx rfl (hb hby at_198) rfl (l' := #[.val (.int pp), .val (.int pq), .val (.long qc1), .second, .val (.long qc2), .second, .val (.int ps1), .val (.int ps2), .val (.int (Int32.ofNat n)), .val (.int kd1), .val (.int kd2), .val (.int (Int32.ofNat i)), .val (.int (Int32.ofNat j)), .val (.int (Int32.ofNat k)), .val .null, .val (.ref r13), .val (.ref b14), .val (.int (1 : Int32))]) rfl k_) ?_
            show OwnFin p e below s _ _ _ (T23.setTop (mkF m 200 #[.val (.int pp), .val (.int pq), .val (.long qc1), .second, .val (.long qc2), .second, .val (.int ps1), .val (.int ps2), .val (.int (Int32.ofNat n)), .val (.int kd1), .val (.int kd2), .val (.int (Int32.ofNat i)), .val (.int (Int32.ofNat j)), .val (.int (Int32.ofNat k)), .val .null, .val (.ref r13), .val (.ref b14), .val (.int (1 : Int32))] []))
            refine own_go (fun t_ k_ => XS.iload X23.here hx rfl (hb hby at_200) rfl k_) ?_
            show OwnFin p e below s _ _ _ (T23.setTop (mkF m 202 #[.val (.int pp), .val (.int pq), .val (.long qc1), .second, .val (.long qc2), .second, .val (.int ps1), .val (.int ps2), .val (.int (Int32.ofNat n)), .val (.int kd1), .val (.int kd2), .val (.int (Int32.ofNat i)), .val (.int (Int32.ofNat j)), .val (.int (Int32.ofNat k)), .val .null, .val (.ref r13), .val (.ref b14), .val (.int (1 : Int32))] [(.int (1 : Int32))]))
            refine own_ret X23 (v := some (.int (1 : Int32))) hlk (fun hh => by rw [hret] at hh; cases hh) (fun fs hr => retN X23 hx (t := .boolean) hret (by simp) (hb hby at_202) hr) (by decide) (by decide) ?_
            exact ⟨rfl, N23⟩
    refine own_go (fun t_ k_ => XS.iload X1.here hx rfl (hb hby at_76) rfl k_) ?_
    show OwnFin p e below s _ _ _ (T1.setTop (mkF m 78 #[.val (.int pp), .val (.int pq), .val (.long qc1), .second, .val (.long qc2), .second, .val (.int ps1), .val (.int ps2), .val (.int (Int32.ofNat n)), .val (.int kd1), .val (.int kd2), .val (.int (Int32.ofNat i)), .val (.int (Int32.ofNat j)), .val (.int (Int32.ofNat k)), .val .null, .unset, .unset, .unset] [(.int kd2)]))
    refine own_go (fun t_ k_ => XS.lload X1.here hx rfl (hb hby at_78) rfl k_) ?_
    show OwnFin p e below s _ _ _ (T1.setTop (mkF m 80 #[.val (.int pp), .val (.int pq), .val (.long qc1), .second, .val (.long qc2), .second, .val (.int ps1), .val (.int ps2), .val (.int (Int32.ofNat n)), .val (.int kd1), .val (.int kd2), .val (.int (Int32.ofNat i)), .val (.int (Int32.ofNat j)), .val (.int (Int32.ofNat k)), .val .null, .unset, .unset, .unset] [(.long qc2), (.int kd2)]))
    refine own_go (fun t_ k_ => XS.iload X1.here hx rfl (hb hby at_80) rfl k_) ?_
    show OwnFin p e below s _ _ _ (T1.setTop (mkF m 82 #[.val (.int pp), .val (.int pq), .val (.long qc1), .second, .val (.long qc2), .second, .val (.int ps1), .val (.int ps2), .val (.int (Int32.ofNat n)), .val (.int kd1), .val (.int kd2), .val (.int (Int32.ofNat i)), .val (.int (Int32.ofNat j)), .val (.int (Int32.ofNat k)), .val .null, .unset, .unset, .unset] [(.int ps2), (.long qc2), (.int kd2)]))
    obtain ⟨v24, T24, L24, X24, hQ24, st24⟩ := own_callS X1 hx hZ (y := (⟨"com/example/nearside/nearside/support/SplitDecimalArraySetPinLaw", "make", "(IJI)Lcom/example/nearside/nearside/support/SplitDecimal;"⟩ : MethodName)) hown (hw _ (List.mem_of_getElem? (i := 0) rfl)) (hw _ (List.mem_of_getElem? (i := 1) rfl)) (hw _ (List.mem_of_getElem? (i := 2) rfl)) (hw _ (List.mem_of_getElem? (i := 3) rfl)) (by decide) (W := 0) (rm1_2 l Z a0 hw [] kd2 qc2 ps2 h0 n0 Z0 hz2 ho2) (by decide) (by decide) (g := (mkF m 82 #[.val (.int pp), .val (.int pq), .val (.long qc1), .second, .val (.long qc2), .second, .val (.int ps1), .val (.int ps2), .val (.int (Int32.ofNat n)), .val (.int kd1), .val (.int kd2), .val (.int (Int32.ofNat i)), .val (.int (Int32.ofNat j)), .val (.int (Int32.ofNat k)), .val .null, .unset, .unset, .unset] [(.int ps2), (.long qc2), (.int kd2)])) rfl (by rw [hml]; rfl) (argsL := [(.int kd2), (.long qc2), (.int ps2)]) (rest := []) (lenOf pd_0_0 rfl) rfl (by show 2 * 0 + _ ≤ _; exact Nat.le_of_eq rfl) (hb hby at_82) e1 rfl (by decide) (by decide)
    obtain ⟨r24, rfl, Nq24, Kq24, sq24, Eq24, Fq24_0, Fq24_1⟩ := hQ24
    have N24 := Fr.app N1 Nq24
    have g_r24 : n0 ≤ r24 := Nat.le_trans Z0 sq24
    have Z24 : n0 ≤ T24.heap.size := Nat.le_trans Z0 Kq24.1
    refine own_go st24 ?_
    show OwnFin p e below s _ _ _ (T24.setTop (mkF m 85 #[.val (.int pp), .val (.int pq), .val (.long qc1), .second, .val (.long qc2), .second, .val (.int ps1), .val (.int ps2), .val (.int (Int32.ofNat n)), .val (.int kd1), .val (.int kd2), .val (.int (Int32.ofNat i)), .val (.int (Int32.ofNat j)), .val (.int (Int32.ofNat k)), .val .null, .unset, .unset, .unset] [(.ref r24)]))
    refine own_go (fun t_ k_ => XS.astore X24.here hx rfl (hb hby at_85) rfl rfl (l' := #[.val (.int pp), .val (.int pq), .val (.long qc1), .second, .val (.long qc2), .second, .val (.int ps1), .val (.int ps2), .val (.int (Int32.ofNat n)), .val (.int kd1), .val (.int kd2), .val (.int (Int32.ofNat i)), .val (.int (Int32.ofNat j)), .val (.int (Int32.ofNat k)), .val .null, .val (.ref r24), .unset, .unset]) rfl k_) ?_
    show OwnFin p e below s _ _ _ (T24.setTop (mkF m 87 #[.val (.int pp), .val (.int pq), .val (.long qc1), .second, .val (.long qc2), .second, .val (.int ps1), .val (.int ps2), .val (.int (Int32.ofNat n)), .val (.int kd1), .val (.int kd2), .val (.int (Int32.ofNat i)), .val (.int (Int32.ofNat j)), .val (.int (Int32.ofNat k)), .val .null, .val (.ref r24), .unset, .unset] []))
    obtain ⟨T25, h25, X25, e25, E25, A25, D25, -, st25⟩ := newO X24 hx hZ hown (hw _ (List.mem_of_getElem? (i := 4) rfl)) (hw _ (List.mem_of_getElem? (i := 5) rfl)) (hw _ (List.mem_of_getElem? (i := 6) rfl)) rfl (g := (mkF m 87 #[.val (.int pp), .val (.int pq), .val (.long qc1), .second, .val (.long qc2), .second, .val (.int ps1), .val (.int ps2), .val (.int (Int32.ofNat n)), .val (.int kd1), .val (.int kd2), .val (.int (Int32.ofNat i)), .val (.int (Int32.ofNat j)), .val (.int (Int32.ofNat k)), .val .null, .val (.ref r24), .unset, .unset] [])) rfl (hb hby at_87) (by decide) (by decide)
    obtain ⟨b25, g25⟩ : ∃ z, z = T24.heap.size := ⟨_, rfl⟩
    rw [← g25] at A25 D25 st25
    have g_b25 : n0 ≤ b25 := Nat.le_trans Z24 (Nat.le_of_eq g25.symm)
    have ne_r24_b25 : r24 ≠ b25 := Nat.ne_of_lt (Nat.lt_of_lt_of_le Eq24.lt (Nat.le_of_eq g25.symm))
    have E_r24_25 := Eq24.ext E25
    have F_compact_r24_25 := Fq24_0.ext E25
    have F_scale_r24_25 := Fq24_1.ext E25
    have Z25 : n0 ≤ h25.size := Nat.le_trans Z24 E25.1
    have E_b25 := A25
    have F_compact_b25 : Fld Z h25 b25 "com/example/nearside/nearside/support/SplitDecimalArray" "compact" "[J" .null := D25 (Or.inr (hw _ (List.mem_of_getElem? (i := 15) rfl))) (ty := (.array .long)) (by decide)
    have F_scale_b25 : Fld Z h25 b25 "com/example/nearside/nearside/support/SplitDecimalArray" "scale" "[I" .null := D25 (Or.inr (hw _ (List.mem_of_getElem? (i := 18) rfl))) (ty := (.array .int)) (by decide)
    have F_whole_b25 : Fld Z h25 b25 "com/example/nearside/nearside/support/SplitDecimalArray" "whole" "[Lcom/example/nearside/nearside/support/SplitDecimal;" .null := D25 (Or.inl (hw _ (List.mem_of_getElem? (i := 30) rfl))) (ty := (.array (.object "com/example/nearside/nearside/support/SplitDecimal"))) (by decide)
    refine own_go st25 ?_
    show OwnFin p e below s _ _ _ (T25.setTop (mkF m 90 #[.val (.int pp), .val (.int pq), .val (.long qc1), .second, .val (.long qc2), .second, .val (.int ps1), .val (.int ps2), .val (.int (Int32.ofNat n)), .val (.int kd1), .val (.int kd2), .val (.int (Int32.ofNat i)), .val (.int (Int32.ofNat j)), .val (.int (Int32.ofNat k)), .val .null, .val (.ref r24), .unset, .unset] [(.ref b25)]))
    refine own_go (fun t_ k_ => XS.dup X25.here hx rfl (hb hby at_90) rfl rfl k_) ?_
    show OwnFin p e below s _ _ _ (T25.setTop (mkF m 91 #[.val (.int pp), .val (.int pq), .val (.long qc1), .second, .val (.long qc2), .second, .val (.int ps1), .val (.int ps2), .val (.int (Int32.ofNat n)), .val (.int kd1), .val (.int kd2), .val (.int (Int32.ofNat i)), .val (.int (Int32.ofNat j)), .val (.int (Int32.ofNat k)), .val .null, .val (.ref r24), .unset, .unset] [(.ref b25), (.ref b25)]))
    refine own_go (fun t_ k_ => XS.iload X25.here hx rfl (hb hby at_91) rfl k_) ?_
    show OwnFin p e below s _ _ _ (T25.setTop (mkF m 93 #[.val (.int pp), .val (.int pq), .val (.long qc1), .second, .val (.long qc2), .second, .val (.int ps1), .val (.int ps2), .val (.int (Int32.ofNat n)), .val (.int kd1), .val (.int kd2), .val (.int (Int32.ofNat i)), .val (.int (Int32.ofNat j)), .val (.int (Int32.ofNat k)), .val .null, .val (.ref r24), .unset, .unset] [(.int (Int32.ofNat n)), (.ref b25), (.ref b25)]))
    obtain ⟨v26, T26, L26, X26, hQ26, st26⟩ := own_callI X25 hx hZ (y := (⟨"com/example/nearside/nearside/support/SplitDecimalArray", "<init>", "(I)V"⟩ : MethodName)) rfl hown (hw _ (List.mem_of_getElem? (i := 7) rfl)) (hw _ (List.mem_of_getElem? (i := 8) rfl)) (hw _ (List.mem_of_getElem? (i := 6) rfl)) (hw _ (List.mem_of_getElem? (i := 9) rfl)) (by decide) (W := 1) (rm2 l Z a0 hw [] b25 (Int32.ofNat n) n h25 n0 Z25 rfl hn4 E_b25 g_b25 F_compact_b25 F_scale_b25 F_whole_b25) (by decide) (by decide) (g := (mkF m 93 #[.val (.int pp), .val (.int pq), .val (.long qc1), .second, .val (.long qc2), .second, .val (.int ps1), .val (.int ps2), .val (.int (Int32.ofNat n)), .val (.int kd1), .val (.int kd2), .val (.int (Int32.ofNat i)), .val (.int (Int32.ofNat j)), .val (.int (Int32.ofNat k)), .val .null, .val (.ref r24), .unset, .unset] [(.int (Int32.ofNat n)), (.ref b25), (.ref b25)])) rfl (by rw [hml]; rfl) (a := b25) (argsL := [(.int (Int32.ofNat n))]) (rest := [(.ref b25)]) (lenOf pd_0_1 rfl) rfl (by show 2 * 0 + _ ≤ _; exact Nat.le_of_eq rfl) (hb hby at_93) e25 rfl (by decide) (by decide)
    obtain ⟨rfl, Nq26, Kq26, E_ao, ca, sc, sz1, sz2, ne_ca_sc, F_compact, F_scale, F_whole, V_ca, V_sc⟩ := hQ26
    have N26 := Fr.app N24 Nq26
    have g_ca : n0 ≤ ca := Nat.le_trans Z25 sz1
    have g_sc : n0 ≤ sc := Nat.le_trans Z25 sz2
    have ne_r24_ca : r24 ≠ ca := Nat.ne_of_lt (Nat.lt_of_lt_of_le E_r24_25.lt sz1)
    have ne_r24_sc : r24 ≠ sc := Nat.ne_of_lt (Nat.lt_of_lt_of_le E_r24_25.lt sz2)
    have ne_b25_ca : b25 ≠ ca := Nat.ne_of_lt (Nat.lt_of_lt_of_le E_b25.lt sz1)
    have ne_b25_sc : b25 ≠ sc := Nat.ne_of_lt (Nat.lt_of_lt_of_le E_b25.lt sz2)
    have E_r24_26 := E_r24_25.keep Kq26
    have F_compact_r24_26 := F_compact_r24_25.keep Kq26 (ninS ne_r24_b25 nin0)
    have F_scale_r24_26 := F_scale_r24_25.keep Kq26 (ninS ne_r24_b25 nin0)
    have E_b25_26 := E_b25.keep Kq26
    have Z26 : n0 ≤ T26.heap.size := Nat.le_trans Z25 Kq26.1
    refine own_go st26 ?_
    show OwnFin p e below s _ _ _ (T26.setTop (mkF m 96 #[.val (.int pp), .val (.int pq), .val (.long qc1), .second, .val (.long qc2), .second, .val (.int ps1), .val (.int ps2), .val (.int (Int32.ofNat n)), .val (.int kd1), .val (.int kd2), .val (.int (Int32.ofNat i)), .val (.int (Int32.ofNat j)), .val (.int (Int32.ofNat k)), .val .null, .val (.ref r24), .unset, .unset] [(.ref b25)]))
    refine own_go (fun t_ k_ => XS.astore X26.here hx rfl (hb hby at_96) rfl rfl (l' := #[.val (.int pp), .val (.int pq), .val (.long qc1), .second, .val (.long qc2), .second, .val (.int ps1), .val (.int ps2), .val (.int (Int32.ofNat n)), .val (.int kd1), .val (.int kd2), .val (.int (Int32.ofNat i)), .val (.int (Int32.ofNat j)), .val (.int (Int32.ofNat k)), .val .null, .val (.ref r24), .val (.ref b25), .unset]) rfl k_) ?_
    show OwnFin p e below s _ _ _ (T26.setTop (mkF m 98 #[.val (.int pp), .val (.int pq), .val (.long qc1), .second, .val (.long qc2), .second, .val (.int ps1), .val (.int ps2), .val (.int (Int32.ofNat n)), .val (.int kd1), .val (.int kd2), .val (.int (Int32.ofNat i)), .val (.int (Int32.ofNat j)), .val (.int (Int32.ofNat k)), .val .null, .val (.ref r24), .val (.ref b25), .unset] []))
    refine own_go (fun t_ k_ => XS.aload X26.here hx rfl (hb hby at_98) rfl rfl k_) ?_
    show OwnFin p e below s _ _ _ (T26.setTop (mkF m 100 #[.val (.int pp), .val (.int pq), .val (.long qc1), .second, .val (.long qc2), .second, .val (.int ps1), .val (.int ps2), .val (.int (Int32.ofNat n)), .val (.int kd1), .val (.int kd2), .val (.int (Int32.ofNat i)), .val (.int (Int32.ofNat j)), .val (.int (Int32.ofNat k)), .val .null, .val (.ref r24), .val (.ref b25), .unset] [(.ref b25)]))
    refine own_go (fun t_ k_ => XS.iload X26.here hx rfl (hb hby at_100) rfl k_) ?_
    show OwnFin p e below s _ _ _ (T26.setTop (mkF m 102 #[.val (.int pp), .val (.int pq), .val (.long qc1), .second, .val (.long qc2), .second, .val (.int ps1), .val (.int ps2), .val (.int (Int32.ofNat n)), .val (.int kd1), .val (.int kd2), .val (.int (Int32.ofNat i)), .val (.int (Int32.ofNat j)), .val (.int (Int32.ofNat k)), .val .null, .val (.ref r24), .val (.ref b25), .unset] [(.int (Int32.ofNat i)), (.ref b25)]))
    refine own_go (fun t_ k_ => XS.aload X26.here hx rfl (hb hby at_102) rfl rfl k_) ?_
    show OwnFin p e below s _ _ _ (T26.setTop (mkF m 104 #[.val (.int pp), .val (.int pq), .val (.long qc1), .second, .val (.long qc2), .second, .val (.int ps1), .val (.int ps2), .val (.int (Int32.ofNat n)), .val (.int kd1), .val (.int kd2), .val (.int (Int32.ofNat i)), .val (.int (Int32.ofNat j)), .val (.int (Int32.ofNat k)), .val .null, .val (.ref r24), .val (.ref b25), .unset] [.null, (.int (Int32.ofNat i)), (.ref b25)]))
    obtain ⟨v27, T27, L27, X27, hQ27, st27⟩ := own_callV X26 hx hZ (y := (⟨"com/example/nearside/nearside/support/SplitDecimalArray", "set", "(ILcom/example/nearside/nearside/support/SplitDecimal;)V"⟩ : MethodName)) (z := (⟨"com/example/nearside/nearside/support/SplitDecimalArray", "set", "(ILcom/example/nearside/nearside/support/SplitDecimal;)V"⟩ : MethodName)) hown (hw _ (List.mem_of_getElem? (i := 24) rfl)) (hw _ (List.mem_of_getElem? (i := 25) rfl)) (notFace_of_selects (args := #[]) (mvT hZ (hw _ (List.mem_of_getElem? (i := 27) rfl)))) (hw _ (List.mem_of_getElem? (i := 27) rfl)) (hw _ (List.mem_of_getElem? (i := 26) rfl)) (hw _ (List.mem_of_getElem? (i := 6) rfl)) (hw _ (List.mem_of_getElem? (i := 28) rfl)) (by decide) (W := 0) (rm5_N0 l Z a0 hw [] b25 (Int32.ofNat i) ca sc n i (fun _ => (-9223372036854775808 : Int64)) (fun _ => (0 : Int32)) T26.heap n0 Z26 rfl hin hn4 E_ao F_compact F_scale F_whole V_ca V_sc ne_b25_ca ne_b25_sc ne_ca_sc g_ca) (by decide) (by decide) E_ao (g := (mkF m 104 #[.val (.int pp), .val (.int pq), .val (.long qc1), .second, .val (.long qc2), .second, .val (.int ps1), .val (.int ps2), .val (.int (Int32.ofNat n)), .val (.int kd1), .val (.int kd2), .val (.int (Int32.ofNat i)), .val (.int (Int32.ofNat j)), .val (.int (Int32.ofNat k)), .val .null, .val (.ref r24), .val (.ref b25), .unset] [.null, (.int (Int32.ofNat i)), (.ref b25)])) rfl (by rw [hml]; rfl) (argsL := [(.int (Int32.ofNat i)), .null]) (rest := []) (lenOf pd_0_4 rfl) rfl (by show 2 * 0 + _ ≤ _; exact Nat.le_of_eq rfl) (hb hby at_104) rfl rfl (by decide) (by decide)
    obtain ⟨rfl, Nq27, Kq27, Vc27⟩ := hQ27
    have N27 := Fr.app N26 Nq27
    have E_r24_27 := E_r24_26.keep Kq27
    have F_compact_r24_27 := F_compact_r24_26.keep Kq27 (ninS ne_r24_ca nin0)
    have F_scale_r24_27 := F_scale_r24_26.keep Kq27 (ninS ne_r24_ca nin0)
    have E_ao_27 := E_ao.keep Kq27
    have F_compact_27 := F_compact.keep Kq27 (ninS ne_b25_ca nin0)
    have F_scale_27 := F_scale.keep Kq27 (ninS ne_b25_ca nin0)
    have F_whole_27 := F_whole.keep Kq27 (ninS ne_b25_ca nin0)
    have V_sc_27 := V_sc.keep Kq27 (ninS (Ne.symm ne_ca_sc) nin0)
    have Z27 : n0 ≤ T27.heap.size := Nat.le_trans Z26 Kq27.1
    refine own_go st27 ?_
    show OwnFin p e below s _ _ _ (T27.setTop (mkF m 107 #[.val (.int pp), .val (.int pq), .val (.long qc1), .second, .val (.long qc2), .second, .val (.int ps1), .val (.int ps2), .val (.int (Int32.ofNat n)), .val (.int kd1), .val (.int kd2), .val (.int (Int32.ofNat i)), .val (.int (Int32.ofNat j)), .val (.int (Int32.ofNat k)), .val .null, .val (.ref r24), .val (.ref b25), .unset] []))
    refine own_go (fun t_ k_ => XS.aload X27.here hx rfl (hb hby at_107) rfl rfl k_) ?_
    show OwnFin p e below s _ _ _ (T27.setTop (mkF m 109 #[.val (.int pp), .val (.int pq), .val (.long qc1), .second, .val (.long qc2), .second, .val (.int ps1), .val (.int ps2), .val (.int (Int32.ofNat n)), .val (.int kd1), .val (.int kd2), .val (.int (Int32.ofNat i)), .val (.int (Int32.ofNat j)), .val (.int (Int32.ofNat k)), .val .null, .val (.ref r24), .val (.ref b25), .unset] [(.ref b25)]))
    refine own_go (fun t_ k_ => XS.iload X27.here hx rfl (hb hby at_109) rfl k_) ?_
    show OwnFin p e below s _ _ _ (T27.setTop (mkF m 111 #[.val (.int pp), .val (.int pq), .val (.long qc1), .second, .val (.long qc2), .second, .val (.int ps1), .val (.int ps2), .val (.int (Int32.ofNat n)), .val (.int kd1), .val (.int kd2), .val (.int (Int32.ofNat i)), .val (.int (Int32.ofNat j)), .val (.int (Int32.ofNat k)), .val .null, .val (.ref r24), .val (.ref b25), .unset] [(.int (Int32.ofNat j)), (.ref b25)]))
    refine own_go (fun t_ k_ => XS.aload X27.here hx rfl (hb hby at_111) rfl rfl k_) ?_
    show OwnFin p e below s _ _ _ (T27.setTop (mkF m 113 #[.val (.int pp), .val (.int pq), .val (.long qc1), .second, .val (.long qc2), .second, .val (.int ps1), .val (.int ps2), .val (.int (Int32.ofNat n)), .val (.int kd1), .val (.int kd2), .val (.int (Int32.ofNat i)), .val (.int (Int32.ofNat j)), .val (.int (Int32.ofNat k)), .val .null, .val (.ref r24), .val (.ref b25), .unset] [(.ref r24), (.int (Int32.ofNat j)), (.ref b25)]))
    obtain ⟨v28, T28, L28, X28, hQ28, st28⟩ := own_callV X27 hx hZ (y := (⟨"com/example/nearside/nearside/support/SplitDecimalArray", "set", "(ILcom/example/nearside/nearside/support/SplitDecimal;)V"⟩ : MethodName)) (z := (⟨"com/example/nearside/nearside/support/SplitDecimalArray", "set", "(ILcom/example/nearside/nearside/support/SplitDecimal;)V"⟩ : MethodName)) hown (hw _ (List.mem_of_getElem? (i := 24) rfl)) (hw _ (List.mem_of_getElem? (i := 25) rfl)) (notFace_of_selects (args := #[]) (mvT hZ (hw _ (List.mem_of_getElem? (i := 27) rfl)))) (hw _ (List.mem_of_getElem? (i := 27) rfl)) (hw _ (List.mem_of_getElem? (i := 26) rfl)) (hw _ (List.mem_of_getElem? (i := 6) rfl)) (hw _ (List.mem_of_getElem? (i := 28) rfl)) (by decide) (W := 0) (rm5_W0 l Z a0 hw [] b25 (Int32.ofNat j) r24 ca sc n j (fun z => if z = i then (-9223372036854775808 : Int64) else (fun _ => (-9223372036854775808 : Int64)) z) (fun _ => (0 : Int32)) T27.heap n0 Z27 rfl hjn hn4 E_ao_27 F_compact_27 F_scale_27 F_whole_27 Vc27 V_sc_27 E_r24_27 F_compact_r24_27 ne_b25_ca ne_b25_sc ne_ca_sc ne_r24_ca ne_r24_sc (Ne.symm ne_r24_b25) g_b25 g_ca) (by decide) (by decide) E_ao_27 (g := (mkF m 113 #[.val (.int pp), .val (.int pq), .val (.long qc1), .second, .val (.long qc2), .second, .val (.int ps1), .val (.int ps2), .val (.int (Int32.ofNat n)), .val (.int kd1), .val (.int kd2), .val (.int (Int32.ofNat i)), .val (.int (Int32.ofNat j)), .val (.int (Int32.ofNat k)), .val .null, .val (.ref r24), .val (.ref b25), .unset] [(.ref r24), (.int (Int32.ofNat j)), (.ref b25)])) rfl (by rw [hml]; rfl) (argsL := [(.int (Int32.ofNat j)), (.ref r24)]) (rest := []) (lenOf pd_0_4 rfl) rfl (by show 2 * 0 + _ ≤ _; exact Nat.le_of_eq rfl) (hb hby at_113) rfl rfl (by decide) (by decide)
    obtain ⟨rfl, Nq28, Kq28, wa, szw, neca, nesc, neao, nevo, Fw28, Vc28, Vw28⟩ := hQ28
    have N28 := Fr.app N27 Nq28
    have g_wa : n0 ≤ wa := Nat.le_trans Z27 szw
    have ne_r24_wa : r24 ≠ wa := Nat.ne_of_lt (Nat.lt_of_lt_of_le E_r24_27.lt szw)
    have ne_b25_wa : b25 ≠ wa := Nat.ne_of_lt (Nat.lt_of_lt_of_le E_ao_27.lt szw)
    have ne_sc_wa : sc ≠ wa := Nat.ne_of_lt (Nat.lt_of_lt_of_le V_sc_27.lt szw)
    have ne_ca_wa : ca ≠ wa := Nat.ne_of_lt (Nat.lt_of_lt_of_le Vc27.lt szw)
    have E_r24_28 := E_r24_27.keep Kq28
    have F_compact_r24_28 := F_compact_r24_27.keep Kq28 (ninS ne_r24_b25 (ninS ne_r24_ca nin0))
    have F_scale_r24_28 := F_scale_r24_27.keep Kq28 (ninS ne_r24_b25 (ninS ne_r24_ca nin0))
    have E_ao_28 := E_ao_27.keep Kq28
    have V_sc_28 := V_sc_27.keep Kq28 (ninS (Ne.symm ne_b25_sc) (ninS (Ne.symm ne_ca_sc) nin0))
    have Z28 : n0 ≤ T28.heap.size := Nat.le_trans Z27 Kq28.1
    obtain ⟨Fc28, Fs28, Fw28⟩ := Fw28
    refine own_go st28 ?_
    show OwnFin p e below s _ _ _ (T28.setTop (mkF m 116 #[.val (.int pp), .val (.int pq), .val (.long qc1), .second, .val (.long qc2), .second, .val (.int ps1), .val (.int ps2), .val (.int (Int32.ofNat n)), .val (.int kd1), .val (.int kd2), .val (.int (Int32.ofNat i)), .val (.int (Int32.ofNat j)), .val (.int (Int32.ofNat k)), .val .null, .val (.ref r24), .val (.ref b25), .unset] []))
    refine own_go (fun t_ k_ => XS.aload X28.here hx rfl (hb hby at_116) rfl rfl k_) ?_
    show OwnFin p e below s _ _ _ (T28.setTop (mkF m 118 #[.val (.int pp), .val (.int pq), .val (.long qc1), .second, .val (.long qc2), .second, .val (.int ps1), .val (.int ps2), .val (.int (Int32.ofNat n)), .val (.int kd1), .val (.int kd2), .val (.int (Int32.ofNat i)), .val (.int (Int32.ofNat j)), .val (.int (Int32.ofNat k)), .val .null, .val (.ref r24), .val (.ref b25), .unset] [(.ref b25)]))
    refine own_go (fun t_ k_ => XS.iload X28.here hx rfl (hb hby at_118) rfl k_) ?_
    show OwnFin p e below s _ _ _ (T28.setTop (mkF m 120 #[.val (.int pp), .val (.int pq), .val (.long qc1), .second, .val (.long qc2), .second, .val (.int ps1), .val (.int ps2), .val (.int (Int32.ofNat n)), .val (.int kd1), .val (.int kd2), .val (.int (Int32.ofNat i)), .val (.int (Int32.ofNat j)), .val (.int (Int32.ofNat k)), .val .null, .val (.ref r24), .val (.ref b25), .unset] [(.int (Int32.ofNat j)), (.ref b25)]))
    obtain ⟨v29, T29, L29, X29, hQ29, st29⟩ := own_callV X28 hx hZ (y := (⟨"com/example/nearside/nearside/support/SplitDecimalArray", "get", "(I)Lcom/example/nearside/nearside/support/SplitDecimal;"⟩ : MethodName)) (z := (⟨"com/example/nearside/nearside/support/SplitDecimalArray", "get", "(I)Lcom/example/nearside/nearside/support/SplitDecimal;"⟩ : MethodName)) hown (hw _ (List.mem_of_getElem? (i := 31) rfl)) (hw _ (List.mem_of_getElem? (i := 32) rfl)) (notFace_of_selects (args := #[]) (mvT hZ (hw _ (List.mem_of_getElem? (i := 34) rfl)))) (hw _ (List.mem_of_getElem? (i := 34) rfl)) (hw _ (List.mem_of_getElem? (i := 33) rfl)) (hw _ (List.mem_of_getElem? (i := 6) rfl)) (hw _ (List.mem_of_getElem? (i := 35) rfl)) (by decide) (W := 0) (rm6_W l Z a0 hw [] b25 (Int32.ofNat j) ca wa n j (fun z => if z = j then (-9223372036854775808 : Int64) else (fun z => if z = i then (-9223372036854775808 : Int64) else (fun _ => (-9223372036854775808 : Int64)) z) z) (fun z => if z = j then Value.ref r24 else Value.null) r24 T28.heap n0 Z28 rfl hjn Fc28 Fw28 Vc28 (by (try dsimp only); rw [if_pos rfl]) Vw28 (by (try dsimp only); rw [if_pos rfl])) (by decide) (by decide) E_ao_28 (g := (mkF m 120 #[.val (.int pp), .val (.int pq), .val (.long qc1), .second, .val (.long qc2), .second, .val (.int ps1), .val (.int ps2), .val (.int (Int32.ofNat n)), .val (.int kd1), .val (.int kd2), .val (.int (Int32.ofNat i)), .val (.int (Int32.ofNat j)), .val (.int (Int32.ofNat k)), .val .null, .val (.ref r24), .val (.ref b25), .unset] [(.int (Int32.ofNat j)), (.ref b25)])) rfl (by rw [hml]; rfl) (argsL := [(.int (Int32.ofNat j))]) (rest := []) (lenOf pd_0_5 rfl) rfl (by show 2 * 0 + _ ≤ _; exact Nat.le_of_eq rfl) (hb hby at_120) rfl rfl (by decide) (by decide)
    obtain ⟨rfl, Nq29, e29⟩ := hQ29
    have N29 := Fr.app N28 Nq29
    refine own_go st29 ?_
    show OwnFin p e below s _ _ _ (T29.setTop (mkF m 123 #[.val (.int pp), .val (.int pq), .val (.long qc1), .second, .val (.long qc2), .second, .val (.int ps1), .val (.int ps2), .val (.int (Int32.ofNat n)), .val (.int kd1), .val (.int kd2), .val (.int (Int32.ofNat i)), .val (.int (Int32.ofNat j)), .val (.int (Int32.ofNat k)), .val .null, .val (.ref r24), .val (.ref b25), .unset] [(.ref r24)]))
    refine own_go (fun t_ k_ => XS.aload X29.here hx rfl (hb hby at_123) rfl rfl k_) ?_
    show OwnFin p e below s _ _ _ (T29.setTop (mkF m 125 #[.val (.int pp), .val (.int pq), .val (.long qc1), .second, .val (.long qc2), .second, .val (.int ps1), .val (.int ps2), .val (.int (Int32.ofNat n)), .val (.int kd1), .val (.int kd2), .val (.int (Int32.ofNat i)), .val (.int (Int32.ofNat j)), .val (.int (Int32.ofNat k)), .val .null, .val (.ref r24), .val (.ref b25), .unset] [(.ref r24), (.ref r24)]))
    obtain ⟨v30, T30, L30, X30, hQ30, st30⟩ := own_callS X29 hx hZ (y := (⟨"com/example/nearside/nearside/support/SplitDecimalArraySetPinLaw", "holds", "(Lcom/example/nearside/nearside/support/SplitDecimal;Lcom/example/nearside/nearside/support/SplitDecimal;)Z"⟩ : MethodName)) hown (hw _ (List.mem_of_getElem? (i := 36) rfl)) (hw _ (List.mem_of_getElem? (i := 37) rfl)) (hw _ (List.mem_of_getElem? (i := 2) rfl)) (hw _ (List.mem_of_getElem? (i := 38) rfl)) (by decide) (W := 0) (rm7_W l Z a0 hw [] r24 T28.heap n0 Z28 F_compact_r24_28) (by decide) (by decide) (g := (mkF m 125 #[.val (.int pp), .val (.int pq), .val (.long qc1), .second, .val (.long qc2), .second, .val (.int ps1), .val (.int ps2), .val (.int (Int32.ofNat n)), .val (.int kd1), .val (.int kd2), .val (.int (Int32.ofNat i)), .val (.int (Int32.ofNat j)), .val (.int (Int32.ofNat k)), .val .null, .val (.ref r24), .val (.ref b25), .unset] [(.ref r24), (.ref r24)])) rfl (by rw [hml]; rfl) (argsL := [(.ref r24), (.ref r24)]) (rest := []) (lenOf pd_0_6 rfl) rfl (by show 2 * 0 + _ ≤ _; exact Nat.le_of_eq rfl) (hb hby at_125) e29 rfl (by decide) (by decide)
    obtain ⟨rfl, Nq30, e30⟩ := hQ30
    have N30 := Fr.app N29 Nq30
    refine own_go st30 ?_
    show OwnFin p e below s _ _ _ (T30.setTop (mkF m 128 #[.val (.int pp), .val (.int pq), .val (.long qc1), .second, .val (.long qc2), .second, .val (.int ps1), .val (.int ps2), .val (.int (Int32.ofNat n)), .val (.int kd1), .val (.int kd2), .val (.int (Int32.ofNat i)), .val (.int (Int32.ofNat j)), .val (.int (Int32.ofNat k)), .val .null, .val (.ref r24), .val (.ref b25), .unset] [(.int (1 : Int32))]))
    refine own_go (fun t_ k_ => XS.istore X30.here hx rfl (hb hby at_128) rfl (l' := #[.val (.int pp), .val (.int pq), .val (.long qc1), .second, .val (.long qc2), .second, .val (.int ps1), .val (.int ps2), .val (.int (Int32.ofNat n)), .val (.int kd1), .val (.int kd2), .val (.int (Int32.ofNat i)), .val (.int (Int32.ofNat j)), .val (.int (Int32.ofNat k)), .val .null, .val (.ref r24), .val (.ref b25), .val (.int (1 : Int32))]) rfl k_) ?_
    show OwnFin p e below s _ _ _ (T30.setTop (mkF m 130 #[.val (.int pp), .val (.int pq), .val (.long qc1), .second, .val (.long qc2), .second, .val (.int ps1), .val (.int ps2), .val (.int (Int32.ofNat n)), .val (.int kd1), .val (.int kd2), .val (.int (Int32.ofNat i)), .val (.int (Int32.ofNat j)), .val (.int (Int32.ofNat k)), .val .null, .val (.ref r24), .val (.ref b25), .val (.int (1 : Int32))] []))
    by_cases hij : i = j
    · refine own_go (fun t_ k_ => XS.iload X30.here hx rfl (hb hby at_130) rfl k_) ?_
      show OwnFin p e below s _ _ _ (T30.setTop (mkF m 132 #[.val (.int pp), .val (.int pq), .val (.long qc1), .second, .val (.long qc2), .second, .val (.int ps1), .val (.int ps2), .val (.int (Int32.ofNat n)), .val (.int kd1), .val (.int kd2), .val (.int (Int32.ofNat i)), .val (.int (Int32.ofNat j)), .val (.int (Int32.ofNat k)), .val .null, .val (.ref r24), .val (.ref b25), .val (.int (1 : Int32))] [(.int (Int32.ofNat i))]))
      refine own_go (fun t_ k_ => XS.iload X30.here hx rfl (hb hby at_132) rfl k_) ?_
      show OwnFin p e below s _ _ _ (T30.setTop (mkF m 134 #[.val (.int pp), .val (.int pq), .val (.long qc1), .second, .val (.long qc2), .second, .val (.int ps1), .val (.int ps2), .val (.int (Int32.ofNat n)), .val (.int kd1), .val (.int kd2), .val (.int (Int32.ofNat i)), .val (.int (Int32.ofNat j)), .val (.int (Int32.ofNat k)), .val .null, .val (.ref r24), .val (.ref b25), .val (.int (1 : Int32))] [(.int (Int32.ofNat j)), (.int (Int32.ofNat i))]))
      have hc134 : (Int32.ofNat i) = (Int32.ofNat j) := by rw [hij]
      refine own_go (fun t_ k_ => XS.icmpYes X30.here hx rfl (pc0 := 134) (pc' := 164) rfl (hb hby at_134) rfl (teq hc134).1 (by decide) (by decide) k_) ?_
      show OwnFin p e below s _ _ _ (T30.setTop (mkF m 164 #[.val (.int pp), .val (.int pq), .val (.long qc1), .second, .val (.long qc2), .second, .val (.int ps1), .val (.int ps2), .val (.int (Int32.ofNat n)), .val (.int kd1), .val (.int kd2), .val (.int (Int32.ofNat i)), .val (.int (Int32.ofNat j)), .val (.int (Int32.ofNat k)), .val .null, .val (.ref r24), .val (.ref b25), .val (.int (1 : Int32))] []))
      by_cases hki : k = i
      · refine own_go (fun t_ k_ => XS.iload X30.here hx rfl (hb hby at_164) rfl k_) ?_
        show OwnFin p e below s _ _ _ (T30.setTop (mkF m 166 #[.val (.int pp), .val (.int pq), .val (.long qc1), .second, .val (.long qc2), .second, .val (.int ps1), .val (.int ps2), .val (.int (Int32.ofNat n)), .val (.int kd1), .val (.int kd2), .val (.int (Int32.ofNat i)), .val (.int (Int32.ofNat j)), .val (.int (Int32.ofNat k)), .val .null, .val (.ref r24), .val (.ref b25), .val (.int (1 : Int32))] [(.int (Int32.ofNat k))]))
        refine own_go (fun t_ k_ => XS.iload X30.here hx rfl (hb hby at_166) rfl k_) ?_
        show OwnFin p e below s _ _ _ (T30.setTop (mkF m 168 #[.val (.int pp), .val (.int pq), .val (.long qc1), .second, .val (.long qc2), .second, .val (.int ps1), .val (.int ps2), .val (.int (Int32.ofNat n)), .val (.int kd1), .val (.int kd2), .val (.int (Int32.ofNat i)), .val (.int (Int32.ofNat j)), .val (.int (Int32.ofNat k)), .val .null, .val (.ref r24), .val (.ref b25), .val (.int (1 : Int32))] [(.int (Int32.ofNat i)), (.int (Int32.ofNat k))]))
        have hc168 : (Int32.ofNat k) = (Int32.ofNat i) := by rw [hki]
        refine own_go (fun t_ k_ => XS.icmpYes X30.here hx rfl (pc0 := 168) (pc' := 200) rfl (hb hby at_168) rfl (teq hc168).1 (by decide) (by decide) k_) ?_
        show OwnFin p e below s _ _ _ (T30.setTop (mkF m 200 #[.val (.int pp), .val (.int pq), .val (.long qc1), .second, .val (.long qc2), .second, .val (.int ps1), .val (.int ps2), .val (.int (Int32.ofNat n)), .val (.int kd1), .val (.int kd2), .val (.int (Int32.ofNat i)), .val (.int (Int32.ofNat j)), .val (.int (Int32.ofNat k)), .val .null, .val (.ref r24), .val (.ref b25), .val (.int (1 : Int32))] []))
        refine own_go (fun t_ k_ => XS.iload X30.here hx rfl (hb hby at_200) rfl k_) ?_
        show OwnFin p e below s _ _ _ (T30.setTop (mkF m 202 #[.val (.int pp), .val (.int pq), .val (.long qc1), .second, .val (.long qc2), .second, .val (.int ps1), .val (.int ps2), .val (.int (Int32.ofNat n)), .val (.int kd1), .val (.int kd2), .val (.int (Int32.ofNat i)), .val (.int (Int32.ofNat j)), .val (.int (Int32.ofNat k)), .val .null, .val (.ref r24), .val (.ref b25), .val (.int (1 : Int32))] [(.int (1 : Int32))]))
        refine own_ret X30 (v := some (.int (1 : Int32))) hlk (fun hh => by rw [hret] at hh; cases hh) (fun fs hr => retN X30 hx (t := .boolean) hret (by simp) (hb hby at_202) hr) (by decide) (by decide) ?_
        exact ⟨rfl, N30⟩
      · refine own_go (fun t_ k_ => XS.iload X30.here hx rfl (hb hby at_164) rfl k_) ?_
        show OwnFin p e below s _ _ _ (T30.setTop (mkF m 166 #[.val (.int pp), .val (.int pq), .val (.long qc1), .second, .val (.long qc2), .second, .val (.int ps1), .val (.int ps2), .val (.int (Int32.ofNat n)), .val (.int kd1), .val (.int kd2), .val (.int (Int32.ofNat i)), .val (.int (Int32.ofNat j)), .val (.int (Int32.ofNat k)), .val .null, .val (.ref r24), .val (.ref b25), .val (.int (1 : Int32))] [(.int (Int32.ofNat k))]))
        refine own_go (fun t_ k_ => XS.iload X30.here hx rfl (hb hby at_166) rfl k_) ?_
        show OwnFin p e below s _ _ _ (T30.setTop (mkF m 168 #[.val (.int pp), .val (.int pq), .val (.long qc1), .second, .val (.long qc2), .second, .val (.int ps1), .val (.int ps2), .val (.int (Int32.ofNat n)), .val (.int kd1), .val (.int kd2), .val (.int (Int32.ofNat i)), .val (.int (Int32.ofNat j)), .val (.int (Int32.ofNat k)), .val .null, .val (.ref r24), .val (.ref b25), .val (.int (1 : Int32))] [(.int (Int32.ofNat i)), (.int (Int32.ofNat k))]))
        have hc168 : ¬ ((Int32.ofNat k) = (Int32.ofNat i)) := fun q => hki (own_ofNat_inj (by omega) (by omega) q)
        refine own_go (fun t_ k_ => XS.icmpNo X30.here hx rfl (hb hby at_168) rfl (feq hc168).1 k_) ?_
        show OwnFin p e below s _ _ _ (T30.setTop (mkF m 171 #[.val (.int pp), .val (.int pq), .val (.long qc1), .second, .val (.long qc2), .second, .val (.int ps1), .val (.int ps2), .val (.int (Int32.ofNat n)), .val (.int kd1), .val (.int kd2), .val (.int (Int32.ofNat i)), .val (.int (Int32.ofNat j)), .val (.int (Int32.ofNat k)), .val .null, .val (.ref r24), .val (.ref b25), .val (.int (1 : Int32))] []))
        by_cases hkj : k = j
        · refine own_go (fun t_ k_ => XS.iload X30.here hx rfl (hb hby at_171) rfl k_) ?_
          show OwnFin p e below s _ _ _ (T30.setTop (mkF m 173 #[.val (.int pp), .val (.int pq), .val (.long qc1), .second, .val (.long qc2), .second, .val (.int ps1), .val (.int ps2), .val (.int (Int32.ofNat n)), .val (.int kd1), .val (.int kd2), .val (.int (Int32.ofNat i)), .val (.int (Int32.ofNat j)), .val (.int (Int32.ofNat k)), .val .null, .val (.ref r24), .val (.ref b25), .val (.int (1 : Int32))] [(.int (Int32.ofNat k))]))
          refine own_go (fun t_ k_ => XS.iload X30.here hx rfl (hb hby at_173) rfl k_) ?_
          show OwnFin p e below s _ _ _ (T30.setTop (mkF m 175 #[.val (.int pp), .val (.int pq), .val (.long qc1), .second, .val (.long qc2), .second, .val (.int ps1), .val (.int ps2), .val (.int (Int32.ofNat n)), .val (.int kd1), .val (.int kd2), .val (.int (Int32.ofNat i)), .val (.int (Int32.ofNat j)), .val (.int (Int32.ofNat k)), .val .null, .val (.ref r24), .val (.ref b25), .val (.int (1 : Int32))] [(.int (Int32.ofNat j)), (.int (Int32.ofNat k))]))
          have hc175 : (Int32.ofNat k) = (Int32.ofNat j) := by rw [hkj]
          refine own_go (fun t_ k_ => XS.icmpYes X30.here hx rfl (pc0 := 175) (pc' := 200) rfl (hb hby at_175) rfl (teq hc175).1 (by decide) (by decide) k_) ?_
          show OwnFin p e below s _ _ _ (T30.setTop (mkF m 200 #[.val (.int pp), .val (.int pq), .val (.long qc1), .second, .val (.long qc2), .second, .val (.int ps1), .val (.int ps2), .val (.int (Int32.ofNat n)), .val (.int kd1), .val (.int kd2), .val (.int (Int32.ofNat i)), .val (.int (Int32.ofNat j)), .val (.int (Int32.ofNat k)), .val .null, .val (.ref r24), .val (.ref b25), .val (.int (1 : Int32))] []))
          refine own_go (fun t_ k_ => XS.iload X30.here hx rfl (hb hby at_200) rfl k_) ?_
          show OwnFin p e below s _ _ _ (T30.setTop (mkF m 202 #[.val (.int pp), .val (.int pq), .val (.long qc1), .second, .val (.long qc2), .second, .val (.int ps1), .val (.int ps2), .val (.int (Int32.ofNat n)), .val (.int kd1), .val (.int kd2), .val (.int (Int32.ofNat i)), .val (.int (Int32.ofNat j)), .val (.int (Int32.ofNat k)), .val .null, .val (.ref r24), .val (.ref b25), .val (.int (1 : Int32))] [(.int (1 : Int32))]))
          refine own_ret X30 (v := some (.int (1 : Int32))) hlk (fun hh => by rw [hret] at hh; cases hh) (fun fs hr => retN X30 hx (t := .boolean) hret (by simp) (hb hby at_202) hr) (by decide) (by decide) ?_
          exact ⟨rfl, N30⟩
        · refine own_go (fun t_ k_ => XS.iload X30.here hx rfl (hb hby at_171) rfl k_) ?_
          show OwnFin p e below s _ _ _ (T30.setTop (mkF m 173 #[.val (.int pp), .val (.int pq), .val (.long qc1), .second, .val (.long qc2), .second, .val (.int ps1), .val (.int ps2), .val (.int (Int32.ofNat n)), .val (.int kd1), .val (.int kd2), .val (.int (Int32.ofNat i)), .val (.int (Int32.ofNat j)), .val (.int (Int32.ofNat k)), .val .null, .val (.ref r24), .val (.ref b25), .val (.int (1 : Int32))] [(.int (Int32.ofNat k))]))
          refine own_go (fun t_ k_ => XS.iload X30.here hx rfl (hb hby at_173) rfl k_) ?_
          show OwnFin p e below s _ _ _ (T30.setTop (mkF m 175 #[.val (.int pp), .val (.int pq), .val (.long qc1), .second, .val (.long qc2), .second, .val (.int ps1), .val (.int ps2), .val (.int (Int32.ofNat n)), .val (.int kd1), .val (.int kd2), .val (.int (Int32.ofNat i)), .val (.int (Int32.ofNat j)), .val (.int (Int32.ofNat k)), .val .null, .val (.ref r24), .val (.ref b25), .val (.int (1 : Int32))] [(.int (Int32.ofNat j)), (.int (Int32.ofNat k))]))
          have hc175 : ¬ ((Int32.ofNat k) = (Int32.ofNat j)) := fun q => hkj (own_ofNat_inj (by omega) (by omega) q)
          refine own_go (fun t_ k_ => XS.icmpNo X30.here hx rfl (hb hby at_175) rfl (feq hc175).1 k_) ?_
          show OwnFin p e below s _ _ _ (T30.setTop (mkF m 178 #[.val (.int pp), .val (.int pq), .val (.long qc1), .second, .val (.long qc2), .second, .val (.int ps1), .val (.int ps2), .val (.int (Int32.ofNat n)), .val (.int kd1), .val (.int kd2), .val (.int (Int32.ofNat i)), .val (.int (Int32.ofNat j)), .val (.int (Int32.ofNat k)), .val .null, .val (.ref r24), .val (.ref b25), .val (.int (1 : Int32))] []))
          refine own_go (fun t_ k_ => XS.iload X30.here hx rfl (hb hby at_178) rfl k_) ?_
          show OwnFin p e below s _ _ _ (T30.setTop (mkF m 180 #[.val (.int pp), .val (.int pq), .val (.long qc1), .second, .val (.long qc2), .second, .val (.int ps1), .val (.int ps2), .val (.int (Int32.ofNat n)), .val (.int kd1), .val (.int kd2), .val (.int (Int32.ofNat i)), .val (.int (Int32.ofNat j)), .val (.int (Int32.ofNat k)), .val .null, .val (.ref r24), .val (.ref b25), .val (.int (1 : Int32))] [(.int (1 : Int32))]))
          refine own_go (fun t_ k_ => XS.ifNo X30.here hx rfl (hb hby at_180) rfl ((if0 _ _).trans (feq (by decide)).1) k_) ?_
          show OwnFin p e below s _ _ _ (T30.setTop (mkF m 183 #[.val (.int pp), .val (.int pq), .val (.long qc1), .second, .val (.long qc2), .second, .val (.int ps1), .val (.int ps2), .val (.int (Int32.ofNat n)), .val (.int kd1), .val (.int kd2), .val (.int (Int32.ofNat i)), .val (.int (Int32.ofNat j)), .val (.int (Int32.ofNat k)), .val .null, .val (.ref r24), .val (.ref b25), .val (.int (1 : Int32))] []))
          refine own_go (fun t_ k_ => XS.aload X30.here hx rfl (hb hby at_183) rfl rfl k_) ?_
          show OwnFin p e below s _ _ _ (T30.setTop (mkF m 185 #[.val (.int pp), .val (.int pq), .val (.long qc1), .second, .val (.long qc2), .second, .val (.int ps1), .val (.int ps2), .val (.int (Int32.ofNat n)), .val (.int kd1), .val (.int kd2), .val (.int (Int32.ofNat i)), .val (.int (Int32.ofNat j)), .val (.int (Int32.ofNat k)), .val .null, .val (.ref r24), .val (.ref b25), .val (.int (1 : Int32))] [(.ref b25)]))
          refine own_go (fun t_ k_ => XS.iload X30.here hx rfl (hb hby at_185) rfl k_) ?_
          show OwnFin p e below s _ _ _ (T30.setTop (mkF m 187 #[.val (.int pp), .val (.int pq), .val (.long qc1), .second, .val (.long qc2), .second, .val (.int ps1), .val (.int ps2), .val (.int (Int32.ofNat n)), .val (.int kd1), .val (.int kd2), .val (.int (Int32.ofNat i)), .val (.int (Int32.ofNat j)), .val (.int (Int32.ofNat k)), .val .null, .val (.ref r24), .val (.ref b25), .val (.int (1 : Int32))] [(.int (Int32.ofNat k)), (.ref b25)]))
          obtain ⟨v31, T31, L31, X31, hQ31, st31⟩ := own_callV X30 hx hZ (y := (⟨"com/example/nearside/nearside/support/SplitDecimalArray", "get", "(I)Lcom/example/nearside/nearside/support/SplitDecimal;"⟩ : MethodName)) (z := (⟨"com/example/nearside/nearside/support/SplitDecimalArray", "get", "(I)Lcom/example/nearside/nearside/support/SplitDecimal;"⟩ : MethodName)) hown (hw _ (List.mem_of_getElem? (i := 31) rfl)) (hw _ (List.mem_of_getElem? (i := 32) rfl)) (notFace_of_selects (args := #[]) (mvT hZ (hw _ (List.mem_of_getElem? (i := 34) rfl)))) (hw _ (List.mem_of_getElem? (i := 34) rfl)) (hw _ (List.mem_of_getElem? (i := 33) rfl)) (hw _ (List.mem_of_getElem? (i := 6) rfl)) (hw _ (List.mem_of_getElem? (i := 35) rfl)) (by decide) (W := 0) (rm6_V l Z a0 hw [] b25 (Int32.ofNat k) ca wa n k (fun z => if z = j then (-9223372036854775808 : Int64) else (fun z => if z = i then (-9223372036854775808 : Int64) else (fun _ => (-9223372036854775808 : Int64)) z) z) (fun z => if z = j then Value.ref r24 else Value.null) T28.heap n0 Z28 rfl hkn Fc28 Fw28 Vc28 (by (try dsimp only); rw [if_neg hkj, if_neg hki]) Vw28 (by (try dsimp only); rw [if_neg hkj])) (by decide) (by decide) E_ao_28 (g := (mkF m 187 #[.val (.int pp), .val (.int pq), .val (.long qc1), .second, .val (.long qc2), .second, .val (.int ps1), .val (.int ps2), .val (.int (Int32.ofNat n)), .val (.int kd1), .val (.int kd2), .val (.int (Int32.ofNat i)), .val (.int (Int32.ofNat j)), .val (.int (Int32.ofNat k)), .val .null, .val (.ref r24), .val (.ref b25), .val (.int (1 : Int32))] [(.int (Int32.ofNat k)), (.ref b25)])) rfl (by rw [hml]; rfl) (argsL := [(.int (Int32.ofNat k))]) (rest := []) (lenOf pd_0_5 rfl) rfl (by show 2 * 0 + _ ≤ _; exact Nat.le_of_eq rfl) (hb hby at_187) e30 rfl (by decide) (by decide)
          obtain ⟨rfl, Nq31, e31⟩ := hQ31
          have N31 := Fr.app N30 Nq31
          refine own_go st31 ?_
          show OwnFin p e below s _ _ _ (T31.setTop (mkF m 190 #[.val (.int pp), .val (.int pq), .val (.long qc1), .second, .val (.long qc2), .second, .val (.int ps1), .val (.int ps2), .val (.int (Int32.ofNat n)), .val (.int kd1), .val (.int kd2), .val (.int (Int32.ofNat i)), .val (.int (Int32.ofNat j)), .val (.int (Int32.ofNat k)), .val .null, .val (.ref r24), .val (.ref b25), .val (.int (1 : Int32))] [.null]))
          refine own_go (fun t_ k_ => XS.ifnonnullNo X31.here hx rfl (hb hby at_190) rfl k_) ?_
          show OwnFin p e below s _ _ _ (T31.setTop (mkF m 193 #[.val (.int pp), .val (.int pq), .val (.long qc1), .second, .val (.long qc2), .second, .val (.int ps1), .val (.int ps2), .val (.int (Int32.ofNat n)), .val (.int kd1), .val (.int kd2), .val (.int (Int32.ofNat i)), .val (.int (Int32.ofNat j)), .val (.int (Int32.ofNat k)), .val .null, .val (.ref r24), .val (.ref b25), .val (.int (1 : Int32))] []))
          refine own_go (fun t_ k_ => XS.iconst X31.here hx rfl (hb hby at_193) k_) ?_
          show OwnFin p e below s _ _ _ (T31.setTop (mkF m 194 #[.val (.int pp), .val (.int pq), .val (.long qc1), .second, .val (.long qc2), .second, .val (.int ps1), .val (.int ps2), .val (.int (Int32.ofNat n)), .val (.int kd1), .val (.int kd2), .val (.int (Int32.ofNat i)), .val (.int (Int32.ofNat j)), .val (.int (Int32.ofNat k)), .val .null, .val (.ref r24), .val (.ref b25), .val (.int (1 : Int32))] [(.int (1 : Int32))]))
          refine own_go (fun t_ k_ => XS.goto X31.here hx rfl (pc0 := 194) (pc' := 198) rfl (hb hby at_194) (by decide) (by decide) k_) ?_
          show OwnFin p e below s _ _ _ (T31.setTop (mkF m 198 #[.val (.int pp), .val (.int pq), .val (.long qc1), .second, .val (.long qc2), .second, .val (.int ps1), .val (.int ps2), .val (.int (Int32.ofNat n)), .val (.int kd1), .val (.int kd2), .val (.int (Int32.ofNat i)), .val (.int (Int32.ofNat j)), .val (.int (Int32.ofNat k)), .val .null, .val (.ref r24), .val (.ref b25), .val (.int (1 : Int32))] [(.int (1 : Int32))]))
          refine own_go (fun t_ k_ => XS.istore X31.here hx rfl (hb hby at_198) rfl (l' := #[.val (.int pp), .val (.int pq), .val (.long qc1), .second, .val (.long qc2), .second, .val (.int ps1), .val (.int ps2), .val (.int (Int32.ofNat n)), .val (.int kd1), .val (.int kd2), .val (.int (Int32.ofNat i)), .val (.int (Int32.ofNat j)), .val (.int (Int32.ofNat k)), .val .null, .val (.ref r24), .val (.ref b25), .val (.int (1 : Int32))]) rfl k_) ?_
          show OwnFin p e below s _ _ _ (T31.setTop (mkF m 200 #[.val (.int pp), .val (.int pq), .val (.long qc1), .second, .val (.long qc2), .second, .val (.int ps1), .val (.int ps2), .val (.int (Int32.ofNat n)), .val (.int kd1), .val (.int kd2), .val (.int (Int32.ofNat i)), .val (.int (Int32.ofNat j)), .val (.int (Int32.ofNat k)), .val .null, .val (.ref r24), .val (.ref b25), .val (.int (1 : Int32))] []))
          refine own_go (fun t_ k_ => XS.iload X31.here hx rfl (hb hby at_200) rfl k_) ?_
          show OwnFin p e below s _ _ _ (T31.setTop (mkF m 202 #[.val (.int pp), .val (.int pq), .val (.long qc1), .second, .val (.long qc2), .second, .val (.int ps1), .val (.int ps2), .val (.int (Int32.ofNat n)), .val (.int kd1), .val (.int kd2), .val (.int (Int32.ofNat i)), .val (.int (Int32.ofNat j)), .val (.int (Int32.ofNat k)), .val .null, .val (.ref r24), .val (.ref b25), .val (.int (1 : Int32))] [(.int (1 : Int32))]))
          refine own_ret X31 (v := some (.int (1 : Int32))) hlk (fun hh => by rw [hret] at hh; cases hh) (fun fs hr => retN X31 hx (t := .boolean) hret (by simp) (hb hby at_202) hr) (by decide) (by decide) ?_
          exact ⟨rfl, N31⟩
    · refine own_go (fun t_ k_ => XS.iload X30.here hx rfl (hb hby at_130) rfl k_) ?_
      show OwnFin p e below s _ _ _ (T30.setTop (mkF m 132 #[.val (.int pp), .val (.int pq), .val (.long qc1), .second, .val (.long qc2), .second, .val (.int ps1), .val (.int ps2), .val (.int (Int32.ofNat n)), .val (.int kd1), .val (.int kd2), .val (.int (Int32.ofNat i)), .val (.int (Int32.ofNat j)), .val (.int (Int32.ofNat k)), .val .null, .val (.ref r24), .val (.ref b25), .val (.int (1 : Int32))] [(.int (Int32.ofNat i))]))
      refine own_go (fun t_ k_ => XS.iload X30.here hx rfl (hb hby at_132) rfl k_) ?_
      show OwnFin p e below s _ _ _ (T30.setTop (mkF m 134 #[.val (.int pp), .val (.int pq), .val (.long qc1), .second, .val (.long qc2), .second, .val (.int ps1), .val (.int ps2), .val (.int (Int32.ofNat n)), .val (.int kd1), .val (.int kd2), .val (.int (Int32.ofNat i)), .val (.int (Int32.ofNat j)), .val (.int (Int32.ofNat k)), .val .null, .val (.ref r24), .val (.ref b25), .val (.int (1 : Int32))] [(.int (Int32.ofNat j)), (.int (Int32.ofNat i))]))
      have hc134 : ¬ ((Int32.ofNat i) = (Int32.ofNat j)) := fun q => hij (own_ofNat_inj (by omega) (by omega) q)
      refine own_go (fun t_ k_ => XS.icmpNo X30.here hx rfl (hb hby at_134) rfl (feq hc134).1 k_) ?_
      show OwnFin p e below s _ _ _ (T30.setTop (mkF m 137 #[.val (.int pp), .val (.int pq), .val (.long qc1), .second, .val (.long qc2), .second, .val (.int ps1), .val (.int ps2), .val (.int (Int32.ofNat n)), .val (.int kd1), .val (.int kd2), .val (.int (Int32.ofNat i)), .val (.int (Int32.ofNat j)), .val (.int (Int32.ofNat k)), .val .null, .val (.ref r24), .val (.ref b25), .val (.int (1 : Int32))] []))
      refine own_go (fun t_ k_ => XS.iload X30.here hx rfl (hb hby at_137) rfl k_) ?_
      show OwnFin p e below s _ _ _ (T30.setTop (mkF m 139 #[.val (.int pp), .val (.int pq), .val (.long qc1), .second, .val (.long qc2), .second, .val (.int ps1), .val (.int ps2), .val (.int (Int32.ofNat n)), .val (.int kd1), .val (.int kd2), .val (.int (Int32.ofNat i)), .val (.int (Int32.ofNat j)), .val (.int (Int32.ofNat k)), .val .null, .val (.ref r24), .val (.ref b25), .val (.int (1 : Int32))] [(.int (1 : Int32))]))
      refine own_go (fun t_ k_ => XS.ifNo X30.here hx rfl (hb hby at_139) rfl ((if0 _ _).trans (feq (by decide)).1) k_) ?_
      show OwnFin p e below s _ _ _ (T30.setTop (mkF m 142 #[.val (.int pp), .val (.int pq), .val (.long qc1), .second, .val (.long qc2), .second, .val (.int ps1), .val (.int ps2), .val (.int (Int32.ofNat n)), .val (.int kd1), .val (.int kd2), .val (.int (Int32.ofNat i)), .val (.int (Int32.ofNat j)), .val (.int (Int32.ofNat k)), .val .null, .val (.ref r24), .val (.ref b25), .val (.int (1 : Int32))] []))
      refine own_go (fun t_ k_ => XS.aload X30.here hx rfl (hb hby at_142) rfl rfl k_) ?_
      show OwnFin p e below s _ _ _ (T30.setTop (mkF m 144 #[.val (.int pp), .val (.int pq), .val (.long qc1), .second, .val (.long qc2), .second, .val (.int ps1), .val (.int ps2), .val (.int (Int32.ofNat n)), .val (.int kd1), .val (.int kd2), .val (.int (Int32.ofNat i)), .val (.int (Int32.ofNat j)), .val (.int (Int32.ofNat k)), .val .null, .val (.ref r24), .val (.ref b25), .val (.int (1 : Int32))] [(.ref b25)]))
      refine own_go (fun t_ k_ => XS.iload X30.here hx rfl (hb hby at_144) rfl k_) ?_
      show OwnFin p e below s _ _ _ (T30.setTop (mkF m 146 #[.val (.int pp), .val (.int pq), .val (.long qc1), .second, .val (.long qc2), .second, .val (.int ps1), .val (.int ps2), .val (.int (Int32.ofNat n)), .val (.int kd1), .val (.int kd2), .val (.int (Int32.ofNat i)), .val (.int (Int32.ofNat j)), .val (.int (Int32.ofNat k)), .val .null, .val (.ref r24), .val (.ref b25), .val (.int (1 : Int32))] [(.int (Int32.ofNat i)), (.ref b25)]))
      obtain ⟨v32, T32, L32, X32, hQ32, st32⟩ := own_callV X30 hx hZ (y := (⟨"com/example/nearside/nearside/support/SplitDecimalArray", "get", "(I)Lcom/example/nearside/nearside/support/SplitDecimal;"⟩ : MethodName)) (z := (⟨"com/example/nearside/nearside/support/SplitDecimalArray", "get", "(I)Lcom/example/nearside/nearside/support/SplitDecimal;"⟩ : MethodName)) hown (hw _ (List.mem_of_getElem? (i := 31) rfl)) (hw _ (List.mem_of_getElem? (i := 32) rfl)) (notFace_of_selects (args := #[]) (mvT hZ (hw _ (List.mem_of_getElem? (i := 34) rfl)))) (hw _ (List.mem_of_getElem? (i := 34) rfl)) (hw _ (List.mem_of_getElem? (i := 33) rfl)) (hw _ (List.mem_of_getElem? (i := 6) rfl)) (hw _ (List.mem_of_getElem? (i := 35) rfl)) (by decide) (W := 0) (rm6_V l Z a0 hw [] b25 (Int32.ofNat i) ca wa n i (fun z => if z = j then (-9223372036854775808 : Int64) else (fun z => if z = i then (-9223372036854775808 : Int64) else (fun _ => (-9223372036854775808 : Int64)) z) z) (fun z => if z = j then Value.ref r24 else Value.null) T28.heap n0 Z28 rfl hin Fc28 Fw28 Vc28 (by (try dsimp only); rw [if_neg hij, if_pos rfl]) Vw28 (by (try dsimp only); rw [if_neg hij])) (by decide) (by decide) E_ao_28 (g := (mkF m 146 #[.val (.int pp), .val (.int pq), .val (.long qc1), .second, .val (.long qc2), .second, .val (.int ps1), .val (.int ps2), .val (.int (Int32.ofNat n)), .val (.int kd1), .val (.int kd2), .val (.int (Int32.ofNat i)), .val (.int (Int32.ofNat j)), .val (.int (Int32.ofNat k)), .val .null, .val (.ref r24), .val (.ref b25), .val (.int (1 : Int32))] [(.int (Int32.ofNat i)), (.ref b25)])) rfl (by rw [hml]; rfl) (argsL := [(.int (Int32.ofNat i))]) (rest := []) (lenOf pd_0_5 rfl) rfl (by show 2 * 0 + _ ≤ _; exact Nat.le_of_eq rfl) (hb hby at_146) e30 rfl (by decide) (by decide)
      obtain ⟨rfl, Nq32, e32⟩ := hQ32
      have N32 := Fr.app N30 Nq32
      refine own_go st32 ?_
      show OwnFin p e below s _ _ _ (T32.setTop (mkF m 149 #[.val (.int pp), .val (.int pq), .val (.long qc1), .second, .val (.long qc2), .second, .val (.int ps1), .val (.int ps2), .val (.int (Int32.ofNat n)), .val (.int kd1), .val (.int kd2), .val (.int (Int32.ofNat i)), .val (.int (Int32.ofNat j)), .val (.int (Int32.ofNat k)), .val .null, .val (.ref r24), .val (.ref b25), .val (.int (1 : Int32))] [.null]))
      refine own_go (fun t_ k_ => XS.aload X32.here hx rfl (hb hby at_149) rfl rfl k_) ?_
      show OwnFin p e below s _ _ _ (T32.setTop (mkF m 151 #[.val (.int pp), .val (.int pq), .val (.long qc1), .second, .val (.long qc2), .second, .val (.int ps1), .val (.int ps2), .val (.int (Int32.ofNat n)), .val (.int kd1), .val (.int kd2), .val (.int (Int32.ofNat i)), .val (.int (Int32.ofNat j)), .val (.int (Int32.ofNat k)), .val .null, .val (.ref r24), .val (.ref b25), .val (.int (1 : Int32))] [.null, .null]))
      obtain ⟨v33, T33, L33, X33, hQ33, st33⟩ := own_callS X32 hx hZ (y := (⟨"com/example/nearside/nearside/support/SplitDecimalArraySetPinLaw", "holds", "(Lcom/example/nearside/nearside/support/SplitDecimal;Lcom/example/nearside/nearside/support/SplitDecimal;)Z"⟩ : MethodName)) hown (hw _ (List.mem_of_getElem? (i := 36) rfl)) (hw _ (List.mem_of_getElem? (i := 37) rfl)) (hw _ (List.mem_of_getElem? (i := 2) rfl)) (hw _ (List.mem_of_getElem? (i := 38) rfl)) (by decide) (W := 0) (rm7_N l Z a0 hw []  T28.heap n0 Z28) (by decide) (by decide) (g := (mkF m 151 #[.val (.int pp), .val (.int pq), .val (.long qc1), .second, .val (.long qc2), .second, .val (.int ps1), .val (.int ps2), .val (.int (Int32.ofNat n)), .val (.int kd1), .val (.int kd2), .val (.int (Int32.ofNat i)), .val (.int (Int32.ofNat j)), .val (.int (Int32.ofNat k)), .val .null, .val (.ref r24), .val (.ref b25), .val (.int (1 : Int32))] [.null, .null])) rfl (by rw [hml]; rfl) (argsL := [.null, .null]) (rest := []) (lenOf pd_0_6 rfl) rfl (by show 2 * 0 + _ ≤ _; exact Nat.le_of_eq rfl) (hb hby at_151) e32 rfl (by decide) (by decide)
      obtain ⟨rfl, Nq33, e33⟩ := hQ33
      have N33 := Fr.app N32 Nq33
      refine own_go st33 ?_
      show OwnFin p e below s _ _ _ (T33.setTop (mkF m 154 #[.val (.int pp), .val (.int pq), .val (.long qc1), .second, .val (.long qc2), .second, .val (.int ps1), .val (.int ps2), .val (.int (Int32.ofNat n)), .val (.int kd1), .val (.int kd2), .val (.int (Int32.ofNat i)), .val (.int (Int32.ofNat j)), .val (.int (Int32.ofNat k)), .val .null, .val (.ref r24), .val (.ref b25), .val (.int (1 : Int32))] [(.int (1 : Int32))]))
      refine own_go (fun t_ k_ => XS.ifNo X33.here hx rfl (hb hby at_154) rfl ((if0 _ _).trans (feq (by decide)).1) k_) ?_
      show OwnFin p e below s _ _ _ (T33.setTop (mkF m 157 #[.val (.int pp), .val (.int pq), .val (.long qc1), .second, .val (.long qc2), .second, .val (.int ps1), .val (.int ps2), .val (.int (Int32.ofNat n)), .val (.int kd1), .val (.int kd2), .val (.int (Int32.ofNat i)), .val (.int (Int32.ofNat j)), .val (.int (Int32.ofNat k)), .val .null, .val (.ref r24), .val (.ref b25), .val (.int (1 : Int32))] []))
      refine own_go (fun t_ k_ => XS.iconst X33.here hx rfl (hb hby at_157) k_) ?_
      show OwnFin p e below s _ _ _ (T33.setTop (mkF m 158 #[.val (.int pp), .val (.int pq), .val (.long qc1), .second, .val (.long qc2), .second, .val (.int ps1), .val (.int ps2), .val (.int (Int32.ofNat n)), .val (.int kd1), .val (.int kd2), .val (.int (Int32.ofNat i)), .val (.int (Int32.ofNat j)), .val (.int (Int32.ofNat k)), .val .null, .val (.ref r24), .val (.ref b25), .val (.int (1 : Int32))] [(.int (1 : Int32))]))
      refine own_go (fun t_ k_ => XS.goto X33.here hx rfl (pc0 := 158) (pc' := 162) rfl (hb hby at_158) (by decide) (by decide) k_) ?_
      show OwnFin p e below s _ _ _ (T33.setTop (mkF m 162 #[.val (.int pp), .val (.int pq), .val (.long qc1), .second, .val (.long qc2), .second, .val (.int ps1), .val (.int ps2), .val (.int (Int32.ofNat n)), .val (.int kd1), .val (.int kd2), .val (.int (Int32.ofNat i)), .val (.int (Int32.ofNat j)), .val (.int (Int32.ofNat k)), .val .null, .val (.ref r24), .val (.ref b25), .val (.int (1 : Int32))] [(.int (1 : Int32))]))
      refine own_go (fun t_ k_ => XS.istore X33.here hx rfl (hb hby at_162) rfl (l' := #[.val (.int pp), .val (.int pq), .val (.long qc1), .second, .val (.long qc2), .second, .val (.int ps1), .val (.int ps2), .val (.int (Int32.ofNat n)), .val (.int kd1), .val (.int kd2), .val (.int (Int32.ofNat i)), .val (.int (Int32.ofNat j)), .val (.int (Int32.ofNat k)), .val .null, .val (.ref r24), .val (.ref b25), .val (.int (1 : Int32))]) rfl k_) ?_
      show OwnFin p e below s _ _ _ (T33.setTop (mkF m 164 #[.val (.int pp), .val (.int pq), .val (.long qc1), .second, .val (.long qc2), .second, .val (.int ps1), .val (.int ps2), .val (.int (Int32.ofNat n)), .val (.int kd1), .val (.int kd2), .val (.int (Int32.ofNat i)), .val (.int (Int32.ofNat j)), .val (.int (Int32.ofNat k)), .val .null, .val (.ref r24), .val (.ref b25), .val (.int (1 : Int32))] []))
      by_cases hki : k = i
      · refine own_go (fun t_ k_ => XS.iload X33.here hx rfl (hb hby at_164) rfl k_) ?_
        show OwnFin p e below s _ _ _ (T33.setTop (mkF m 166 #[.val (.int pp), .val (.int pq), .val (.long qc1), .second, .val (.long qc2), .second, .val (.int ps1), .val (.int ps2), .val (.int (Int32.ofNat n)), .val (.int kd1), .val (.int kd2), .val (.int (Int32.ofNat i)), .val (.int (Int32.ofNat j)), .val (.int (Int32.ofNat k)), .val .null, .val (.ref r24), .val (.ref b25), .val (.int (1 : Int32))] [(.int (Int32.ofNat k))]))
        refine own_go (fun t_ k_ => XS.iload X33.here hx rfl (hb hby at_166) rfl k_) ?_
        show OwnFin p e below s _ _ _ (T33.setTop (mkF m 168 #[.val (.int pp), .val (.int pq), .val (.long qc1), .second, .val (.long qc2), .second, .val (.int ps1), .val (.int ps2), .val (.int (Int32.ofNat n)), .val (.int kd1), .val (.int kd2), .val (.int (Int32.ofNat i)), .val (.int (Int32.ofNat j)), .val (.int (Int32.ofNat k)), .val .null, .val (.ref r24), .val (.ref b25), .val (.int (1 : Int32))] [(.int (Int32.ofNat i)), (.int (Int32.ofNat k))]))
        have hc168 : (Int32.ofNat k) = (Int32.ofNat i) := by rw [hki]
        refine own_go (fun t_ k_ => XS.icmpYes X33.here hx rfl (pc0 := 168) (pc' := 200) rfl (hb hby at_168) rfl (teq hc168).1 (by decide) (by decide) k_) ?_
        show OwnFin p e below s _ _ _ (T33.setTop (mkF m 200 #[.val (.int pp), .val (.int pq), .val (.long qc1), .second, .val (.long qc2), .second, .val (.int ps1), .val (.int ps2), .val (.int (Int32.ofNat n)), .val (.int kd1), .val (.int kd2), .val (.int (Int32.ofNat i)), .val (.int (Int32.ofNat j)), .val (.int (Int32.ofNat k)), .val .null, .val (.ref r24), .val (.ref b25), .val (.int (1 : Int32))] []))
        refine own_go (fun t_ k_ => XS.iload X33.here hx rfl (hb hby at_200) rfl k_) ?_
        show OwnFin p e below s _ _ _ (T33.setTop (mkF m 202 #[.val (.int pp), .val (.int pq), .val (.long qc1), .second, .val (.long qc2), .second, .val (.int ps1), .val (.int ps2), .val (.int (Int32.ofNat n)), .val (.int kd1), .val (.int kd2), .val (.int (Int32.ofNat i)), .val (.int (Int32.ofNat j)), .val (.int (Int32.ofNat k)), .val .null, .val (.ref r24), .val (.ref b25), .val (.int (1 : Int32))] [(.int (1 : Int32))]))
        refine own_ret X33 (v := some (.int (1 : Int32))) hlk (fun hh => by rw [hret] at hh; cases hh) (fun fs hr => retN X33 hx (t := .boolean) hret (by simp) (hb hby at_202) hr) (by decide) (by decide) ?_
        exact ⟨rfl, N33⟩
      · refine own_go (fun t_ k_ => XS.iload X33.here hx rfl (hb hby at_164) rfl k_) ?_
        show OwnFin p e below s _ _ _ (T33.setTop (mkF m 166 #[.val (.int pp), .val (.int pq), .val (.long qc1), .second, .val (.long qc2), .second, .val (.int ps1), .val (.int ps2), .val (.int (Int32.ofNat n)), .val (.int kd1), .val (.int kd2), .val (.int (Int32.ofNat i)), .val (.int (Int32.ofNat j)), .val (.int (Int32.ofNat k)), .val .null, .val (.ref r24), .val (.ref b25), .val (.int (1 : Int32))] [(.int (Int32.ofNat k))]))
        refine own_go (fun t_ k_ => XS.iload X33.here hx rfl (hb hby at_166) rfl k_) ?_
        show OwnFin p e below s _ _ _ (T33.setTop (mkF m 168 #[.val (.int pp), .val (.int pq), .val (.long qc1), .second, .val (.long qc2), .second, .val (.int ps1), .val (.int ps2), .val (.int (Int32.ofNat n)), .val (.int kd1), .val (.int kd2), .val (.int (Int32.ofNat i)), .val (.int (Int32.ofNat j)), .val (.int (Int32.ofNat k)), .val .null, .val (.ref r24), .val (.ref b25), .val (.int (1 : Int32))] [(.int (Int32.ofNat i)), (.int (Int32.ofNat k))]))
        have hc168 : ¬ ((Int32.ofNat k) = (Int32.ofNat i)) := fun q => hki (own_ofNat_inj (by omega) (by omega) q)
        refine own_go (fun t_ k_ => XS.icmpNo X33.here hx rfl (hb hby at_168) rfl (feq hc168).1 k_) ?_
        show OwnFin p e below s _ _ _ (T33.setTop (mkF m 171 #[.val (.int pp), .val (.int pq), .val (.long qc1), .second, .val (.long qc2), .second, .val (.int ps1), .val (.int ps2), .val (.int (Int32.ofNat n)), .val (.int kd1), .val (.int kd2), .val (.int (Int32.ofNat i)), .val (.int (Int32.ofNat j)), .val (.int (Int32.ofNat k)), .val .null, .val (.ref r24), .val (.ref b25), .val (.int (1 : Int32))] []))
        by_cases hkj : k = j
        · refine own_go (fun t_ k_ => XS.iload X33.here hx rfl (hb hby at_171) rfl k_) ?_
          show OwnFin p e below s _ _ _ (T33.setTop (mkF m 173 #[.val (.int pp), .val (.int pq), .val (.long qc1), .second, .val (.long qc2), .second, .val (.int ps1), .val (.int ps2), .val (.int (Int32.ofNat n)), .val (.int kd1), .val (.int kd2), .val (.int (Int32.ofNat i)), .val (.int (Int32.ofNat j)), .val (.int (Int32.ofNat k)), .val .null, .val (.ref r24), .val (.ref b25), .val (.int (1 : Int32))] [(.int (Int32.ofNat k))]))
          refine own_go (fun t_ k_ => XS.iload X33.here hx rfl (hb hby at_173) rfl k_) ?_
          show OwnFin p e below s _ _ _ (T33.setTop (mkF m 175 #[.val (.int pp), .val (.int pq), .val (.long qc1), .second, .val (.long qc2), .second, .val (.int ps1), .val (.int ps2), .val (.int (Int32.ofNat n)), .val (.int kd1), .val (.int kd2), .val (.int (Int32.ofNat i)), .val (.int (Int32.ofNat j)), .val (.int (Int32.ofNat k)), .val .null, .val (.ref r24), .val (.ref b25), .val (.int (1 : Int32))] [(.int (Int32.ofNat j)), (.int (Int32.ofNat k))]))
          have hc175 : (Int32.ofNat k) = (Int32.ofNat j) := by rw [hkj]
          refine own_go (fun t_ k_ => XS.icmpYes X33.here hx rfl (pc0 := 175) (pc' := 200) rfl (hb hby at_175) rfl (teq hc175).1 (by decide) (by decide) k_) ?_
          show OwnFin p e below s _ _ _ (T33.setTop (mkF m 200 #[.val (.int pp), .val (.int pq), .val (.long qc1), .second, .val (.long qc2), .second, .val (.int ps1), .val (.int ps2), .val (.int (Int32.ofNat n)), .val (.int kd1), .val (.int kd2), .val (.int (Int32.ofNat i)), .val (.int (Int32.ofNat j)), .val (.int (Int32.ofNat k)), .val .null, .val (.ref r24), .val (.ref b25), .val (.int (1 : Int32))] []))
          refine own_go (fun t_ k_ => XS.iload X33.here hx rfl (hb hby at_200) rfl k_) ?_
          show OwnFin p e below s _ _ _ (T33.setTop (mkF m 202 #[.val (.int pp), .val (.int pq), .val (.long qc1), .second, .val (.long qc2), .second, .val (.int ps1), .val (.int ps2), .val (.int (Int32.ofNat n)), .val (.int kd1), .val (.int kd2), .val (.int (Int32.ofNat i)), .val (.int (Int32.ofNat j)), .val (.int (Int32.ofNat k)), .val .null, .val (.ref r24), .val (.ref b25), .val (.int (1 : Int32))] [(.int (1 : Int32))]))
          refine own_ret X33 (v := some (.int (1 : Int32))) hlk (fun hh => by rw [hret] at hh; cases hh) (fun fs hr => retN X33 hx (t := .boolean) hret (by simp) (hb hby at_202) hr) (by decide) (by decide) ?_
          exact ⟨rfl, N33⟩
        · refine own_go (fun t_ k_ => XS.iload X33.here hx rfl (hb hby at_171) rfl k_) ?_
          show OwnFin p e below s _ _ _ (T33.setTop (mkF m 173 #[.val (.int pp), .val (.int pq), .val (.long qc1), .second, .val (.long qc2), .second, .val (.int ps1), .val (.int ps2), .val (.int (Int32.ofNat n)), .val (.int kd1), .val (.int kd2), .val (.int (Int32.ofNat i)), .val (.int (Int32.ofNat j)), .val (.int (Int32.ofNat k)), .val .null, .val (.ref r24), .val (.ref b25), .val (.int (1 : Int32))] [(.int (Int32.ofNat k))]))
          refine own_go (fun t_ k_ => XS.iload X33.here hx rfl (hb hby at_173) rfl k_) ?_
          show OwnFin p e below s _ _ _ (T33.setTop (mkF m 175 #[.val (.int pp), .val (.int pq), .val (.long qc1), .second, .val (.long qc2), .second, .val (.int ps1), .val (.int ps2), .val (.int (Int32.ofNat n)), .val (.int kd1), .val (.int kd2), .val (.int (Int32.ofNat i)), .val (.int (Int32.ofNat j)), .val (.int (Int32.ofNat k)), .val .null, .val (.ref r24), .val (.ref b25), .val (.int (1 : Int32))] [(.int (Int32.ofNat j)), (.int (Int32.ofNat k))]))
          have hc175 : ¬ ((Int32.ofNat k) = (Int32.ofNat j)) := fun q => hkj (own_ofNat_inj (by omega) (by omega) q)
          refine own_go (fun t_ k_ => XS.icmpNo X33.here hx rfl (hb hby at_175) rfl (feq hc175).1 k_) ?_
          show OwnFin p e below s _ _ _ (T33.setTop (mkF m 178 #[.val (.int pp), .val (.int pq), .val (.long qc1), .second, .val (.long qc2), .second, .val (.int ps1), .val (.int ps2), .val (.int (Int32.ofNat n)), .val (.int kd1), .val (.int kd2), .val (.int (Int32.ofNat i)), .val (.int (Int32.ofNat j)), .val (.int (Int32.ofNat k)), .val .null, .val (.ref r24), .val (.ref b25), .val (.int (1 : Int32))] []))
          refine own_go (fun t_ k_ => XS.iload X33.here hx rfl (hb hby at_178) rfl k_) ?_
          show OwnFin p e below s _ _ _ (T33.setTop (mkF m 180 #[.val (.int pp), .val (.int pq), .val (.long qc1), .second, .val (.long qc2), .second, .val (.int ps1), .val (.int ps2), .val (.int (Int32.ofNat n)), .val (.int kd1), .val (.int kd2), .val (.int (Int32.ofNat i)), .val (.int (Int32.ofNat j)), .val (.int (Int32.ofNat k)), .val .null, .val (.ref r24), .val (.ref b25), .val (.int (1 : Int32))] [(.int (1 : Int32))]))
          refine own_go (fun t_ k_ => XS.ifNo X33.here hx rfl (hb hby at_180) rfl ((if0 _ _).trans (feq (by decide)).1) k_) ?_
          show OwnFin p e below s _ _ _ (T33.setTop (mkF m 183 #[.val (.int pp), .val (.int pq), .val (.long qc1), .second, .val (.long qc2), .second, .val (.int ps1), .val (.int ps2), .val (.int (Int32.ofNat n)), .val (.int kd1), .val (.int kd2), .val (.int (Int32.ofNat i)), .val (.int (Int32.ofNat j)), .val (.int (Int32.ofNat k)), .val .null, .val (.ref r24), .val (.ref b25), .val (.int (1 : Int32))] []))
          refine own_go (fun t_ k_ => XS.aload X33.here hx rfl (hb hby at_183) rfl rfl k_) ?_
          show OwnFin p e below s _ _ _ (T33.setTop (mkF m 185 #[.val (.int pp), .val (.int pq), .val (.long qc1), .second, .val (.long qc2), .second, .val (.int ps1), .val (.int ps2), .val (.int (Int32.ofNat n)), .val (.int kd1), .val (.int kd2), .val (.int (Int32.ofNat i)), .val (.int (Int32.ofNat j)), .val (.int (Int32.ofNat k)), .val .null, .val (.ref r24), .val (.ref b25), .val (.int (1 : Int32))] [(.ref b25)]))
          refine own_go (fun t_ k_ => XS.iload X33.here hx rfl (hb hby at_185) rfl k_) ?_
          show OwnFin p e below s _ _ _ (T33.setTop (mkF m 187 #[.val (.int pp), .val (.int pq), .val (.long qc1), .second, .val (.long qc2), .second, .val (.int ps1), .val (.int ps2), .val (.int (Int32.ofNat n)), .val (.int kd1), .val (.int kd2), .val (.int (Int32.ofNat i)), .val (.int (Int32.ofNat j)), .val (.int (Int32.ofNat k)), .val .null, .val (.ref r24), .val (.ref b25), .val (.int (1 : Int32))] [(.int (Int32.ofNat k)), (.ref b25)]))
          obtain ⟨v34, T34, L34, X34, hQ34, st34⟩ := own_callV X33 hx hZ (y := (⟨"com/example/nearside/nearside/support/SplitDecimalArray", "get", "(I)Lcom/example/nearside/nearside/support/SplitDecimal;"⟩ : MethodName)) (z := (⟨"com/example/nearside/nearside/support/SplitDecimalArray", "get", "(I)Lcom/example/nearside/nearside/support/SplitDecimal;"⟩ : MethodName)) hown (hw _ (List.mem_of_getElem? (i := 31) rfl)) (hw _ (List.mem_of_getElem? (i := 32) rfl)) (notFace_of_selects (args := #[]) (mvT hZ (hw _ (List.mem_of_getElem? (i := 34) rfl)))) (hw _ (List.mem_of_getElem? (i := 34) rfl)) (hw _ (List.mem_of_getElem? (i := 33) rfl)) (hw _ (List.mem_of_getElem? (i := 6) rfl)) (hw _ (List.mem_of_getElem? (i := 35) rfl)) (by decide) (W := 0) (rm6_V l Z a0 hw [] b25 (Int32.ofNat k) ca wa n k (fun z => if z = j then (-9223372036854775808 : Int64) else (fun z => if z = i then (-9223372036854775808 : Int64) else (fun _ => (-9223372036854775808 : Int64)) z) z) (fun z => if z = j then Value.ref r24 else Value.null) T28.heap n0 Z28 rfl hkn Fc28 Fw28 Vc28 (by (try dsimp only); rw [if_neg hkj, if_neg hki]) Vw28 (by (try dsimp only); rw [if_neg hkj])) (by decide) (by decide) E_ao_28 (g := (mkF m 187 #[.val (.int pp), .val (.int pq), .val (.long qc1), .second, .val (.long qc2), .second, .val (.int ps1), .val (.int ps2), .val (.int (Int32.ofNat n)), .val (.int kd1), .val (.int kd2), .val (.int (Int32.ofNat i)), .val (.int (Int32.ofNat j)), .val (.int (Int32.ofNat k)), .val .null, .val (.ref r24), .val (.ref b25), .val (.int (1 : Int32))] [(.int (Int32.ofNat k)), (.ref b25)])) rfl (by rw [hml]; rfl) (argsL := [(.int (Int32.ofNat k))]) (rest := []) (lenOf pd_0_5 rfl) rfl (by show 2 * 0 + _ ≤ _; exact Nat.le_of_eq rfl) (hb hby at_187) e33 rfl (by decide) (by decide)
          obtain ⟨rfl, Nq34, e34⟩ := hQ34
          have N34 := Fr.app N33 Nq34
          refine own_go st34 ?_
          show OwnFin p e below s _ _ _ (T34.setTop (mkF m 190 #[.val (.int pp), .val (.int pq), .val (.long qc1), .second, .val (.long qc2), .second, .val (.int ps1), .val (.int ps2), .val (.int (Int32.ofNat n)), .val (.int kd1), .val (.int kd2), .val (.int (Int32.ofNat i)), .val (.int (Int32.ofNat j)), .val (.int (Int32.ofNat k)), .val .null, .val (.ref r24), .val (.ref b25), .val (.int (1 : Int32))] [.null]))
          refine own_go (fun t_ k_ => XS.ifnonnullNo X34.here hx rfl (hb hby at_190) rfl k_) ?_
          show OwnFin p e below s _ _ _ (T34.setTop (mkF m 193 #[.val (.int pp), .val (.int pq), .val (.long qc1), .second, .val (.long qc2), .second, .val (.int ps1), .val (.int ps2), .val (.int (Int32.ofNat n)), .val (.int kd1), .val (.int kd2), .val (.int (Int32.ofNat i)), .val (.int (Int32.ofNat j)), .val (.int (Int32.ofNat k)), .val .null, .val (.ref r24), .val (.ref b25), .val (.int (1 : Int32))] []))
          refine own_go (fun t_ k_ => XS.iconst X34.here hx rfl (hb hby at_193) k_) ?_
          show OwnFin p e below s _ _ _ (T34.setTop (mkF m 194 #[.val (.int pp), .val (.int pq), .val (.long qc1), .second, .val (.long qc2), .second, .val (.int ps1), .val (.int ps2), .val (.int (Int32.ofNat n)), .val (.int kd1), .val (.int kd2), .val (.int (Int32.ofNat i)), .val (.int (Int32.ofNat j)), .val (.int (Int32.ofNat k)), .val .null, .val (.ref r24), .val (.ref b25), .val (.int (1 : Int32))] [(.int (1 : Int32))]))
          refine own_go (fun t_ k_ => XS.goto X34.here hx rfl (pc0 := 194) (pc' := 198) rfl (hb hby at_194) (by decide) (by decide) k_) ?_
          show OwnFin p e below s _ _ _ (T34.setTop (mkF m 198 #[.val (.int pp), .val (.int pq), .val (.long qc1), .second, .val (.long qc2), .second, .val (.int ps1), .val (.int ps2), .val (.int (Int32.ofNat n)), .val (.int kd1), .val (.int kd2), .val (.int (Int32.ofNat i)), .val (.int (Int32.ofNat j)), .val (.int (Int32.ofNat k)), .val .null, .val (.ref r24), .val (.ref b25), .val (.int (1 : Int32))] [(.int (1 : Int32))]))
          refine own_go (fun t_ k_ => XS.istore X34.here hx rfl (hb hby at_198) rfl (l' := #[.val (.int pp), .val (.int pq), .val (.long qc1), .second, .val (.long qc2), .second, .val (.int ps1), .val (.int ps2), .val (.int (Int32.ofNat n)), .val (.int kd1), .val (.int kd2), .val (.int (Int32.ofNat i)), .val (.int (Int32.ofNat j)), .val (.int (Int32.ofNat k)), .val .null, .val (.ref r24), .val (.ref b25), .val (.int (1 : Int32))]) rfl k_) ?_
          show OwnFin p e below s _ _ _ (T34.setTop (mkF m 200 #[.val (.int pp), .val (.int pq), .val (.long qc1), .second, .val (.long qc2), .second, .val (.int ps1), .val (.int ps2), .val (.int (Int32.ofNat n)), .val (.int kd1), .val (.int kd2), .val (.int (Int32.ofNat i)), .val (.int (Int32.ofNat j)), .val (.int (Int32.ofNat k)), .val .null, .val (.ref r24), .val (.ref b25), .val (.int (1 : Int32))] []))
          refine own_go (fun t_ k_ => XS.iload X34.here hx rfl (hb hby at_200) rfl k_) ?_
          show OwnFin p e below s _ _ _ (T34.setTop (mkF m 202 #[.val (.int pp), .val (.int pq), .val (.long qc1), .second, .val (.long qc2), .second, .val (.int ps1), .val (.int ps2), .val (.int (Int32.ofNat n)), .val (.int kd1), .val (.int kd2), .val (.int (Int32.ofNat i)), .val (.int (Int32.ofNat j)), .val (.int (Int32.ofNat k)), .val .null, .val (.ref r24), .val (.ref b25), .val (.int (1 : Int32))] [(.int (1 : Int32))]))
          refine own_ret X34 (v := some (.int (1 : Int32))) hlk (fun hh => by rw [hret] at hh; cases hh) (fun fs hr => retN X34 hx (t := .boolean) hret (by simp) (hb hby at_202) hr) (by decide) (by decide) ?_
          exact ⟨rfl, N34⟩
  by_cases ho1 : kd1 = (1 : Int32)
  · refine own_go (fun t_ k_ => XS.iload X0.here hx rfl (hb hby at_66) rfl k_) ?_
    show OwnFin p e below s _ _ _ (s₁.setTop (mkF m 68 #[.val (.int pp), .val (.int pq), .val (.long qc1), .second, .val (.long qc2), .second, .val (.int ps1), .val (.int ps2), .val (.int (Int32.ofNat n)), .val (.int kd1), .val (.int kd2), .val (.int (Int32.ofNat i)), .val (.int (Int32.ofNat j)), .val (.int (Int32.ofNat k)), .unset, .unset, .unset, .unset] [(.int kd1)]))
    refine own_go (fun t_ k_ => XS.lloadN X0.here hx rfl (hb hby at_68) rfl k_) ?_
    show OwnFin p e below s _ _ _ (s₁.setTop (mkF m 69 #[.val (.int pp), .val (.int pq), .val (.long qc1), .second, .val (.long qc2), .second, .val (.int ps1), .val (.int ps2), .val (.int (Int32.ofNat n)), .val (.int kd1), .val (.int kd2), .val (.int (Int32.ofNat i)), .val (.int (Int32.ofNat j)), .val (.int (Int32.ofNat k)), .unset, .unset, .unset, .unset] [(.long qc1), (.int kd1)]))
    refine own_go (fun t_ k_ => XS.iload X0.here hx rfl (hb hby at_69) rfl k_) ?_
    show OwnFin p e below s _ _ _ (s₁.setTop (mkF m 71 #[.val (.int pp), .val (.int pq), .val (.long qc1), .second, .val (.long qc2), .second, .val (.int ps1), .val (.int ps2), .val (.int (Int32.ofNat n)), .val (.int kd1), .val (.int kd2), .val (.int (Int32.ofNat i)), .val (.int (Int32.ofNat j)), .val (.int (Int32.ofNat k)), .unset, .unset, .unset, .unset] [(.int ps1), (.long qc1), (.int kd1)]))
    obtain ⟨v35, T35, L35, X35, hQ35, st35⟩ := own_callS X0 hx hZ (y := (⟨"com/example/nearside/nearside/support/SplitDecimalArraySetPinLaw", "make", "(IJI)Lcom/example/nearside/nearside/support/SplitDecimal;"⟩ : MethodName)) hown (hw _ (List.mem_of_getElem? (i := 0) rfl)) (hw _ (List.mem_of_getElem? (i := 1) rfl)) (hw _ (List.mem_of_getElem? (i := 2) rfl)) (hw _ (List.mem_of_getElem? (i := 3) rfl)) (by decide) (W := 0) (rm1_1 l Z a0 hw [] kd1 qc1 ps1 h0 n0 Z0 ho1) (by decide) (by decide) (g := (mkF m 71 #[.val (.int pp), .val (.int pq), .val (.long qc1), .second, .val (.long qc2), .second, .val (.int ps1), .val (.int ps2), .val (.int (Int32.ofNat n)), .val (.int kd1), .val (.int kd2), .val (.int (Int32.ofNat i)), .val (.int (Int32.ofNat j)), .val (.int (Int32.ofNat k)), .unset, .unset, .unset, .unset] [(.int ps1), (.long qc1), (.int kd1)])) rfl (by rw [hml]; rfl) (argsL := [(.int kd1), (.long qc1), (.int ps1)]) (rest := []) (lenOf pd_0_0 rfl) rfl (by show 2 * 0 + _ ≤ _; exact Nat.le_of_eq rfl) (hb hby at_71) e0 rfl (by decide) (by decide)
    obtain ⟨r35, rfl, Nq35, Kq35, sq35, Eq35, Fq35_0, Fq35_1⟩ := hQ35
    have N35 := Fr.app N0 Nq35
    have g_r35 : n0 ≤ r35 := Nat.le_trans Z0 sq35
    have Z35 : n0 ≤ T35.heap.size := Nat.le_trans Z0 Kq35.1
    refine own_go st35 ?_
    show OwnFin p e below s _ _ _ (T35.setTop (mkF m 74 #[.val (.int pp), .val (.int pq), .val (.long qc1), .second, .val (.long qc2), .second, .val (.int ps1), .val (.int ps2), .val (.int (Int32.ofNat n)), .val (.int kd1), .val (.int kd2), .val (.int (Int32.ofNat i)), .val (.int (Int32.ofNat j)), .val (.int (Int32.ofNat k)), .unset, .unset, .unset, .unset] [(.ref r35)]))
    refine own_go (fun t_ k_ => XS.astore X35.here hx rfl (hb hby at_74) rfl rfl (l' := #[.val (.int pp), .val (.int pq), .val (.long qc1), .second, .val (.long qc2), .second, .val (.int ps1), .val (.int ps2), .val (.int (Int32.ofNat n)), .val (.int kd1), .val (.int kd2), .val (.int (Int32.ofNat i)), .val (.int (Int32.ofNat j)), .val (.int (Int32.ofNat k)), .val (.ref r35), .unset, .unset, .unset]) rfl k_) ?_
    show OwnFin p e below s _ _ _ (T35.setTop (mkF m 76 #[.val (.int pp), .val (.int pq), .val (.long qc1), .second, .val (.long qc2), .second, .val (.int ps1), .val (.int ps2), .val (.int (Int32.ofNat n)), .val (.int kd1), .val (.int kd2), .val (.int (Int32.ofNat i)), .val (.int (Int32.ofNat j)), .val (.int (Int32.ofNat k)), .val (.ref r35), .unset, .unset, .unset] []))
    by_cases hz2 : kd2 = (0 : Int32)
    · refine own_go (fun t_ k_ => XS.iload X35.here hx rfl (hb hby at_76) rfl k_) ?_
      show OwnFin p e below s _ _ _ (T35.setTop (mkF m 78 #[.val (.int pp), .val (.int pq), .val (.long qc1), .second, .val (.long qc2), .second, .val (.int ps1), .val (.int ps2), .val (.int (Int32.ofNat n)), .val (.int kd1), .val (.int kd2), .val (.int (Int32.ofNat i)), .val (.int (Int32.ofNat j)), .val (.int (Int32.ofNat k)), .val (.ref r35), .unset, .unset, .unset] [(.int kd2)]))
      refine own_go (fun t_ k_ => XS.lload X35.here hx rfl (hb hby at_78) rfl k_) ?_
      show OwnFin p e below s _ _ _ (T35.setTop (mkF m 80 #[.val (.int pp), .val (.int pq), .val (.long qc1), .second, .val (.long qc2), .second, .val (.int ps1), .val (.int ps2), .val (.int (Int32.ofNat n)), .val (.int kd1), .val (.int kd2), .val (.int (Int32.ofNat i)), .val (.int (Int32.ofNat j)), .val (.int (Int32.ofNat k)), .val (.ref r35), .unset, .unset, .unset] [(.long qc2), (.int kd2)]))
      refine own_go (fun t_ k_ => XS.iload X35.here hx rfl (hb hby at_80) rfl k_) ?_
      show OwnFin p e below s _ _ _ (T35.setTop (mkF m 82 #[.val (.int pp), .val (.int pq), .val (.long qc1), .second, .val (.long qc2), .second, .val (.int ps1), .val (.int ps2), .val (.int (Int32.ofNat n)), .val (.int kd1), .val (.int kd2), .val (.int (Int32.ofNat i)), .val (.int (Int32.ofNat j)), .val (.int (Int32.ofNat k)), .val (.ref r35), .unset, .unset, .unset] [(.int ps2), (.long qc2), (.int kd2)]))
      obtain ⟨v36, T36, L36, X36, hQ36, st36⟩ := own_callS X35 hx hZ (y := (⟨"com/example/nearside/nearside/support/SplitDecimalArraySetPinLaw", "make", "(IJI)Lcom/example/nearside/nearside/support/SplitDecimal;"⟩ : MethodName)) hown (hw _ (List.mem_of_getElem? (i := 0) rfl)) (hw _ (List.mem_of_getElem? (i := 1) rfl)) (hw _ (List.mem_of_getElem? (i := 2) rfl)) (hw _ (List.mem_of_getElem? (i := 3) rfl)) (by decide) (W := 0) (rm1_0 l Z a0 hw [] kd2 qc2 ps2 T35.heap n0 Z35 hz2) (by decide) (by decide) (g := (mkF m 82 #[.val (.int pp), .val (.int pq), .val (.long qc1), .second, .val (.long qc2), .second, .val (.int ps1), .val (.int ps2), .val (.int (Int32.ofNat n)), .val (.int kd1), .val (.int kd2), .val (.int (Int32.ofNat i)), .val (.int (Int32.ofNat j)), .val (.int (Int32.ofNat k)), .val (.ref r35), .unset, .unset, .unset] [(.int ps2), (.long qc2), (.int kd2)])) rfl (by rw [hml]; rfl) (argsL := [(.int kd2), (.long qc2), (.int ps2)]) (rest := []) (lenOf pd_0_0 rfl) rfl (by show 2 * 0 + _ ≤ _; exact Nat.le_of_eq rfl) (hb hby at_82) rfl rfl (by decide) (by decide)
      obtain ⟨rfl, Nq36, e36⟩ := hQ36
      have N36 := Fr.app N35 Nq36
      refine own_go st36 ?_
      show OwnFin p e below s _ _ _ (T36.setTop (mkF m 85 #[.val (.int pp), .val (.int pq), .val (.long qc1), .second, .val (.long qc2), .second, .val (.int ps1), .val (.int ps2), .val (.int (Int32.ofNat n)), .val (.int kd1), .val (.int kd2), .val (.int (Int32.ofNat i)), .val (.int (Int32.ofNat j)), .val (.int (Int32.ofNat k)), .val (.ref r35), .unset, .unset, .unset] [.null]))
      refine own_go (fun t_ k_ => XS.astore X36.here hx rfl (hb hby at_85) rfl rfl (l' := #[.val (.int pp), .val (.int pq), .val (.long qc1), .second, .val (.long qc2), .second, .val (.int ps1), .val (.int ps2), .val (.int (Int32.ofNat n)), .val (.int kd1), .val (.int kd2), .val (.int (Int32.ofNat i)), .val (.int (Int32.ofNat j)), .val (.int (Int32.ofNat k)), .val (.ref r35), .val .null, .unset, .unset]) rfl k_) ?_
      show OwnFin p e below s _ _ _ (T36.setTop (mkF m 87 #[.val (.int pp), .val (.int pq), .val (.long qc1), .second, .val (.long qc2), .second, .val (.int ps1), .val (.int ps2), .val (.int (Int32.ofNat n)), .val (.int kd1), .val (.int kd2), .val (.int (Int32.ofNat i)), .val (.int (Int32.ofNat j)), .val (.int (Int32.ofNat k)), .val (.ref r35), .val .null, .unset, .unset] []))
      obtain ⟨T37, h37, X37, e37, E37, A37, D37, -, st37⟩ := newO X36 hx hZ hown (hw _ (List.mem_of_getElem? (i := 4) rfl)) (hw _ (List.mem_of_getElem? (i := 5) rfl)) (hw _ (List.mem_of_getElem? (i := 6) rfl)) e36 (g := (mkF m 87 #[.val (.int pp), .val (.int pq), .val (.long qc1), .second, .val (.long qc2), .second, .val (.int ps1), .val (.int ps2), .val (.int (Int32.ofNat n)), .val (.int kd1), .val (.int kd2), .val (.int (Int32.ofNat i)), .val (.int (Int32.ofNat j)), .val (.int (Int32.ofNat k)), .val (.ref r35), .val .null, .unset, .unset] [])) rfl (hb hby at_87) (by decide) (by decide)
      obtain ⟨b37, g37⟩ : ∃ z, z = T35.heap.size := ⟨_, rfl⟩
      rw [← g37] at A37 D37 st37
      have g_b37 : n0 ≤ b37 := Nat.le_trans Z35 (Nat.le_of_eq g37.symm)
      have ne_r35_b37 : r35 ≠ b37 := Nat.ne_of_lt (Nat.lt_of_lt_of_le Eq35.lt (Nat.le_of_eq g37.symm))
      have E_r35_37 := Eq35.ext E37
      have F_compact_r35_37 := Fq35_0.ext E37
      have F_scale_r35_37 := Fq35_1.ext E37
      have Z37 : n0 ≤ h37.size := Nat.le_trans Z35 E37.1
      have E_b37 := A37
      have F_compact_b37 : Fld Z h37 b37 "com/example/nearside/nearside/support/SplitDecimalArray" "compact" "[J" .null := D37 (Or.inr (hw _ (List.mem_of_getElem? (i := 15) rfl))) (ty := (.array .long)) (by decide)
      have F_scale_b37 : Fld Z h37 b37 "com/example/nearside/nearside/support/SplitDecimalArray" "scale" "[I" .null := D37 (Or.inr (hw _ (List.mem_of_getElem? (i := 18) rfl))) (ty := (.array .int)) (by decide)
      have F_whole_b37 : Fld Z h37 b37 "com/example/nearside/nearside/support/SplitDecimalArray" "whole" "[Lcom/example/nearside/nearside/support/SplitDecimal;" .null := D37 (Or.inl (hw _ (List.mem_of_getElem? (i := 30) rfl))) (ty := (.array (.object "com/example/nearside/nearside/support/SplitDecimal"))) (by decide)
      refine own_go st37 ?_
      show OwnFin p e below s _ _ _ (T37.setTop (mkF m 90 #[.val (.int pp), .val (.int pq), .val (.long qc1), .second, .val (.long qc2), .second, .val (.int ps1), .val (.int ps2), .val (.int (Int32.ofNat n)), .val (.int kd1), .val (.int kd2), .val (.int (Int32.ofNat i)), .val (.int (Int32.ofNat j)), .val (.int (Int32.ofNat k)), .val (.ref r35), .val .null, .unset, .unset] [(.ref b37)]))
      refine own_go (fun t_ k_ => XS.dup X37.here hx rfl (hb hby at_90) rfl rfl k_) ?_
      show OwnFin p e below s _ _ _ (T37.setTop (mkF m 91 #[.val (.int pp), .val (.int pq), .val (.long qc1), .second, .val (.long qc2), .second, .val (.int ps1), .val (.int ps2), .val (.int (Int32.ofNat n)), .val (.int kd1), .val (.int kd2), .val (.int (Int32.ofNat i)), .val (.int (Int32.ofNat j)), .val (.int (Int32.ofNat k)), .val (.ref r35), .val .null, .unset, .unset] [(.ref b37), (.ref b37)]))
      refine own_go (fun t_ k_ => XS.iload X37.here hx rfl (hb hby at_91) rfl k_) ?_
      show OwnFin p e below s _ _ _ (T37.setTop (mkF m 93 #[.val (.int pp), .val (.int pq), .val (.long qc1), .second, .val (.long qc2), .second, .val (.int ps1), .val (.int ps2), .val (.int (Int32.ofNat n)), .val (.int kd1), .val (.int kd2), .val (.int (Int32.ofNat i)), .val (.int (Int32.ofNat j)), .val (.int (Int32.ofNat k)), .val (.ref r35), .val .null, .unset, .unset] [(.int (Int32.ofNat n)), (.ref b37), (.ref b37)]))
      obtain ⟨v38, T38, L38, X38, hQ38, st38⟩ := own_callI X37 hx hZ (y := (⟨"com/example/nearside/nearside/support/SplitDecimalArray", "<init>", "(I)V"⟩ : MethodName)) rfl hown (hw _ (List.mem_of_getElem? (i := 7) rfl)) (hw _ (List.mem_of_getElem? (i := 8) rfl)) (hw _ (List.mem_of_getElem? (i := 6) rfl)) (hw _ (List.mem_of_getElem? (i := 9) rfl)) (by decide) (W := 1) (rm2 l Z a0 hw [] b37 (Int32.ofNat n) n h37 n0 Z37 rfl hn4 E_b37 g_b37 F_compact_b37 F_scale_b37 F_whole_b37) (by decide) (by decide) (g := (mkF m 93 #[.val (.int pp), .val (.int pq), .val (.long qc1), .second, .val (.long qc2), .second, .val (.int ps1), .val (.int ps2), .val (.int (Int32.ofNat n)), .val (.int kd1), .val (.int kd2), .val (.int (Int32.ofNat i)), .val (.int (Int32.ofNat j)), .val (.int (Int32.ofNat k)), .val (.ref r35), .val .null, .unset, .unset] [(.int (Int32.ofNat n)), (.ref b37), (.ref b37)])) rfl (by rw [hml]; rfl) (a := b37) (argsL := [(.int (Int32.ofNat n))]) (rest := [(.ref b37)]) (lenOf pd_0_1 rfl) rfl (by show 2 * 0 + _ ≤ _; exact Nat.le_of_eq rfl) (hb hby at_93) e37 rfl (by decide) (by decide)
      obtain ⟨rfl, Nq38, Kq38, E_ao, ca, sc, sz1, sz2, ne_ca_sc, F_compact, F_scale, F_whole, V_ca, V_sc⟩ := hQ38
      have N38 := Fr.app N36 Nq38
      have g_ca : n0 ≤ ca := Nat.le_trans Z37 sz1
      have g_sc : n0 ≤ sc := Nat.le_trans Z37 sz2
      have ne_r35_ca : r35 ≠ ca := Nat.ne_of_lt (Nat.lt_of_lt_of_le E_r35_37.lt sz1)
      have ne_r35_sc : r35 ≠ sc := Nat.ne_of_lt (Nat.lt_of_lt_of_le E_r35_37.lt sz2)
      have ne_b37_ca : b37 ≠ ca := Nat.ne_of_lt (Nat.lt_of_lt_of_le E_b37.lt sz1)
      have ne_b37_sc : b37 ≠ sc := Nat.ne_of_lt (Nat.lt_of_lt_of_le E_b37.lt sz2)
      have E_r35_38 := E_r35_37.keep Kq38
      have F_compact_r35_38 := F_compact_r35_37.keep Kq38 (ninS ne_r35_b37 nin0)
      have F_scale_r35_38 := F_scale_r35_37.keep Kq38 (ninS ne_r35_b37 nin0)
      have E_b37_38 := E_b37.keep Kq38
      have Z38 : n0 ≤ T38.heap.size := Nat.le_trans Z37 Kq38.1
      refine own_go st38 ?_
      show OwnFin p e below s _ _ _ (T38.setTop (mkF m 96 #[.val (.int pp), .val (.int pq), .val (.long qc1), .second, .val (.long qc2), .second, .val (.int ps1), .val (.int ps2), .val (.int (Int32.ofNat n)), .val (.int kd1), .val (.int kd2), .val (.int (Int32.ofNat i)), .val (.int (Int32.ofNat j)), .val (.int (Int32.ofNat k)), .val (.ref r35), .val .null, .unset, .unset] [(.ref b37)]))
      refine own_go (fun t_ k_ => XS.astore X38.here hx rfl (hb hby at_96) rfl rfl (l' := #[.val (.int pp), .val (.int pq), .val (.long qc1), .second, .val (.long qc2), .second, .val (.int ps1), .val (.int ps2), .val (.int (Int32.ofNat n)), .val (.int kd1), .val (.int kd2), .val (.int (Int32.ofNat i)), .val (.int (Int32.ofNat j)), .val (.int (Int32.ofNat k)), .val (.ref r35), .val .null, .val (.ref b37), .unset]) rfl k_) ?_
      show OwnFin p e below s _ _ _ (T38.setTop (mkF m 98 #[.val (.int pp), .val (.int pq), .val (.long qc1), .second, .val (.long qc2), .second, .val (.int ps1), .val (.int ps2), .val (.int (Int32.ofNat n)), .val (.int kd1), .val (.int kd2), .val (.int (Int32.ofNat i)), .val (.int (Int32.ofNat j)), .val (.int (Int32.ofNat k)), .val (.ref r35), .val .null, .val (.ref b37), .unset] []))
      refine own_go (fun t_ k_ => XS.aload X38.here hx rfl (hb hby at_98) rfl rfl k_) ?_
      show OwnFin p e below s _ _ _ (T38.setTop (mkF m 100 #[.val (.int pp), .val (.int pq), .val (.long qc1), .second, .val (.long qc2), .second, .val (.int ps1), .val (.int ps2), .val (.int (Int32.ofNat n)), .val (.int kd1), .val (.int kd2), .val (.int (Int32.ofNat i)), .val (.int (Int32.ofNat j)), .val (.int (Int32.ofNat k)), .val (.ref r35), .val .null, .val (.ref b37), .unset] [(.ref b37)]))
      refine own_go (fun t_ k_ => XS.iload X38.here hx rfl (hb hby at_100) rfl k_) ?_
      show OwnFin p e below s _ _ _ (T38.setTop (mkF m 102 #[.val (.int pp), .val (.int pq), .val (.long qc1), .second, .val (.long qc2), .second, .val (.int ps1), .val (.int ps2), .val (.int (Int32.ofNat n)), .val (.int kd1), .val (.int kd2), .val (.int (Int32.ofNat i)), .val (.int (Int32.ofNat j)), .val (.int (Int32.ofNat k)), .val (.ref r35), .val .null, .val (.ref b37), .unset] [(.int (Int32.ofNat i)), (.ref b37)]))
      refine own_go (fun t_ k_ => XS.aload X38.here hx rfl (hb hby at_102) rfl rfl k_) ?_
      show OwnFin p e below s _ _ _ (T38.setTop (mkF m 104 #[.val (.int pp), .val (.int pq), .val (.long qc1), .second, .val (.long qc2), .second, .val (.int ps1), .val (.int ps2), .val (.int (Int32.ofNat n)), .val (.int kd1), .val (.int kd2), .val (.int (Int32.ofNat i)), .val (.int (Int32.ofNat j)), .val (.int (Int32.ofNat k)), .val (.ref r35), .val .null, .val (.ref b37), .unset] [(.ref r35), (.int (Int32.ofNat i)), (.ref b37)]))
      obtain ⟨v39, T39, L39, X39, hQ39, st39⟩ := own_callV X38 hx hZ (y := (⟨"com/example/nearside/nearside/support/SplitDecimalArray", "set", "(ILcom/example/nearside/nearside/support/SplitDecimal;)V"⟩ : MethodName)) (z := (⟨"com/example/nearside/nearside/support/SplitDecimalArray", "set", "(ILcom/example/nearside/nearside/support/SplitDecimal;)V"⟩ : MethodName)) hown (hw _ (List.mem_of_getElem? (i := 24) rfl)) (hw _ (List.mem_of_getElem? (i := 25) rfl)) (notFace_of_selects (args := #[]) (mvT hZ (hw _ (List.mem_of_getElem? (i := 27) rfl)))) (hw _ (List.mem_of_getElem? (i := 27) rfl)) (hw _ (List.mem_of_getElem? (i := 26) rfl)) (hw _ (List.mem_of_getElem? (i := 6) rfl)) (hw _ (List.mem_of_getElem? (i := 28) rfl)) (by decide) (W := 0) (rm5_C0 l Z a0 hw [] b37 (Int32.ofNat i) r35 ca sc n i (fun _ => (-9223372036854775808 : Int64)) (fun _ => (0 : Int32)) T38.heap n0 Z38 rfl hin hn4 E_ao F_compact F_scale F_whole V_ca V_sc E_r35_38 F_compact_r35_38 F_scale_r35_38 (own_cw _) ne_b37_ca ne_b37_sc ne_ca_sc ne_r35_ca ne_r35_sc (Ne.symm ne_r35_b37) g_ca g_sc) (by decide) (by decide) E_ao (g := (mkF m 104 #[.val (.int pp), .val (.int pq), .val (.long qc1), .second, .val (.long qc2), .second, .val (.int ps1), .val (.int ps2), .val (.int (Int32.ofNat n)), .val (.int kd1), .val (.int kd2), .val (.int (Int32.ofNat i)), .val (.int (Int32.ofNat j)), .val (.int (Int32.ofNat k)), .val (.ref r35), .val .null, .val (.ref b37), .unset] [(.ref r35), (.int (Int32.ofNat i)), (.ref b37)])) rfl (by rw [hml]; rfl) (argsL := [(.int (Int32.ofNat i)), (.ref r35)]) (rest := []) (lenOf pd_0_4 rfl) rfl (by show 2 * 0 + _ ≤ _; exact Nat.le_of_eq rfl) (hb hby at_104) rfl rfl (by decide) (by decide)
      obtain ⟨rfl, Nq39, Kq39, Vc39, Vs39⟩ := hQ39
      have N39 := Fr.app N38 Nq39
      have E_r35_39 := E_r35_38.keep Kq39
      have F_compact_r35_39 := F_compact_r35_38.keep Kq39 (ninS ne_r35_ca (ninS ne_r35_sc nin0))
      have F_scale_r35_39 := F_scale_r35_38.keep Kq39 (ninS ne_r35_ca (ninS ne_r35_sc nin0))
      have E_ao_39 := E_ao.keep Kq39
      have F_compact_39 := F_compact.keep Kq39 (ninS ne_b37_ca (ninS ne_b37_sc nin0))
      have F_scale_39 := F_scale.keep Kq39 (ninS ne_b37_ca (ninS ne_b37_sc nin0))
      have F_whole_39 := F_whole.keep Kq39 (ninS ne_b37_ca (ninS ne_b37_sc nin0))
      have Z39 : n0 ≤ T39.heap.size := Nat.le_trans Z38 Kq39.1
      refine own_go st39 ?_
      show OwnFin p e below s _ _ _ (T39.setTop (mkF m 107 #[.val (.int pp), .val (.int pq), .val (.long qc1), .second, .val (.long qc2), .second, .val (.int ps1), .val (.int ps2), .val (.int (Int32.ofNat n)), .val (.int kd1), .val (.int kd2), .val (.int (Int32.ofNat i)), .val (.int (Int32.ofNat j)), .val (.int (Int32.ofNat k)), .val (.ref r35), .val .null, .val (.ref b37), .unset] []))
      refine own_go (fun t_ k_ => XS.aload X39.here hx rfl (hb hby at_107) rfl rfl k_) ?_
      show OwnFin p e below s _ _ _ (T39.setTop (mkF m 109 #[.val (.int pp), .val (.int pq), .val (.long qc1), .second, .val (.long qc2), .second, .val (.int ps1), .val (.int ps2), .val (.int (Int32.ofNat n)), .val (.int kd1), .val (.int kd2), .val (.int (Int32.ofNat i)), .val (.int (Int32.ofNat j)), .val (.int (Int32.ofNat k)), .val (.ref r35), .val .null, .val (.ref b37), .unset] [(.ref b37)]))
      refine own_go (fun t_ k_ => XS.iload X39.here hx rfl (hb hby at_109) rfl k_) ?_
      show OwnFin p e below s _ _ _ (T39.setTop (mkF m 111 #[.val (.int pp), .val (.int pq), .val (.long qc1), .second, .val (.long qc2), .second, .val (.int ps1), .val (.int ps2), .val (.int (Int32.ofNat n)), .val (.int kd1), .val (.int kd2), .val (.int (Int32.ofNat i)), .val (.int (Int32.ofNat j)), .val (.int (Int32.ofNat k)), .val (.ref r35), .val .null, .val (.ref b37), .unset] [(.int (Int32.ofNat j)), (.ref b37)]))
      refine own_go (fun t_ k_ => XS.aload X39.here hx rfl (hb hby at_111) rfl rfl k_) ?_
      show OwnFin p e below s _ _ _ (T39.setTop (mkF m 113 #[.val (.int pp), .val (.int pq), .val (.long qc1), .second, .val (.long qc2), .second, .val (.int ps1), .val (.int ps2), .val (.int (Int32.ofNat n)), .val (.int kd1), .val (.int kd2), .val (.int (Int32.ofNat i)), .val (.int (Int32.ofNat j)), .val (.int (Int32.ofNat k)), .val (.ref r35), .val .null, .val (.ref b37), .unset] [.null, (.int (Int32.ofNat j)), (.ref b37)]))
      obtain ⟨v40, T40, L40, X40, hQ40, st40⟩ := own_callV X39 hx hZ (y := (⟨"com/example/nearside/nearside/support/SplitDecimalArray", "set", "(ILcom/example/nearside/nearside/support/SplitDecimal;)V"⟩ : MethodName)) (z := (⟨"com/example/nearside/nearside/support/SplitDecimalArray", "set", "(ILcom/example/nearside/nearside/support/SplitDecimal;)V"⟩ : MethodName)) hown (hw _ (List.mem_of_getElem? (i := 24) rfl)) (hw _ (List.mem_of_getElem? (i := 25) rfl)) (notFace_of_selects (args := #[]) (mvT hZ (hw _ (List.mem_of_getElem? (i := 27) rfl)))) (hw _ (List.mem_of_getElem? (i := 27) rfl)) (hw _ (List.mem_of_getElem? (i := 26) rfl)) (hw _ (List.mem_of_getElem? (i := 6) rfl)) (hw _ (List.mem_of_getElem? (i := 28) rfl)) (by decide) (W := 0) (rm5_N0 l Z a0 hw [] b37 (Int32.ofNat j) ca sc n j (fun z => if z = i then (own_c qc1) else (fun _ => (-9223372036854775808 : Int64)) z) (fun z => if z = i then ps1 else (fun _ => (0 : Int32)) z) T39.heap n0 Z39 rfl hjn hn4 E_ao_39 F_compact_39 F_scale_39 F_whole_39 Vc39 Vs39 ne_b37_ca ne_b37_sc ne_ca_sc g_ca) (by decide) (by decide) E_ao_39 (g := (mkF m 113 #[.val (.int pp), .val (.int pq), .val (.long qc1), .second, .val (.long qc2), .second, .val (.int ps1), .val (.int ps2), .val (.int (Int32.ofNat n)), .val (.int kd1), .val (.int kd2), .val (.int (Int32.ofNat i)), .val (.int (Int32.ofNat j)), .val (.int (Int32.ofNat k)), .val (.ref r35), .val .null, .val (.ref b37), .unset] [.null, (.int (Int32.ofNat j)), (.ref b37)])) rfl (by rw [hml]; rfl) (argsL := [(.int (Int32.ofNat j)), .null]) (rest := []) (lenOf pd_0_4 rfl) rfl (by show 2 * 0 + _ ≤ _; exact Nat.le_of_eq rfl) (hb hby at_113) rfl rfl (by decide) (by decide)
      obtain ⟨rfl, Nq40, Kq40, Vc40⟩ := hQ40
      have N40 := Fr.app N39 Nq40
      have E_r35_40 := E_r35_39.keep Kq40
      have F_compact_r35_40 := F_compact_r35_39.keep Kq40 (ninS ne_r35_ca nin0)
      have F_scale_r35_40 := F_scale_r35_39.keep Kq40 (ninS ne_r35_ca nin0)
      have E_ao_40 := E_ao_39.keep Kq40
      have F_compact_40 := F_compact_39.keep Kq40 (ninS ne_b37_ca nin0)
      have F_scale_40 := F_scale_39.keep Kq40 (ninS ne_b37_ca nin0)
      have F_whole_40 := F_whole_39.keep Kq40 (ninS ne_b37_ca nin0)
      have Vs39_40 := Vs39.keep Kq40 (ninS (Ne.symm ne_ca_sc) nin0)
      have Z40 : n0 ≤ T40.heap.size := Nat.le_trans Z39 Kq40.1
      refine own_go st40 ?_
      show OwnFin p e below s _ _ _ (T40.setTop (mkF m 116 #[.val (.int pp), .val (.int pq), .val (.long qc1), .second, .val (.long qc2), .second, .val (.int ps1), .val (.int ps2), .val (.int (Int32.ofNat n)), .val (.int kd1), .val (.int kd2), .val (.int (Int32.ofNat i)), .val (.int (Int32.ofNat j)), .val (.int (Int32.ofNat k)), .val (.ref r35), .val .null, .val (.ref b37), .unset] []))
      refine own_go (fun t_ k_ => XS.aload X40.here hx rfl (hb hby at_116) rfl rfl k_) ?_
      show OwnFin p e below s _ _ _ (T40.setTop (mkF m 118 #[.val (.int pp), .val (.int pq), .val (.long qc1), .second, .val (.long qc2), .second, .val (.int ps1), .val (.int ps2), .val (.int (Int32.ofNat n)), .val (.int kd1), .val (.int kd2), .val (.int (Int32.ofNat i)), .val (.int (Int32.ofNat j)), .val (.int (Int32.ofNat k)), .val (.ref r35), .val .null, .val (.ref b37), .unset] [(.ref b37)]))
      refine own_go (fun t_ k_ => XS.iload X40.here hx rfl (hb hby at_118) rfl k_) ?_
      show OwnFin p e below s _ _ _ (T40.setTop (mkF m 120 #[.val (.int pp), .val (.int pq), .val (.long qc1), .second, .val (.long qc2), .second, .val (.int ps1), .val (.int ps2), .val (.int (Int32.ofNat n)), .val (.int kd1), .val (.int kd2), .val (.int (Int32.ofNat i)), .val (.int (Int32.ofNat j)), .val (.int (Int32.ofNat k)), .val (.ref r35), .val .null, .val (.ref b37), .unset] [(.int (Int32.ofNat j)), (.ref b37)]))
      obtain ⟨v41, T41, L41, X41, hQ41, st41⟩ := own_callV X40 hx hZ (y := (⟨"com/example/nearside/nearside/support/SplitDecimalArray", "get", "(I)Lcom/example/nearside/nearside/support/SplitDecimal;"⟩ : MethodName)) (z := (⟨"com/example/nearside/nearside/support/SplitDecimalArray", "get", "(I)Lcom/example/nearside/nearside/support/SplitDecimal;"⟩ : MethodName)) hown (hw _ (List.mem_of_getElem? (i := 31) rfl)) (hw _ (List.mem_of_getElem? (i := 32) rfl)) (notFace_of_selects (args := #[]) (mvT hZ (hw _ (List.mem_of_getElem? (i := 34) rfl)))) (hw _ (List.mem_of_getElem? (i := 34) rfl)) (hw _ (List.mem_of_getElem? (i := 33) rfl)) (hw _ (List.mem_of_getElem? (i := 6) rfl)) (hw _ (List.mem_of_getElem? (i := 35) rfl)) (by decide) (W := 0) (rm6_N l Z a0 hw [] b37 (Int32.ofNat j) ca n j (fun z => if z = j then (-9223372036854775808 : Int64) else (fun z => if z = i then (own_c qc1) else (fun _ => (-9223372036854775808 : Int64)) z) z) T40.heap n0 Z40 rfl hjn F_compact_40 F_whole_40 Vc40 (by (try dsimp only); rw [if_pos rfl])) (by decide) (by decide) E_ao_40 (g := (mkF m 120 #[.val (.int pp), .val (.int pq), .val (.long qc1), .second, .val (.long qc2), .second, .val (.int ps1), .val (.int ps2), .val (.int (Int32.ofNat n)), .val (.int kd1), .val (.int kd2), .val (.int (Int32.ofNat i)), .val (.int (Int32.ofNat j)), .val (.int (Int32.ofNat k)), .val (.ref r35), .val .null, .val (.ref b37), .unset] [(.int (Int32.ofNat j)), (.ref b37)])) rfl (by rw [hml]; rfl) (argsL := [(.int (Int32.ofNat j))]) (rest := []) (lenOf pd_0_5 rfl) rfl (by show 2 * 0 + _ ≤ _; exact Nat.le_of_eq rfl) (hb hby at_120) rfl rfl (by decide) (by decide)
      obtain ⟨rfl, Nq41, e41⟩ := hQ41
      have N41 := Fr.app N40 Nq41
      refine own_go st41 ?_
      show OwnFin p e below s _ _ _ (T41.setTop (mkF m 123 #[.val (.int pp), .val (.int pq), .val (.long qc1), .second, .val (.long qc2), .second, .val (.int ps1), .val (.int ps2), .val (.int (Int32.ofNat n)), .val (.int kd1), .val (.int kd2), .val (.int (Int32.ofNat i)), .val (.int (Int32.ofNat j)), .val (.int (Int32.ofNat k)), .val (.ref r35), .val .null, .val (.ref b37), .unset] [.null]))
      refine own_go (fun t_ k_ => XS.aload X41.here hx rfl (hb hby at_123) rfl rfl k_) ?_
      show OwnFin p e below s _ _ _ (T41.setTop (mkF m 125 #[.val (.int pp), .val (.int pq), .val (.long qc1), .second, .val (.long qc2), .second, .val (.int ps1), .val (.int ps2), .val (.int (Int32.ofNat n)), .val (.int kd1), .val (.int kd2), .val (.int (Int32.ofNat i)), .val (.int (Int32.ofNat j)), .val (.int (Int32.ofNat k)), .val (.ref r35), .val .null, .val (.ref b37), .unset] [.null, .null]))
      obtain ⟨v42, T42, L42, X42, hQ42, st42⟩ := own_callS X41 hx hZ (y := (⟨"com/example/nearside/nearside/support/SplitDecimalArraySetPinLaw", "holds", "(Lcom/example/nearside/nearside/support/SplitDecimal;Lcom/example/nearside/nearside/support/SplitDecimal;)Z"⟩ : MethodName)) hown (hw _ (List.mem_of_getElem? (i := 36) rfl)) (hw _ (List.mem_of_getElem? (i := 37) rfl)) (hw _ (List.mem_of_getElem? (i := 2) rfl)) (hw _ (List.mem_of_getElem? (i := 38) rfl)) (by decide) (W := 0) (rm7_N l Z a0 hw []  T40.heap n0 Z40) (by decide) (by decide) (g := (mkF m 125 #[.val (.int pp), .val (.int pq), .val (.long qc1), .second, .val (.long qc2), .second, .val (.int ps1), .val (.int ps2), .val (.int (Int32.ofNat n)), .val (.int kd1), .val (.int kd2), .val (.int (Int32.ofNat i)), .val (.int (Int32.ofNat j)), .val (.int (Int32.ofNat k)), .val (.ref r35), .val .null, .val (.ref b37), .unset] [.null, .null])) rfl (by rw [hml]; rfl) (argsL := [.null, .null]) (rest := []) (lenOf pd_0_6 rfl) rfl (by show 2 * 0 + _ ≤ _; exact Nat.le_of_eq rfl) (hb hby at_125) e41 rfl (by decide) (by decide)
      obtain ⟨rfl, Nq42, e42⟩ := hQ42
      have N42 := Fr.app N41 Nq42
      refine own_go st42 ?_
      show OwnFin p e below s _ _ _ (T42.setTop (mkF m 128 #[.val (.int pp), .val (.int pq), .val (.long qc1), .second, .val (.long qc2), .second, .val (.int ps1), .val (.int ps2), .val (.int (Int32.ofNat n)), .val (.int kd1), .val (.int kd2), .val (.int (Int32.ofNat i)), .val (.int (Int32.ofNat j)), .val (.int (Int32.ofNat k)), .val (.ref r35), .val .null, .val (.ref b37), .unset] [(.int (1 : Int32))]))
      refine own_go (fun t_ k_ => XS.istore X42.here hx rfl (hb hby at_128) rfl (l' := #[.val (.int pp), .val (.int pq), .val (.long qc1), .second, .val (.long qc2), .second, .val (.int ps1), .val (.int ps2), .val (.int (Int32.ofNat n)), .val (.int kd1), .val (.int kd2), .val (.int (Int32.ofNat i)), .val (.int (Int32.ofNat j)), .val (.int (Int32.ofNat k)), .val (.ref r35), .val .null, .val (.ref b37), .val (.int (1 : Int32))]) rfl k_) ?_
      show OwnFin p e below s _ _ _ (T42.setTop (mkF m 130 #[.val (.int pp), .val (.int pq), .val (.long qc1), .second, .val (.long qc2), .second, .val (.int ps1), .val (.int ps2), .val (.int (Int32.ofNat n)), .val (.int kd1), .val (.int kd2), .val (.int (Int32.ofNat i)), .val (.int (Int32.ofNat j)), .val (.int (Int32.ofNat k)), .val (.ref r35), .val .null, .val (.ref b37), .val (.int (1 : Int32))] []))
      by_cases hij : i = j
      · refine own_go (fun t_ k_ => XS.iload X42.here hx rfl (hb hby at_130) rfl k_) ?_
        show OwnFin p e below s _ _ _ (T42.setTop (mkF m 132 #[.val (.int pp), .val (.int pq), .val (.long qc1), .second, .val (.long qc2), .second, .val (.int ps1), .val (.int ps2), .val (.int (Int32.ofNat n)), .val (.int kd1), .val (.int kd2), .val (.int (Int32.ofNat i)), .val (.int (Int32.ofNat j)), .val (.int (Int32.ofNat k)), .val (.ref r35), .val .null, .val (.ref b37), .val (.int (1 : Int32))] [(.int (Int32.ofNat i))]))
        refine own_go (fun t_ k_ => XS.iload X42.here hx rfl (hb hby at_132) rfl k_) ?_
        show OwnFin p e below s _ _ _ (T42.setTop (mkF m 134 #[.val (.int pp), .val (.int pq), .val (.long qc1), .second, .val (.long qc2), .second, .val (.int ps1), .val (.int ps2), .val (.int (Int32.ofNat n)), .val (.int kd1), .val (.int kd2), .val (.int (Int32.ofNat i)), .val (.int (Int32.ofNat j)), .val (.int (Int32.ofNat k)), .val (.ref r35), .val .null, .val (.ref b37), .val (.int (1 : Int32))] [(.int (Int32.ofNat j)), (.int (Int32.ofNat i))]))
        have hc134 : (Int32.ofNat i) = (Int32.ofNat j) := by rw [hij]
        refine own_go (fun t_ k_ => XS.icmpYes X42.here hx rfl (pc0 := 134) (pc' := 164) rfl (hb hby at_134) rfl (teq hc134).1 (by decide) (by decide) k_) ?_
        show OwnFin p e below s _ _ _ (T42.setTop (mkF m 164 #[.val (.int pp), .val (.int pq), .val (.long qc1), .second, .val (.long qc2), .second, .val (.int ps1), .val (.int ps2), .val (.int (Int32.ofNat n)), .val (.int kd1), .val (.int kd2), .val (.int (Int32.ofNat i)), .val (.int (Int32.ofNat j)), .val (.int (Int32.ofNat k)), .val (.ref r35), .val .null, .val (.ref b37), .val (.int (1 : Int32))] []))
        by_cases hki : k = i
        · refine own_go (fun t_ k_ => XS.iload X42.here hx rfl (hb hby at_164) rfl k_) ?_
          show OwnFin p e below s _ _ _ (T42.setTop (mkF m 166 #[.val (.int pp), .val (.int pq), .val (.long qc1), .second, .val (.long qc2), .second, .val (.int ps1), .val (.int ps2), .val (.int (Int32.ofNat n)), .val (.int kd1), .val (.int kd2), .val (.int (Int32.ofNat i)), .val (.int (Int32.ofNat j)), .val (.int (Int32.ofNat k)), .val (.ref r35), .val .null, .val (.ref b37), .val (.int (1 : Int32))] [(.int (Int32.ofNat k))]))
          refine own_go (fun t_ k_ => XS.iload X42.here hx rfl (hb hby at_166) rfl k_) ?_
          show OwnFin p e below s _ _ _ (T42.setTop (mkF m 168 #[.val (.int pp), .val (.int pq), .val (.long qc1), .second, .val (.long qc2), .second, .val (.int ps1), .val (.int ps2), .val (.int (Int32.ofNat n)), .val (.int kd1), .val (.int kd2), .val (.int (Int32.ofNat i)), .val (.int (Int32.ofNat j)), .val (.int (Int32.ofNat k)), .val (.ref r35), .val .null, .val (.ref b37), .val (.int (1 : Int32))] [(.int (Int32.ofNat i)), (.int (Int32.ofNat k))]))
          have hc168 : (Int32.ofNat k) = (Int32.ofNat i) := by rw [hki]
          refine own_go (fun t_ k_ => XS.icmpYes X42.here hx rfl (pc0 := 168) (pc' := 200) rfl (hb hby at_168) rfl (teq hc168).1 (by decide) (by decide) k_) ?_
          show OwnFin p e below s _ _ _ (T42.setTop (mkF m 200 #[.val (.int pp), .val (.int pq), .val (.long qc1), .second, .val (.long qc2), .second, .val (.int ps1), .val (.int ps2), .val (.int (Int32.ofNat n)), .val (.int kd1), .val (.int kd2), .val (.int (Int32.ofNat i)), .val (.int (Int32.ofNat j)), .val (.int (Int32.ofNat k)), .val (.ref r35), .val .null, .val (.ref b37), .val (.int (1 : Int32))] []))
          refine own_go (fun t_ k_ => XS.iload X42.here hx rfl (hb hby at_200) rfl k_) ?_
          show OwnFin p e below s _ _ _ (T42.setTop (mkF m 202 #[.val (.int pp), .val (.int pq), .val (.long qc1), .second, .val (.long qc2), .second, .val (.int ps1), .val (.int ps2), .val (.int (Int32.ofNat n)), .val (.int kd1), .val (.int kd2), .val (.int (Int32.ofNat i)), .val (.int (Int32.ofNat j)), .val (.int (Int32.ofNat k)), .val (.ref r35), .val .null, .val (.ref b37), .val (.int (1 : Int32))] [(.int (1 : Int32))]))
          refine own_ret X42 (v := some (.int (1 : Int32))) hlk (fun hh => by rw [hret] at hh; cases hh) (fun fs hr => retN X42 hx (t := .boolean) hret (by simp) (hb hby at_202) hr) (by decide) (by decide) ?_
          exact ⟨rfl, N42⟩
        · refine own_go (fun t_ k_ => XS.iload X42.here hx rfl (hb hby at_164) rfl k_) ?_
          show OwnFin p e below s _ _ _ (T42.setTop (mkF m 166 #[.val (.int pp), .val (.int pq), .val (.long qc1), .second, .val (.long qc2), .second, .val (.int ps1), .val (.int ps2), .val (.int (Int32.ofNat n)), .val (.int kd1), .val (.int kd2), .val (.int (Int32.ofNat i)), .val (.int (Int32.ofNat j)), .val (.int (Int32.ofNat k)), .val (.ref r35), .val .null, .val (.ref b37), .val (.int (1 : Int32))] [(.int (Int32.ofNat k))]))
          refine own_go (fun t_ k_ => XS.iload X42.here hx rfl (hb hby at_166) rfl k_) ?_
          show OwnFin p e below s _ _ _ (T42.setTop (mkF m 168 #[.val (.int pp), .val (.int pq), .val (.long qc1), .second, .val (.long qc2), .second, .val (.int ps1), .val (.int ps2), .val (.int (Int32.ofNat n)), .val (.int kd1), .val (.int kd2), .val (.int (Int32.ofNat i)), .val (.int (Int32.ofNat j)), .val (.int (Int32.ofNat k)), .val (.ref r35), .val .null, .val (.ref b37), .val (.int (1 : Int32))] [(.int (Int32.ofNat i)), (.int (Int32.ofNat k))]))
          have hc168 : ¬ ((Int32.ofNat k) = (Int32.ofNat i)) := fun q => hki (own_ofNat_inj (by omega) (by omega) q)
          refine own_go (fun t_ k_ => XS.icmpNo X42.here hx rfl (hb hby at_168) rfl (feq hc168).1 k_) ?_
          show OwnFin p e below s _ _ _ (T42.setTop (mkF m 171 #[.val (.int pp), .val (.int pq), .val (.long qc1), .second, .val (.long qc2), .second, .val (.int ps1), .val (.int ps2), .val (.int (Int32.ofNat n)), .val (.int kd1), .val (.int kd2), .val (.int (Int32.ofNat i)), .val (.int (Int32.ofNat j)), .val (.int (Int32.ofNat k)), .val (.ref r35), .val .null, .val (.ref b37), .val (.int (1 : Int32))] []))
          by_cases hkj : k = j
          · refine own_go (fun t_ k_ => XS.iload X42.here hx rfl (hb hby at_171) rfl k_) ?_
            show OwnFin p e below s _ _ _ (T42.setTop (mkF m 173 #[.val (.int pp), .val (.int pq), .val (.long qc1), .second, .val (.long qc2), .second, .val (.int ps1), .val (.int ps2), .val (.int (Int32.ofNat n)), .val (.int kd1), .val (.int kd2), .val (.int (Int32.ofNat i)), .val (.int (Int32.ofNat j)), .val (.int (Int32.ofNat k)), .val (.ref r35), .val .null, .val (.ref b37), .val (.int (1 : Int32))] [(.int (Int32.ofNat k))]))
            refine own_go (fun t_ k_ => XS.iload X42.here hx rfl (hb hby at_173) rfl k_) ?_
            show OwnFin p e below s _ _ _ (T42.setTop (mkF m 175 #[.val (.int pp), .val (.int pq), .val (.long qc1), .second, .val (.long qc2), .second, .val (.int ps1), .val (.int ps2), .val (.int (Int32.ofNat n)), .val (.int kd1), .val (.int kd2), .val (.int (Int32.ofNat i)), .val (.int (Int32.ofNat j)), .val (.int (Int32.ofNat k)), .val (.ref r35), .val .null, .val (.ref b37), .val (.int (1 : Int32))] [(.int (Int32.ofNat j)), (.int (Int32.ofNat k))]))
            have hc175 : (Int32.ofNat k) = (Int32.ofNat j) := by rw [hkj]
            refine own_go (fun t_ k_ => XS.icmpYes X42.here hx rfl (pc0 := 175) (pc' := 200) rfl (hb hby at_175) rfl (teq hc175).1 (by decide) (by decide) k_) ?_
            show OwnFin p e below s _ _ _ (T42.setTop (mkF m 200 #[.val (.int pp), .val (.int pq), .val (.long qc1), .second, .val (.long qc2), .second, .val (.int ps1), .val (.int ps2), .val (.int (Int32.ofNat n)), .val (.int kd1), .val (.int kd2), .val (.int (Int32.ofNat i)), .val (.int (Int32.ofNat j)), .val (.int (Int32.ofNat k)), .val (.ref r35), .val .null, .val (.ref b37), .val (.int (1 : Int32))] []))
            refine own_go (fun t_ k_ => XS.iload X42.here hx rfl (hb hby at_200) rfl k_) ?_
            show OwnFin p e below s _ _ _ (T42.setTop (mkF m 202 #[.val (.int pp), .val (.int pq), .val (.long qc1), .second, .val (.long qc2), .second, .val (.int ps1), .val (.int ps2), .val (.int (Int32.ofNat n)), .val (.int kd1), .val (.int kd2), .val (.int (Int32.ofNat i)), .val (.int (Int32.ofNat j)), .val (.int (Int32.ofNat k)), .val (.ref r35), .val .null, .val (.ref b37), .val (.int (1 : Int32))] [(.int (1 : Int32))]))
            refine own_ret X42 (v := some (.int (1 : Int32))) hlk (fun hh => by rw [hret] at hh; cases hh) (fun fs hr => retN X42 hx (t := .boolean) hret (by simp) (hb hby at_202) hr) (by decide) (by decide) ?_
            exact ⟨rfl, N42⟩
          · refine own_go (fun t_ k_ => XS.iload X42.here hx rfl (hb hby at_171) rfl k_) ?_
            show OwnFin p e below s _ _ _ (T42.setTop (mkF m 173 #[.val (.int pp), .val (.int pq), .val (.long qc1), .second, .val (.long qc2), .second, .val (.int ps1), .val (.int ps2), .val (.int (Int32.ofNat n)), .val (.int kd1), .val (.int kd2), .val (.int (Int32.ofNat i)), .val (.int (Int32.ofNat j)), .val (.int (Int32.ofNat k)), .val (.ref r35), .val .null, .val (.ref b37), .val (.int (1 : Int32))] [(.int (Int32.ofNat k))]))
            refine own_go (fun t_ k_ => XS.iload X42.here hx rfl (hb hby at_173) rfl k_) ?_
            show OwnFin p e below s _ _ _ (T42.setTop (mkF m 175 #[.val (.int pp), .val (.int pq), .val (.long qc1), .second, .val (.long qc2), .second, .val (.int ps1), .val (.int ps2), .val (.int (Int32.ofNat n)), .val (.int kd1), .val (.int kd2), .val (.int (Int32.ofNat i)), .val (.int (Int32.ofNat j)), .val (.int (Int32.ofNat k)), .val (.ref r35), .val .null, .val (.ref b37), .val (.int (1 : Int32))] [(.int (Int32.ofNat j)), (.int (Int32.ofNat k))]))
            have hc175 : ¬ ((Int32.ofNat k) = (Int32.ofNat j)) := fun q => hkj (own_ofNat_inj (by omega) (by omega) q)
            refine own_go (fun t_ k_ => XS.icmpNo X42.here hx rfl (hb hby at_175) rfl (feq hc175).1 k_) ?_
            show OwnFin p e below s _ _ _ (T42.setTop (mkF m 178 #[.val (.int pp), .val (.int pq), .val (.long qc1), .second, .val (.long qc2), .second, .val (.int ps1), .val (.int ps2), .val (.int (Int32.ofNat n)), .val (.int kd1), .val (.int kd2), .val (.int (Int32.ofNat i)), .val (.int (Int32.ofNat j)), .val (.int (Int32.ofNat k)), .val (.ref r35), .val .null, .val (.ref b37), .val (.int (1 : Int32))] []))
            refine own_go (fun t_ k_ => XS.iload X42.here hx rfl (hb hby at_178) rfl k_) ?_
            show OwnFin p e below s _ _ _ (T42.setTop (mkF m 180 #[.val (.int pp), .val (.int pq), .val (.long qc1), .second, .val (.long qc2), .second, .val (.int ps1), .val (.int ps2), .val (.int (Int32.ofNat n)), .val (.int kd1), .val (.int kd2), .val (.int (Int32.ofNat i)), .val (.int (Int32.ofNat j)), .val (.int (Int32.ofNat k)), .val (.ref r35), .val .null, .val (.ref b37), .val (.int (1 : Int32))] [(.int (1 : Int32))]))
            refine own_go (fun t_ k_ => XS.ifNo X42.here hx rfl (hb hby at_180) rfl ((if0 _ _).trans (feq (by decide)).1) k_) ?_
            show OwnFin p e below s _ _ _ (T42.setTop (mkF m 183 #[.val (.int pp), .val (.int pq), .val (.long qc1), .second, .val (.long qc2), .second, .val (.int ps1), .val (.int ps2), .val (.int (Int32.ofNat n)), .val (.int kd1), .val (.int kd2), .val (.int (Int32.ofNat i)), .val (.int (Int32.ofNat j)), .val (.int (Int32.ofNat k)), .val (.ref r35), .val .null, .val (.ref b37), .val (.int (1 : Int32))] []))
            refine own_go (fun t_ k_ => XS.aload X42.here hx rfl (hb hby at_183) rfl rfl k_) ?_
            show OwnFin p e below s _ _ _ (T42.setTop (mkF m 185 #[.val (.int pp), .val (.int pq), .val (.long qc1), .second, .val (.long qc2), .second, .val (.int ps1), .val (.int ps2), .val (.int (Int32.ofNat n)), .val (.int kd1), .val (.int kd2), .val (.int (Int32.ofNat i)), .val (.int (Int32.ofNat j)), .val (.int (Int32.ofNat k)), .val (.ref r35), .val .null, .val (.ref b37), .val (.int (1 : Int32))] [(.ref b37)]))
            refine own_go (fun t_ k_ => XS.iload X42.here hx rfl (hb hby at_185) rfl k_) ?_
            show OwnFin p e below s _ _ _ (T42.setTop (mkF m 187 #[.val (.int pp), .val (.int pq), .val (.long qc1), .second, .val (.long qc2), .second, .val (.int ps1), .val (.int ps2), .val (.int (Int32.ofNat n)), .val (.int kd1), .val (.int kd2), .val (.int (Int32.ofNat i)), .val (.int (Int32.ofNat j)), .val (.int (Int32.ofNat k)), .val (.ref r35), .val .null, .val (.ref b37), .val (.int (1 : Int32))] [(.int (Int32.ofNat k)), (.ref b37)]))
            obtain ⟨v43, T43, L43, X43, hQ43, st43⟩ := own_callV X42 hx hZ (y := (⟨"com/example/nearside/nearside/support/SplitDecimalArray", "get", "(I)Lcom/example/nearside/nearside/support/SplitDecimal;"⟩ : MethodName)) (z := (⟨"com/example/nearside/nearside/support/SplitDecimalArray", "get", "(I)Lcom/example/nearside/nearside/support/SplitDecimal;"⟩ : MethodName)) hown (hw _ (List.mem_of_getElem? (i := 31) rfl)) (hw _ (List.mem_of_getElem? (i := 32) rfl)) (notFace_of_selects (args := #[]) (mvT hZ (hw _ (List.mem_of_getElem? (i := 34) rfl)))) (hw _ (List.mem_of_getElem? (i := 34) rfl)) (hw _ (List.mem_of_getElem? (i := 33) rfl)) (hw _ (List.mem_of_getElem? (i := 6) rfl)) (hw _ (List.mem_of_getElem? (i := 35) rfl)) (by decide) (W := 0) (rm6_N l Z a0 hw [] b37 (Int32.ofNat k) ca n k (fun z => if z = j then (-9223372036854775808 : Int64) else (fun z => if z = i then (own_c qc1) else (fun _ => (-9223372036854775808 : Int64)) z) z) T40.heap n0 Z40 rfl hkn F_compact_40 F_whole_40 Vc40 (by (try dsimp only); rw [if_neg hkj, if_neg hki])) (by decide) (by decide) E_ao_40 (g := (mkF m 187 #[.val (.int pp), .val (.int pq), .val (.long qc1), .second, .val (.long qc2), .second, .val (.int ps1), .val (.int ps2), .val (.int (Int32.ofNat n)), .val (.int kd1), .val (.int kd2), .val (.int (Int32.ofNat i)), .val (.int (Int32.ofNat j)), .val (.int (Int32.ofNat k)), .val (.ref r35), .val .null, .val (.ref b37), .val (.int (1 : Int32))] [(.int (Int32.ofNat k)), (.ref b37)])) rfl (by rw [hml]; rfl) (argsL := [(.int (Int32.ofNat k))]) (rest := []) (lenOf pd_0_5 rfl) rfl (by show 2 * 0 + _ ≤ _; exact Nat.le_of_eq rfl) (hb hby at_187) e42 rfl (by decide) (by decide)
            obtain ⟨rfl, Nq43, e43⟩ := hQ43
            have N43 := Fr.app N42 Nq43
            refine own_go st43 ?_
            show OwnFin p e below s _ _ _ (T43.setTop (mkF m 190 #[.val (.int pp), .val (.int pq), .val (.long qc1), .second, .val (.long qc2), .second, .val (.int ps1), .val (.int ps2), .val (.int (Int32.ofNat n)), .val (.int kd1), .val (.int kd2), .val (.int (Int32.ofNat i)), .val (.int (Int32.ofNat j)), .val (.int (Int32.ofNat k)), .val (.ref r35), .val .null, .val (.ref b37), .val (.int (1 : Int32))] [.null]))
            refine own_go (fun t_ k_ => XS.ifnonnullNo X43.here hx rfl (hb hby at_190) rfl k_) ?_
            show OwnFin p e below s _ _ _ (T43.setTop (mkF m 193 #[.val (.int pp), .val (.int pq), .val (.long qc1), .second, .val (.long qc2), .second, .val (.int ps1), .val (.int ps2), .val (.int (Int32.ofNat n)), .val (.int kd1), .val (.int kd2), .val (.int (Int32.ofNat i)), .val (.int (Int32.ofNat j)), .val (.int (Int32.ofNat k)), .val (.ref r35), .val .null, .val (.ref b37), .val (.int (1 : Int32))] []))
            refine own_go (fun t_ k_ => XS.iconst X43.here hx rfl (hb hby at_193) k_) ?_
            show OwnFin p e below s _ _ _ (T43.setTop (mkF m 194 #[.val (.int pp), .val (.int pq), .val (.long qc1), .second, .val (.long qc2), .second, .val (.int ps1), .val (.int ps2), .val (.int (Int32.ofNat n)), .val (.int kd1), .val (.int kd2), .val (.int (Int32.ofNat i)), .val (.int (Int32.ofNat j)), .val (.int (Int32.ofNat k)), .val (.ref r35), .val .null, .val (.ref b37), .val (.int (1 : Int32))] [(.int (1 : Int32))]))
            refine own_go (fun t_ k_ => XS.goto X43.here hx rfl (pc0 := 194) (pc' := 198) rfl (hb hby at_194) (by decide) (by decide) k_) ?_
            show OwnFin p e below s _ _ _ (T43.setTop (mkF m 198 #[.val (.int pp), .val (.int pq), .val (.long qc1), .second, .val (.long qc2), .second, .val (.int ps1), .val (.int ps2), .val (.int (Int32.ofNat n)), .val (.int kd1), .val (.int kd2), .val (.int (Int32.ofNat i)), .val (.int (Int32.ofNat j)), .val (.int (Int32.ofNat k)), .val (.ref r35), .val .null, .val (.ref b37), .val (.int (1 : Int32))] [(.int (1 : Int32))]))
            refine own_go (fun t_ k_ => XS.istore X43.here hx rfl (hb hby at_198) rfl (l' := #[.val (.int pp), .val (.int pq), .val (.long qc1), .second, .val (.long qc2), .second, .val (.int ps1), .val (.int ps2), .val (.int (Int32.ofNat n)), .val (.int kd1), .val (.int kd2), .val (.int (Int32.ofNat i)), .val (.int (Int32.ofNat j)), .val (.int (Int32.ofNat k)), .val (.ref r35), .val .null, .val (.ref b37), .val (.int (1 : Int32))]) rfl k_) ?_
            show OwnFin p e below s _ _ _ (T43.setTop (mkF m 200 #[.val (.int pp), .val (.int pq), .val (.long qc1), .second, .val (.long qc2), .second, .val (.int ps1), .val (.int ps2), .val (.int (Int32.ofNat n)), .val (.int kd1), .val (.int kd2), .val (.int (Int32.ofNat i)), .val (.int (Int32.ofNat j)), .val (.int (Int32.ofNat k)), .val (.ref r35), .val .null, .val (.ref b37), .val (.int (1 : Int32))] []))
            refine own_go (fun t_ k_ => XS.iload X43.here hx rfl (hb hby at_200) rfl k_) ?_
            show OwnFin p e below s _ _ _ (T43.setTop (mkF m 202 #[.val (.int pp), .val (.int pq), .val (.long qc1), .second, .val (.long qc2), .second, .val (.int ps1), .val (.int ps2), .val (.int (Int32.ofNat n)), .val (.int kd1), .val (.int kd2), .val (.int (Int32.ofNat i)), .val (.int (Int32.ofNat j)), .val (.int (Int32.ofNat k)), .val (.ref r35), .val .null, .val (.ref b37), .val (.int (1 : Int32))] [(.int (1 : Int32))]))
            refine own_ret X43 (v := some (.int (1 : Int32))) hlk (fun hh => by rw [hret] at hh; cases hh) (fun fs hr => retN X43 hx (t := .boolean) hret (by simp) (hb hby at_202) hr) (by decide) (by decide) ?_
            exact ⟨rfl, N43⟩
      · refine own_go (fun t_ k_ => XS.iload X42.here hx rfl (hb hby at_130) rfl k_) ?_
        show OwnFin p e below s _ _ _ (T42.setTop (mkF m 132 #[.val (.int pp), .val (.int pq), .val (.long qc1), .second, .val (.long qc2), .second, .val (.int ps1), .val (.int ps2), .val (.int (Int32.ofNat n)), .val (.int kd1), .val (.int kd2), .val (.int (Int32.ofNat i)), .val (.int (Int32.ofNat j)), .val (.int (Int32.ofNat k)), .val (.ref r35), .val .null, .val (.ref b37), .val (.int (1 : Int32))] [(.int (Int32.ofNat i))]))
        refine own_go (fun t_ k_ => XS.iload X42.here hx rfl (hb hby at_132) rfl k_) ?_
        show OwnFin p e below s _ _ _ (T42.setTop (mkF m 134 #[.val (.int pp), .val (.int pq), .val (.long qc1), .second, .val (.long qc2), .second, .val (.int ps1), .val (.int ps2), .val (.int (Int32.ofNat n)), .val (.int kd1), .val (.int kd2), .val (.int (Int32.ofNat i)), .val (.int (Int32.ofNat j)), .val (.int (Int32.ofNat k)), .val (.ref r35), .val .null, .val (.ref b37), .val (.int (1 : Int32))] [(.int (Int32.ofNat j)), (.int (Int32.ofNat i))]))
        have hc134 : ¬ ((Int32.ofNat i) = (Int32.ofNat j)) := fun q => hij (own_ofNat_inj (by omega) (by omega) q)
        refine own_go (fun t_ k_ => XS.icmpNo X42.here hx rfl (hb hby at_134) rfl (feq hc134).1 k_) ?_
        show OwnFin p e below s _ _ _ (T42.setTop (mkF m 137 #[.val (.int pp), .val (.int pq), .val (.long qc1), .second, .val (.long qc2), .second, .val (.int ps1), .val (.int ps2), .val (.int (Int32.ofNat n)), .val (.int kd1), .val (.int kd2), .val (.int (Int32.ofNat i)), .val (.int (Int32.ofNat j)), .val (.int (Int32.ofNat k)), .val (.ref r35), .val .null, .val (.ref b37), .val (.int (1 : Int32))] []))
        refine own_go (fun t_ k_ => XS.iload X42.here hx rfl (hb hby at_137) rfl k_) ?_
        show OwnFin p e below s _ _ _ (T42.setTop (mkF m 139 #[.val (.int pp), .val (.int pq), .val (.long qc1), .second, .val (.long qc2), .second, .val (.int ps1), .val (.int ps2), .val (.int (Int32.ofNat n)), .val (.int kd1), .val (.int kd2), .val (.int (Int32.ofNat i)), .val (.int (Int32.ofNat j)), .val (.int (Int32.ofNat k)), .val (.ref r35), .val .null, .val (.ref b37), .val (.int (1 : Int32))] [(.int (1 : Int32))]))
        refine own_go (fun t_ k_ => XS.ifNo X42.here hx rfl (hb hby at_139) rfl ((if0 _ _).trans (feq (by decide)).1) k_) ?_
        show OwnFin p e below s _ _ _ (T42.setTop (mkF m 142 #[.val (.int pp), .val (.int pq), .val (.long qc1), .second, .val (.long qc2), .second, .val (.int ps1), .val (.int ps2), .val (.int (Int32.ofNat n)), .val (.int kd1), .val (.int kd2), .val (.int (Int32.ofNat i)), .val (.int (Int32.ofNat j)), .val (.int (Int32.ofNat k)), .val (.ref r35), .val .null, .val (.ref b37), .val (.int (1 : Int32))] []))
        refine own_go (fun t_ k_ => XS.aload X42.here hx rfl (hb hby at_142) rfl rfl k_) ?_
        show OwnFin p e below s _ _ _ (T42.setTop (mkF m 144 #[.val (.int pp), .val (.int pq), .val (.long qc1), .second, .val (.long qc2), .second, .val (.int ps1), .val (.int ps2), .val (.int (Int32.ofNat n)), .val (.int kd1), .val (.int kd2), .val (.int (Int32.ofNat i)), .val (.int (Int32.ofNat j)), .val (.int (Int32.ofNat k)), .val (.ref r35), .val .null, .val (.ref b37), .val (.int (1 : Int32))] [(.ref b37)]))
        refine own_go (fun t_ k_ => XS.iload X42.here hx rfl (hb hby at_144) rfl k_) ?_
        show OwnFin p e below s _ _ _ (T42.setTop (mkF m 146 #[.val (.int pp), .val (.int pq), .val (.long qc1), .second, .val (.long qc2), .second, .val (.int ps1), .val (.int ps2), .val (.int (Int32.ofNat n)), .val (.int kd1), .val (.int kd2), .val (.int (Int32.ofNat i)), .val (.int (Int32.ofNat j)), .val (.int (Int32.ofNat k)), .val (.ref r35), .val .null, .val (.ref b37), .val (.int (1 : Int32))] [(.int (Int32.ofNat i)), (.ref b37)]))
        obtain ⟨v44, T44, L44, X44, hQ44, st44⟩ := own_callV X42 hx hZ (y := (⟨"com/example/nearside/nearside/support/SplitDecimalArray", "get", "(I)Lcom/example/nearside/nearside/support/SplitDecimal;"⟩ : MethodName)) (z := (⟨"com/example/nearside/nearside/support/SplitDecimalArray", "get", "(I)Lcom/example/nearside/nearside/support/SplitDecimal;"⟩ : MethodName)) hown (hw _ (List.mem_of_getElem? (i := 31) rfl)) (hw _ (List.mem_of_getElem? (i := 32) rfl)) (notFace_of_selects (args := #[]) (mvT hZ (hw _ (List.mem_of_getElem? (i := 34) rfl)))) (hw _ (List.mem_of_getElem? (i := 34) rfl)) (hw _ (List.mem_of_getElem? (i := 33) rfl)) (hw _ (List.mem_of_getElem? (i := 6) rfl)) (hw _ (List.mem_of_getElem? (i := 35) rfl)) (by decide) (W := 0) (rm6_C l Z a0 hw [] b37 (Int32.ofNat i) ca sc n i (fun z => if z = j then (-9223372036854775808 : Int64) else (fun z => if z = i then (own_c qc1) else (fun _ => (-9223372036854775808 : Int64)) z) z) (fun z => if z = i then ps1 else (fun _ => (0 : Int32)) z) (own_c qc1) ps1 T40.heap n0 Z40 rfl hin F_compact_40 F_scale_40 Vc40 Vs39_40 (by (try dsimp only); rw [if_neg hij, if_pos rfl]) (by (try dsimp only); rw [if_pos rfl]) (own_cw _)) (by decide) (by decide) E_ao_40 (g := (mkF m 146 #[.val (.int pp), .val (.int pq), .val (.long qc1), .second, .val (.long qc2), .second, .val (.int ps1), .val (.int ps2), .val (.int (Int32.ofNat n)), .val (.int kd1), .val (.int kd2), .val (.int (Int32.ofNat i)), .val (.int (Int32.ofNat j)), .val (.int (Int32.ofNat k)), .val (.ref r35), .val .null, .val (.ref b37), .val (.int (1 : Int32))] [(.int (Int32.ofNat i)), (.ref b37)])) rfl (by rw [hml]; rfl) (argsL := [(.int (Int32.ofNat i))]) (rest := []) (lenOf pd_0_5 rfl) rfl (by show 2 * 0 + _ ≤ _; exact Nat.le_of_eq rfl) (hb hby at_146) e42 rfl (by decide) (by decide)
        obtain ⟨r44, rfl, Nq44, Kq44, sq44, Eq44, Fq44_0, Fq44_1⟩ := hQ44
        have N44 := Fr.app N42 Nq44
        have g_r44 : n0 ≤ r44 := Nat.le_trans Z40 sq44
        have ne_r35_r44 : r35 ≠ r44 := Nat.ne_of_lt (Nat.lt_of_lt_of_le E_r35_40.lt sq44)
        have ne_b37_r44 : b37 ≠ r44 := Nat.ne_of_lt (Nat.lt_of_lt_of_le E_ao_40.lt sq44)
        have ne_sc_r44 : sc ≠ r44 := Nat.ne_of_lt (Nat.lt_of_lt_of_le Vs39_40.lt sq44)
        have ne_ca_r44 : ca ≠ r44 := Nat.ne_of_lt (Nat.lt_of_lt_of_le Vc40.lt sq44)
        have E_r35_44 := E_r35_40.keep Kq44
        have F_compact_r35_44 := F_compact_r35_40.keep Kq44 nin0
        have F_scale_r35_44 := F_scale_r35_40.keep Kq44 nin0
        have E_ao_44 := E_ao_40.keep Kq44
        have F_compact_44 := F_compact_40.keep Kq44 nin0
        have F_scale_44 := F_scale_40.keep Kq44 nin0
        have F_whole_44 := F_whole_40.keep Kq44 nin0
        have Vs39_44 := Vs39_40.keep Kq44 nin0
        have Vc40_44 := Vc40.keep Kq44 nin0
        have Z44 : n0 ≤ T44.heap.size := Nat.le_trans Z40 Kq44.1
        refine own_go st44 ?_
        show OwnFin p e below s _ _ _ (T44.setTop (mkF m 149 #[.val (.int pp), .val (.int pq), .val (.long qc1), .second, .val (.long qc2), .second, .val (.int ps1), .val (.int ps2), .val (.int (Int32.ofNat n)), .val (.int kd1), .val (.int kd2), .val (.int (Int32.ofNat i)), .val (.int (Int32.ofNat j)), .val (.int (Int32.ofNat k)), .val (.ref r35), .val .null, .val (.ref b37), .val (.int (1 : Int32))] [(.ref r44)]))
        refine own_go (fun t_ k_ => XS.aload X44.here hx rfl (hb hby at_149) rfl rfl k_) ?_
        show OwnFin p e below s _ _ _ (T44.setTop (mkF m 151 #[.val (.int pp), .val (.int pq), .val (.long qc1), .second, .val (.long qc2), .second, .val (.int ps1), .val (.int ps2), .val (.int (Int32.ofNat n)), .val (.int kd1), .val (.int kd2), .val (.int (Int32.ofNat i)), .val (.int (Int32.ofNat j)), .val (.int (Int32.ofNat k)), .val (.ref r35), .val .null, .val (.ref b37), .val (.int (1 : Int32))] [(.ref r35), (.ref r44)]))
        obtain ⟨v45, T45, L45, X45, hQ45, st45⟩ := own_callS X44 hx hZ (y := (⟨"com/example/nearside/nearside/support/SplitDecimalArraySetPinLaw", "holds", "(Lcom/example/nearside/nearside/support/SplitDecimal;Lcom/example/nearside/nearside/support/SplitDecimal;)Z"⟩ : MethodName)) hown (hw _ (List.mem_of_getElem? (i := 36) rfl)) (hw _ (List.mem_of_getElem? (i := 37) rfl)) (hw _ (List.mem_of_getElem? (i := 2) rfl)) (hw _ (List.mem_of_getElem? (i := 38) rfl)) (by decide) (W := 0) (rm7_C l Z a0 hw [] r44 r35 T44.heap n0 Z44 (own_cw _) Fq44_0 Fq44_1 F_compact_r35_44 F_scale_r35_44) (by decide) (by decide) (g := (mkF m 151 #[.val (.int pp), .val (.int pq), .val (.long qc1), .second, .val (.long qc2), .second, .val (.int ps1), .val (.int ps2), .val (.int (Int32.ofNat n)), .val (.int kd1), .val (.int kd2), .val (.int (Int32.ofNat i)), .val (.int (Int32.ofNat j)), .val (.int (Int32.ofNat k)), .val (.ref r35), .val .null, .val (.ref b37), .val (.int (1 : Int32))] [(.ref r35), (.ref r44)])) rfl (by rw [hml]; rfl) (argsL := [(.ref r44), (.ref r35)]) (rest := []) (lenOf pd_0_6 rfl) rfl (by show 2 * 0 + _ ≤ _; exact Nat.le_of_eq rfl) (hb hby at_151) rfl rfl (by decide) (by decide)
        obtain ⟨rfl, Nq45, e45⟩ := hQ45
        have N45 := Fr.app N44 Nq45
        refine own_go st45 ?_
        show OwnFin p e below s _ _ _ (T45.setTop (mkF m 154 #[.val (.int pp), .val (.int pq), .val (.long qc1), .second, .val (.long qc2), .second, .val (.int ps1), .val (.int ps2), .val (.int (Int32.ofNat n)), .val (.int kd1), .val (.int kd2), .val (.int (Int32.ofNat i)), .val (.int (Int32.ofNat j)), .val (.int (Int32.ofNat k)), .val (.ref r35), .val .null, .val (.ref b37), .val (.int (1 : Int32))] [(.int (1 : Int32))]))
        refine own_go (fun t_ k_ => XS.ifNo X45.here hx rfl (hb hby at_154) rfl ((if0 _ _).trans (feq (by decide)).1) k_) ?_
        show OwnFin p e below s _ _ _ (T45.setTop (mkF m 157 #[.val (.int pp), .val (.int pq), .val (.long qc1), .second, .val (.long qc2), .second, .val (.int ps1), .val (.int ps2), .val (.int (Int32.ofNat n)), .val (.int kd1), .val (.int kd2), .val (.int (Int32.ofNat i)), .val (.int (Int32.ofNat j)), .val (.int (Int32.ofNat k)), .val (.ref r35), .val .null, .val (.ref b37), .val (.int (1 : Int32))] []))
        refine own_go (fun t_ k_ => XS.iconst X45.here hx rfl (hb hby at_157) k_) ?_
        show OwnFin p e below s _ _ _ (T45.setTop (mkF m 158 #[.val (.int pp), .val (.int pq), .val (.long qc1), .second, .val (.long qc2), .second, .val (.int ps1), .val (.int ps2), .val (.int (Int32.ofNat n)), .val (.int kd1), .val (.int kd2), .val (.int (Int32.ofNat i)), .val (.int (Int32.ofNat j)), .val (.int (Int32.ofNat k)), .val (.ref r35), .val .null, .val (.ref b37), .val (.int (1 : Int32))] [(.int (1 : Int32))]))
        refine own_go (fun t_ k_ => XS.goto X45.here hx rfl (pc0 := 158) (pc' := 162) rfl (hb hby at_158) (by decide) (by decide) k_) ?_
        show OwnFin p e below s _ _ _ (T45.setTop (mkF m 162 #[.val (.int pp), .val (.int pq), .val (.long qc1), .second, .val (.long qc2), .second, .val (.int ps1), .val (.int ps2), .val (.int (Int32.ofNat n)), .val (.int kd1), .val (.int kd2), .val (.int (Int32.ofNat i)), .val (.int (Int32.ofNat j)), .val (.int (Int32.ofNat k)), .val (.ref r35), .val .null, .val (.ref b37), .val (.int (1 : Int32))] [(.int (1 : Int32))]))
        refine own_go (fun t_ k_ => XS.istore X45.here hx rfl (hb hby at_162) rfl (l' := #[.val (.int pp), .val (.int pq), .val (.long qc1), .second, .val (.long qc2), .second, .val (.int ps1), .val (.int ps2), .val (.int (Int32.ofNat n)), .val (.int kd1), .val (.int kd2), .val (.int (Int32.ofNat i)), .val (.int (Int32.ofNat j)), .val (.int (Int32.ofNat k)), .val (.ref r35), .val .null, .val (.ref b37), .val (.int (1 : Int32))]) rfl k_) ?_
        show OwnFin p e below s _ _ _ (T45.setTop (mkF m 164 #[.val (.int pp), .val (.int pq), .val (.long qc1), .second, .val (.long qc2), .second, .val (.int ps1), .val (.int ps2), .val (.int (Int32.ofNat n)), .val (.int kd1), .val (.int kd2), .val (.int (Int32.ofNat i)), .val (.int (Int32.ofNat j)), .val (.int (Int32.ofNat k)), .val (.ref r35), .val .null, .val (.ref b37), .val (.int (1 : Int32))] []))
        by_cases hki : k = i
        · refine own_go (fun t_ k_ => XS.iload X45.here hx rfl (hb hby at_164) rfl k_) ?_
          show OwnFin p e below s _ _ _ (T45.setTop (mkF m 166 #[.val (.int pp), .val (.int pq), .val (.long qc1), .second, .val (.long qc2), .second, .val (.int ps1), .val (.int ps2), .val (.int (Int32.ofNat n)), .val (.int kd1), .val (.int kd2), .val (.int (Int32.ofNat i)), .val (.int (Int32.ofNat j)), .val (.int (Int32.ofNat k)), .val (.ref r35), .val .null, .val (.ref b37), .val (.int (1 : Int32))] [(.int (Int32.ofNat k))]))
          refine own_go (fun t_ k_ => XS.iload X45.here hx rfl (hb hby at_166) rfl k_) ?_
          show OwnFin p e below s _ _ _ (T45.setTop (mkF m 168 #[.val (.int pp), .val (.int pq), .val (.long qc1), .second, .val (.long qc2), .second, .val (.int ps1), .val (.int ps2), .val (.int (Int32.ofNat n)), .val (.int kd1), .val (.int kd2), .val (.int (Int32.ofNat i)), .val (.int (Int32.ofNat j)), .val (.int (Int32.ofNat k)), .val (.ref r35), .val .null, .val (.ref b37), .val (.int (1 : Int32))] [(.int (Int32.ofNat i)), (.int (Int32.ofNat k))]))
          have hc168 : (Int32.ofNat k) = (Int32.ofNat i) := by rw [hki]
          refine own_go (fun t_ k_ => XS.icmpYes X45.here hx rfl (pc0 := 168) (pc' := 200) rfl (hb hby at_168) rfl (teq hc168).1 (by decide) (by decide) k_) ?_
          show OwnFin p e below s _ _ _ (T45.setTop (mkF m 200 #[.val (.int pp), .val (.int pq), .val (.long qc1), .second, .val (.long qc2), .second, .val (.int ps1), .val (.int ps2), .val (.int (Int32.ofNat n)), .val (.int kd1), .val (.int kd2), .val (.int (Int32.ofNat i)), .val (.int (Int32.ofNat j)), .val (.int (Int32.ofNat k)), .val (.ref r35), .val .null, .val (.ref b37), .val (.int (1 : Int32))] []))
          refine own_go (fun t_ k_ => XS.iload X45.here hx rfl (hb hby at_200) rfl k_) ?_
          show OwnFin p e below s _ _ _ (T45.setTop (mkF m 202 #[.val (.int pp), .val (.int pq), .val (.long qc1), .second, .val (.long qc2), .second, .val (.int ps1), .val (.int ps2), .val (.int (Int32.ofNat n)), .val (.int kd1), .val (.int kd2), .val (.int (Int32.ofNat i)), .val (.int (Int32.ofNat j)), .val (.int (Int32.ofNat k)), .val (.ref r35), .val .null, .val (.ref b37), .val (.int (1 : Int32))] [(.int (1 : Int32))]))
          refine own_ret X45 (v := some (.int (1 : Int32))) hlk (fun hh => by rw [hret] at hh; cases hh) (fun fs hr => retN X45 hx (t := .boolean) hret (by simp) (hb hby at_202) hr) (by decide) (by decide) ?_
          exact ⟨rfl, N45⟩
        · refine own_go (fun t_ k_ => XS.iload X45.here hx rfl (hb hby at_164) rfl k_) ?_
          show OwnFin p e below s _ _ _ (T45.setTop (mkF m 166 #[.val (.int pp), .val (.int pq), .val (.long qc1), .second, .val (.long qc2), .second, .val (.int ps1), .val (.int ps2), .val (.int (Int32.ofNat n)), .val (.int kd1), .val (.int kd2), .val (.int (Int32.ofNat i)), .val (.int (Int32.ofNat j)), .val (.int (Int32.ofNat k)), .val (.ref r35), .val .null, .val (.ref b37), .val (.int (1 : Int32))] [(.int (Int32.ofNat k))]))
          refine own_go (fun t_ k_ => XS.iload X45.here hx rfl (hb hby at_166) rfl k_) ?_
          show OwnFin p e below s _ _ _ (T45.setTop (mkF m 168 #[.val (.int pp), .val (.int pq), .val (.long qc1), .second, .val (.long qc2), .second, .val (.int ps1), .val (.int ps2), .val (.int (Int32.ofNat n)), .val (.int kd1), .val (.int kd2), .val (.int (Int32.ofNat i)), .val (.int (Int32.ofNat j)), .val (.int (Int32.ofNat k)), .val (.ref r35), .val .null, .val (.ref b37), .val (.int (1 : Int32))] [(.int (Int32.ofNat i)), (.int (Int32.ofNat k))]))
          have hc168 : ¬ ((Int32.ofNat k) = (Int32.ofNat i)) := fun q => hki (own_ofNat_inj (by omega) (by omega) q)
          refine own_go (fun t_ k_ => XS.icmpNo X45.here hx rfl (hb hby at_168) rfl (feq hc168).1 k_) ?_
          show OwnFin p e below s _ _ _ (T45.setTop (mkF m 171 #[.val (.int pp), .val (.int pq), .val (.long qc1), .second, .val (.long qc2), .second, .val (.int ps1), .val (.int ps2), .val (.int (Int32.ofNat n)), .val (.int kd1), .val (.int kd2), .val (.int (Int32.ofNat i)), .val (.int (Int32.ofNat j)), .val (.int (Int32.ofNat k)), .val (.ref r35), .val .null, .val (.ref b37), .val (.int (1 : Int32))] []))
          by_cases hkj : k = j
          · refine own_go (fun t_ k_ => XS.iload X45.here hx rfl (hb hby at_171) rfl k_) ?_
            show OwnFin p e below s _ _ _ (T45.setTop (mkF m 173 #[.val (.int pp), .val (.int pq), .val (.long qc1), .second, .val (.long qc2), .second, .val (.int ps1), .val (.int ps2), .val (.int (Int32.ofNat n)), .val (.int kd1), .val (.int kd2), .val (.int (Int32.ofNat i)), .val (.int (Int32.ofNat j)), .val (.int (Int32.ofNat k)), .val (.ref r35), .val .null, .val (.ref b37), .val (.int (1 : Int32))] [(.int (Int32.ofNat k))]))
            refine own_go (fun t_ k_ => XS.iload X45.here hx rfl (hb hby at_173) rfl k_) ?_
            show OwnFin p e below s _ _ _ (T45.setTop (mkF m 175 #[.val (.int pp), .val (.int pq), .val (.long qc1), .second, .val (.long qc2), .second, .val (.int ps1), .val (.int ps2), .val (.int (Int32.ofNat n)), .val (.int kd1), .val (.int kd2), .val (.int (Int32.ofNat i)), .val (.int (Int32.ofNat j)), .val (.int (Int32.ofNat k)), .val (.ref r35), .val .null, .val (.ref b37), .val (.int (1 : Int32))] [(.int (Int32.ofNat j)), (.int (Int32.ofNat k))]))
            have hc175 : (Int32.ofNat k) = (Int32.ofNat j) := by rw [hkj]
            refine own_go (fun t_ k_ => XS.icmpYes X45.here hx rfl (pc0 := 175) (pc' := 200) rfl (hb hby at_175) rfl (teq hc175).1 (by decide) (by decide) k_) ?_
            show OwnFin p e below s _ _ _ (T45.setTop (mkF m 200 #[.val (.int pp), .val (.int pq), .val (.long qc1), .second, .val (.long qc2), .second, .val (.int ps1), .val (.int ps2), .val (.int (Int32.ofNat n)), .val (.int kd1), .val (.int kd2), .val (.int (Int32.ofNat i)), .val (.int (Int32.ofNat j)), .val (.int (Int32.ofNat k)), .val (.ref r35), .val .null, .val (.ref b37), .val (.int (1 : Int32))] []))
            refine own_go (fun t_ k_ => XS.iload X45.here hx rfl (hb hby at_200) rfl k_) ?_
            show OwnFin p e below s _ _ _ (T45.setTop (mkF m 202 #[.val (.int pp), .val (.int pq), .val (.long qc1), .second, .val (.long qc2), .second, .val (.int ps1), .val (.int ps2), .val (.int (Int32.ofNat n)), .val (.int kd1), .val (.int kd2), .val (.int (Int32.ofNat i)), .val (.int (Int32.ofNat j)), .val (.int (Int32.ofNat k)), .val (.ref r35), .val .null, .val (.ref b37), .val (.int (1 : Int32))] [(.int (1 : Int32))]))
            refine own_ret X45 (v := some (.int (1 : Int32))) hlk (fun hh => by rw [hret] at hh; cases hh) (fun fs hr => retN X45 hx (t := .boolean) hret (by simp) (hb hby at_202) hr) (by decide) (by decide) ?_
            exact ⟨rfl, N45⟩
          · refine own_go (fun t_ k_ => XS.iload X45.here hx rfl (hb hby at_171) rfl k_) ?_
            show OwnFin p e below s _ _ _ (T45.setTop (mkF m 173 #[.val (.int pp), .val (.int pq), .val (.long qc1), .second, .val (.long qc2), .second, .val (.int ps1), .val (.int ps2), .val (.int (Int32.ofNat n)), .val (.int kd1), .val (.int kd2), .val (.int (Int32.ofNat i)), .val (.int (Int32.ofNat j)), .val (.int (Int32.ofNat k)), .val (.ref r35), .val .null, .val (.ref b37), .val (.int (1 : Int32))] [(.int (Int32.ofNat k))]))
            refine own_go (fun t_ k_ => XS.iload X45.here hx rfl (hb hby at_173) rfl k_) ?_
            show OwnFin p e below s _ _ _ (T45.setTop (mkF m 175 #[.val (.int pp), .val (.int pq), .val (.long qc1), .second, .val (.long qc2), .second, .val (.int ps1), .val (.int ps2), .val (.int (Int32.ofNat n)), .val (.int kd1), .val (.int kd2), .val (.int (Int32.ofNat i)), .val (.int (Int32.ofNat j)), .val (.int (Int32.ofNat k)), .val (.ref r35), .val .null, .val (.ref b37), .val (.int (1 : Int32))] [(.int (Int32.ofNat j)), (.int (Int32.ofNat k))]))
            have hc175 : ¬ ((Int32.ofNat k) = (Int32.ofNat j)) := fun q => hkj (own_ofNat_inj (by omega) (by omega) q)
            refine own_go (fun t_ k_ => XS.icmpNo X45.here hx rfl (hb hby at_175) rfl (feq hc175).1 k_) ?_
            show OwnFin p e below s _ _ _ (T45.setTop (mkF m 178 #[.val (.int pp), .val (.int pq), .val (.long qc1), .second, .val (.long qc2), .second, .val (.int ps1), .val (.int ps2), .val (.int (Int32.ofNat n)), .val (.int kd1), .val (.int kd2), .val (.int (Int32.ofNat i)), .val (.int (Int32.ofNat j)), .val (.int (Int32.ofNat k)), .val (.ref r35), .val .null, .val (.ref b37), .val (.int (1 : Int32))] []))
            refine own_go (fun t_ k_ => XS.iload X45.here hx rfl (hb hby at_178) rfl k_) ?_
            show OwnFin p e below s _ _ _ (T45.setTop (mkF m 180 #[.val (.int pp), .val (.int pq), .val (.long qc1), .second, .val (.long qc2), .second, .val (.int ps1), .val (.int ps2), .val (.int (Int32.ofNat n)), .val (.int kd1), .val (.int kd2), .val (.int (Int32.ofNat i)), .val (.int (Int32.ofNat j)), .val (.int (Int32.ofNat k)), .val (.ref r35), .val .null, .val (.ref b37), .val (.int (1 : Int32))] [(.int (1 : Int32))]))
            refine own_go (fun t_ k_ => XS.ifNo X45.here hx rfl (hb hby at_180) rfl ((if0 _ _).trans (feq (by decide)).1) k_) ?_
            show OwnFin p e below s _ _ _ (T45.setTop (mkF m 183 #[.val (.int pp), .val (.int pq), .val (.long qc1), .second, .val (.long qc2), .second, .val (.int ps1), .val (.int ps2), .val (.int (Int32.ofNat n)), .val (.int kd1), .val (.int kd2), .val (.int (Int32.ofNat i)), .val (.int (Int32.ofNat j)), .val (.int (Int32.ofNat k)), .val (.ref r35), .val .null, .val (.ref b37), .val (.int (1 : Int32))] []))
            refine own_go (fun t_ k_ => XS.aload X45.here hx rfl (hb hby at_183) rfl rfl k_) ?_
            show OwnFin p e below s _ _ _ (T45.setTop (mkF m 185 #[.val (.int pp), .val (.int pq), .val (.long qc1), .second, .val (.long qc2), .second, .val (.int ps1), .val (.int ps2), .val (.int (Int32.ofNat n)), .val (.int kd1), .val (.int kd2), .val (.int (Int32.ofNat i)), .val (.int (Int32.ofNat j)), .val (.int (Int32.ofNat k)), .val (.ref r35), .val .null, .val (.ref b37), .val (.int (1 : Int32))] [(.ref b37)]))
            refine own_go (fun t_ k_ => XS.iload X45.here hx rfl (hb hby at_185) rfl k_) ?_
            show OwnFin p e below s _ _ _ (T45.setTop (mkF m 187 #[.val (.int pp), .val (.int pq), .val (.long qc1), .second, .val (.long qc2), .second, .val (.int ps1), .val (.int ps2), .val (.int (Int32.ofNat n)), .val (.int kd1), .val (.int kd2), .val (.int (Int32.ofNat i)), .val (.int (Int32.ofNat j)), .val (.int (Int32.ofNat k)), .val (.ref r35), .val .null, .val (.ref b37), .val (.int (1 : Int32))] [(.int (Int32.ofNat k)), (.ref b37)]))
            obtain ⟨v46, T46, L46, X46, hQ46, st46⟩ := own_callV X45 hx hZ (y := (⟨"com/example/nearside/nearside/support/SplitDecimalArray", "get", "(I)Lcom/example/nearside/nearside/support/SplitDecimal;"⟩ : MethodName)) (z := (⟨"com/example/nearside/nearside/support/SplitDecimalArray", "get", "(I)Lcom/example/nearside/nearside/support/SplitDecimal;"⟩ : MethodName)) hown (hw _ (List.mem_of_getElem? (i := 31) rfl)) (hw _ (List.mem_of_getElem? (i := 32) rfl)) (notFace_of_selects (args := #[]) (mvT hZ (hw _ (List.mem_of_getElem? (i := 34) rfl)))) (hw _ (List.mem_of_getElem? (i := 34) rfl)) (hw _ (List.mem_of_getElem? (i := 33) rfl)) (hw _ (List.mem_of_getElem? (i := 6) rfl)) (hw _ (List.mem_of_getElem? (i := 35) rfl)) (by decide) (W := 0) (rm6_N l Z a0 hw [] b37 (Int32.ofNat k) ca n k (fun z => if z = j then (-9223372036854775808 : Int64) else (fun z => if z = i then (own_c qc1) else (fun _ => (-9223372036854775808 : Int64)) z) z) T44.heap n0 Z44 rfl hkn F_compact_44 F_whole_44 Vc40_44 (by (try dsimp only); rw [if_neg hkj, if_neg hki])) (by decide) (by decide) E_ao_44 (g := (mkF m 187 #[.val (.int pp), .val (.int pq), .val (.long qc1), .second, .val (.long qc2), .second, .val (.int ps1), .val (.int ps2), .val (.int (Int32.ofNat n)), .val (.int kd1), .val (.int kd2), .val (.int (Int32.ofNat i)), .val (.int (Int32.ofNat j)), .val (.int (Int32.ofNat k)), .val (.ref r35), .val .null, .val (.ref b37), .val (.int (1 : Int32))] [(.int (Int32.ofNat k)), (.ref b37)])) rfl (by rw [hml]; rfl) (argsL := [(.int (Int32.ofNat k))]) (rest := []) (lenOf pd_0_5 rfl) rfl (by show 2 * 0 + _ ≤ _; exact Nat.le_of_eq rfl) (hb hby at_187) e45 rfl (by decide) (by decide)
            obtain ⟨rfl, Nq46, e46⟩ := hQ46
            have N46 := Fr.app N45 Nq46
            refine own_go st46 ?_
            show OwnFin p e below s _ _ _ (T46.setTop (mkF m 190 #[.val (.int pp), .val (.int pq), .val (.long qc1), .second, .val (.long qc2), .second, .val (.int ps1), .val (.int ps2), .val (.int (Int32.ofNat n)), .val (.int kd1), .val (.int kd2), .val (.int (Int32.ofNat i)), .val (.int (Int32.ofNat j)), .val (.int (Int32.ofNat k)), .val (.ref r35), .val .null, .val (.ref b37), .val (.int (1 : Int32))] [.null]))
            refine own_go (fun t_ k_ => XS.ifnonnullNo X46.here hx rfl (hb hby at_190) rfl k_) ?_
            show OwnFin p e below s _ _ _ (T46.setTop (mkF m 193 #[.val (.int pp), .val (.int pq), .val (.long qc1), .second, .val (.long qc2), .second, .val (.int ps1), .val (.int ps2), .val (.int (Int32.ofNat n)), .val (.int kd1), .val (.int kd2), .val (.int (Int32.ofNat i)), .val (.int (Int32.ofNat j)), .val (.int (Int32.ofNat k)), .val (.ref r35), .val .null, .val (.ref b37), .val (.int (1 : Int32))] []))
            refine own_go (fun t_ k_ => XS.iconst X46.here hx rfl (hb hby at_193) k_) ?_
            show OwnFin p e below s _ _ _ (T46.setTop (mkF m 194 #[.val (.int pp), .val (.int pq), .val (.long qc1), .second, .val (.long qc2), .second, .val (.int ps1), .val (.int ps2), .val (.int (Int32.ofNat n)), .val (.int kd1), .val (.int kd2), .val (.int (Int32.ofNat i)), .val (.int (Int32.ofNat j)), .val (.int (Int32.ofNat k)), .val (.ref r35), .val .null, .val (.ref b37), .val (.int (1 : Int32))] [(.int (1 : Int32))]))
            refine own_go (fun t_ k_ => XS.goto X46.here hx rfl (pc0 := 194) (pc' := 198) rfl (hb hby at_194) (by decide) (by decide) k_) ?_
            show OwnFin p e below s _ _ _ (T46.setTop (mkF m 198 #[.val (.int pp), .val (.int pq), .val (.long qc1), .second, .val (.long qc2), .second, .val (.int ps1), .val (.int ps2), .val (.int (Int32.ofNat n)), .val (.int kd1), .val (.int kd2), .val (.int (Int32.ofNat i)), .val (.int (Int32.ofNat j)), .val (.int (Int32.ofNat k)), .val (.ref r35), .val .null, .val (.ref b37), .val (.int (1 : Int32))] [(.int (1 : Int32))]))
            refine own_go (fun t_ k_ => XS.istore X46.here hx rfl (hb hby at_198) rfl (l' := #[.val (.int pp), .val (.int pq), .val (.long qc1), .second, .val (.long qc2), .second, .val (.int ps1), .val (.int ps2), .val (.int (Int32.ofNat n)), .val (.int kd1), .val (.int kd2), .val (.int (Int32.ofNat i)), .val (.int (Int32.ofNat j)), .val (.int (Int32.ofNat k)), .val (.ref r35), .val .null, .val (.ref b37), .val (.int (1 : Int32))]) rfl k_) ?_
            show OwnFin p e below s _ _ _ (T46.setTop (mkF m 200 #[.val (.int pp), .val (.int pq), .val (.long qc1), .second, .val (.long qc2), .second, .val (.int ps1), .val (.int ps2), .val (.int (Int32.ofNat n)), .val (.int kd1), .val (.int kd2), .val (.int (Int32.ofNat i)), .val (.int (Int32.ofNat j)), .val (.int (Int32.ofNat k)), .val (.ref r35), .val .null, .val (.ref b37), .val (.int (1 : Int32))] []))
            refine own_go (fun t_ k_ => XS.iload X46.here hx rfl (hb hby at_200) rfl k_) ?_
            show OwnFin p e below s _ _ _ (T46.setTop (mkF m 202 #[.val (.int pp), .val (.int pq), .val (.long qc1), .second, .val (.long qc2), .second, .val (.int ps1), .val (.int ps2), .val (.int (Int32.ofNat n)), .val (.int kd1), .val (.int kd2), .val (.int (Int32.ofNat i)), .val (.int (Int32.ofNat j)), .val (.int (Int32.ofNat k)), .val (.ref r35), .val .null, .val (.ref b37), .val (.int (1 : Int32))] [(.int (1 : Int32))]))
            refine own_ret X46 (v := some (.int (1 : Int32))) hlk (fun hh => by rw [hret] at hh; cases hh) (fun fs hr => retN X46 hx (t := .boolean) hret (by simp) (hb hby at_202) hr) (by decide) (by decide) ?_
            exact ⟨rfl, N46⟩
    by_cases ho2 : kd2 = (1 : Int32)
    · refine own_go (fun t_ k_ => XS.iload X35.here hx rfl (hb hby at_76) rfl k_) ?_
      show OwnFin p e below s _ _ _ (T35.setTop (mkF m 78 #[.val (.int pp), .val (.int pq), .val (.long qc1), .second, .val (.long qc2), .second, .val (.int ps1), .val (.int ps2), .val (.int (Int32.ofNat n)), .val (.int kd1), .val (.int kd2), .val (.int (Int32.ofNat i)), .val (.int (Int32.ofNat j)), .val (.int (Int32.ofNat k)), .val (.ref r35), .unset, .unset, .unset] [(.int kd2)]))
      refine own_go (fun t_ k_ => XS.lload X35.here hx rfl (hb hby at_78) rfl k_) ?_
      show OwnFin p e below s _ _ _ (T35.setTop (mkF m 80 #[.val (.int pp), .val (.int pq), .val (.long qc1), .second, .val (.long qc2), .second, .val (.int ps1), .val (.int ps2), .val (.int (Int32.ofNat n)), .val (.int kd1), .val (.int kd2), .val (.int (Int32.ofNat i)), .val (.int (Int32.ofNat j)), .val (.int (Int32.ofNat k)), .val (.ref r35), .unset, .unset, .unset] [(.long qc2), (.int kd2)]))
      refine own_go (fun t_ k_ => XS.iload X35.here hx rfl (hb hby at_80) rfl k_) ?_
      show OwnFin p e below s _ _ _ (T35.setTop (mkF m 82 #[.val (.int pp), .val (.int pq), .val (.long qc1), .second, .val (.long qc2), .second, .val (.int ps1), .val (.int ps2), .val (.int (Int32.ofNat n)), .val (.int kd1), .val (.int kd2), .val (.int (Int32.ofNat i)), .val (.int (Int32.ofNat j)), .val (.int (Int32.ofNat k)), .val (.ref r35), .unset, .unset, .unset] [(.int ps2), (.long qc2), (.int kd2)]))
      obtain ⟨v47, T47, L47, X47, hQ47, st47⟩ := own_callS X35 hx hZ (y := (⟨"com/example/nearside/nearside/support/SplitDecimalArraySetPinLaw", "make", "(IJI)Lcom/example/nearside/nearside/support/SplitDecimal;"⟩ : MethodName)) hown (hw _ (List.mem_of_getElem? (i := 0) rfl)) (hw _ (List.mem_of_getElem? (i := 1) rfl)) (hw _ (List.mem_of_getElem? (i := 2) rfl)) (hw _ (List.mem_of_getElem? (i := 3) rfl)) (by decide) (W := 0) (rm1_1 l Z a0 hw [] kd2 qc2 ps2 T35.heap n0 Z35 ho2) (by decide) (by decide) (g := (mkF m 82 #[.val (.int pp), .val (.int pq), .val (.long qc1), .second, .val (.long qc2), .second, .val (.int ps1), .val (.int ps2), .val (.int (Int32.ofNat n)), .val (.int kd1), .val (.int kd2), .val (.int (Int32.ofNat i)), .val (.int (Int32.ofNat j)), .val (.int (Int32.ofNat k)), .val (.ref r35), .unset, .unset, .unset] [(.int ps2), (.long qc2), (.int kd2)])) rfl (by rw [hml]; rfl) (argsL := [(.int kd2), (.long qc2), (.int ps2)]) (rest := []) (lenOf pd_0_0 rfl) rfl (by show 2 * 0 + _ ≤ _; exact Nat.le_of_eq rfl) (hb hby at_82) rfl rfl (by decide) (by decide)
      obtain ⟨r47, rfl, Nq47, Kq47, sq47, Eq47, Fq47_0, Fq47_1⟩ := hQ47
      have N47 := Fr.app N35 Nq47
      have g_r47 : n0 ≤ r47 := Nat.le_trans Z35 sq47
      have ne_r35_r47 : r35 ≠ r47 := Nat.ne_of_lt (Nat.lt_of_lt_of_le Eq35.lt sq47)
      have E_r35_47 := Eq35.keep Kq47
      have F_compact_r35_47 := Fq35_0.keep Kq47 nin0
      have F_scale_r35_47 := Fq35_1.keep Kq47 nin0
      have Z47 : n0 ≤ T47.heap.size := Nat.le_trans Z35 Kq47.1
      refine own_go st47 ?_
      show OwnFin p e below s _ _ _ (T47.setTop (mkF m 85 #[.val (.int pp), .val (.int pq), .val (.long qc1), .second, .val (.long qc2), .second, .val (.int ps1), .val (.int ps2), .val (.int (Int32.ofNat n)), .val (.int kd1), .val (.int kd2), .val (.int (Int32.ofNat i)), .val (.int (Int32.ofNat j)), .val (.int (Int32.ofNat k)), .val (.ref r35), .unset, .unset, .unset] [(.ref r47)]))
      refine own_go (fun t_ k_ => XS.astore X47.here hx rfl (hb hby at_85) rfl rfl (l' := #[.val (.int pp), .val (.int pq), .val (.long qc1), .second, .val (.long qc2), .second, .val (.int ps1), .val (.int ps2), .val (.int (Int32.ofNat n)), .val (.int kd1), .val (.int kd2), .val (.int (Int32.ofNat i)), .val (.int (Int32.ofNat j)), .val (.int (Int32.ofNat k)), .val (.ref r35), .val (.ref r47), .unset, .unset]) rfl k_) ?_
      show OwnFin p e below s _ _ _ (T47.setTop (mkF m 87 #[.val (.int pp), .val (.int pq), .val (.long qc1), .second, .val (.long qc2), .second, .val (.int ps1), .val (.int ps2), .val (.int (Int32.ofNat n)), .val (.int kd1), .val (.int kd2), .val (.int (Int32.ofNat i)), .val (.int (Int32.ofNat j)), .val (.int (Int32.ofNat k)), .val (.ref r35), .val (.ref r47), .unset, .unset] []))
      obtain ⟨T48, h48, X48, e48, E48, A48, D48, -, st48⟩ := newO X47 hx hZ hown (hw _ (List.mem_of_getElem? (i := 4) rfl)) (hw _ (List.mem_of_getElem? (i := 5) rfl)) (hw _ (List.mem_of_getElem? (i := 6) rfl)) rfl (g := (mkF m 87 #[.val (.int pp), .val (.int pq), .val (.long qc1), .second, .val (.long qc2), .second, .val (.int ps1), .val (.int ps2), .val (.int (Int32.ofNat n)), .val (.int kd1), .val (.int kd2), .val (.int (Int32.ofNat i)), .val (.int (Int32.ofNat j)), .val (.int (Int32.ofNat k)), .val (.ref r35), .val (.ref r47), .unset, .unset] [])) rfl (hb hby at_87) (by decide) (by decide)
      obtain ⟨b48, g48⟩ : ∃ z, z = T47.heap.size := ⟨_, rfl⟩
      rw [← g48] at A48 D48 st48
      have g_b48 : n0 ≤ b48 := Nat.le_trans Z47 (Nat.le_of_eq g48.symm)
      have ne_r35_b48 : r35 ≠ b48 := Nat.ne_of_lt (Nat.lt_of_lt_of_le E_r35_47.lt (Nat.le_of_eq g48.symm))
      have ne_r47_b48 : r47 ≠ b48 := Nat.ne_of_lt (Nat.lt_of_lt_of_le Eq47.lt (Nat.le_of_eq g48.symm))
      have E_r35_48 := E_r35_47.ext E48
      have F_compact_r35_48 := F_compact_r35_47.ext E48
      have F_scale_r35_48 := F_scale_r35_47.ext E48
      have E_r47_48 := Eq47.ext E48
      have F_compact_r47_48 := Fq47_0.ext E48
      have F_scale_r47_48 := Fq47_1.ext E48
      have Z48 : n0 ≤ h48.size := Nat.le_trans Z47 E48.1
      have E_b48 := A48
      have F_compact_b48 : Fld Z h48 b48 "com/example/nearside/nearside/support/SplitDecimalArray" "compact" "[J" .null := D48 (Or.inr (hw _ (List.mem_of_getElem? (i := 15) rfl))) (ty := (.array .long)) (by decide)
      have F_scale_b48 : Fld Z h48 b48 "com/example/nearside/nearside/support/SplitDecimalArray" "scale" "[I" .null := D48 (Or.inr (hw _ (List.mem_of_getElem? (i := 18) rfl))) (ty := (.array .int)) (by decide)
      have F_whole_b48 : Fld Z h48 b48 "com/example/nearside/nearside/support/SplitDecimalArray" "whole" "[Lcom/example/nearside/nearside/support/SplitDecimal;" .null := D48 (Or.inl (hw _ (List.mem_of_getElem? (i := 30) rfl))) (ty := (.array (.object "com/example/nearside/nearside/support/SplitDecimal"))) (by decide)
      refine own_go st48 ?_
      show OwnFin p e below s _ _ _ (T48.setTop (mkF m 90 #[.val (.int pp), .val (.int pq), .val (.long qc1), .second, .val (.long qc2), .second, .val (.int ps1), .val (.int ps2), .val (.int (Int32.ofNat n)), .val (.int kd1), .val (.int kd2), .val (.int (Int32.ofNat i)), .val (.int (Int32.ofNat j)), .val (.int (Int32.ofNat k)), .val (.ref r35), .val (.ref r47), .unset, .unset] [(.ref b48)]))
      refine own_go (fun t_ k_ => XS.dup X48.here hx rfl (hb hby at_90) rfl rfl k_) ?_
      show OwnFin p e below s _ _ _ (T48.setTop (mkF m 91 #[.val (.int pp), .val (.int pq), .val (.long qc1), .second, .val (.long qc2), .second, .val (.int ps1), .val (.int ps2), .val (.int (Int32.ofNat n)), .val (.int kd1), .val (.int kd2), .val (.int (Int32.ofNat i)), .val (.int (Int32.ofNat j)), .val (.int (Int32.ofNat k)), .val (.ref r35), .val (.ref r47), .unset, .unset] [(.ref b48), (.ref b48)]))
      refine own_go (fun t_ k_ => XS.iload X48.here hx rfl (hb hby at_91) rfl k_) ?_
      show OwnFin p e below s _ _ _ (T48.setTop (mkF m 93 #[.val (.int pp), .val (.int pq), .val (.long qc1), .second, .val (.long qc2), .second, .val (.int ps1), .val (.int ps2), .val (.int (Int32.ofNat n)), .val (.int kd1), .val (.int kd2), .val (.int (Int32.ofNat i)), .val (.int (Int32.ofNat j)), .val (.int (Int32.ofNat k)), .val (.ref r35), .val (.ref r47), .unset, .unset] [(.int (Int32.ofNat n)), (.ref b48), (.ref b48)]))
      obtain ⟨v49, T49, L49, X49, hQ49, st49⟩ := own_callI X48 hx hZ (y := (⟨"com/example/nearside/nearside/support/SplitDecimalArray", "<init>", "(I)V"⟩ : MethodName)) rfl hown (hw _ (List.mem_of_getElem? (i := 7) rfl)) (hw _ (List.mem_of_getElem? (i := 8) rfl)) (hw _ (List.mem_of_getElem? (i := 6) rfl)) (hw _ (List.mem_of_getElem? (i := 9) rfl)) (by decide) (W := 1) (rm2 l Z a0 hw [] b48 (Int32.ofNat n) n h48 n0 Z48 rfl hn4 E_b48 g_b48 F_compact_b48 F_scale_b48 F_whole_b48) (by decide) (by decide) (g := (mkF m 93 #[.val (.int pp), .val (.int pq), .val (.long qc1), .second, .val (.long qc2), .second, .val (.int ps1), .val (.int ps2), .val (.int (Int32.ofNat n)), .val (.int kd1), .val (.int kd2), .val (.int (Int32.ofNat i)), .val (.int (Int32.ofNat j)), .val (.int (Int32.ofNat k)), .val (.ref r35), .val (.ref r47), .unset, .unset] [(.int (Int32.ofNat n)), (.ref b48), (.ref b48)])) rfl (by rw [hml]; rfl) (a := b48) (argsL := [(.int (Int32.ofNat n))]) (rest := [(.ref b48)]) (lenOf pd_0_1 rfl) rfl (by show 2 * 0 + _ ≤ _; exact Nat.le_of_eq rfl) (hb hby at_93) e48 rfl (by decide) (by decide)
      obtain ⟨rfl, Nq49, Kq49, E_ao, ca, sc, sz1, sz2, ne_ca_sc, F_compact, F_scale, F_whole, V_ca, V_sc⟩ := hQ49
      have N49 := Fr.app N47 Nq49
      have g_ca : n0 ≤ ca := Nat.le_trans Z48 sz1
      have g_sc : n0 ≤ sc := Nat.le_trans Z48 sz2
      have ne_r35_ca : r35 ≠ ca := Nat.ne_of_lt (Nat.lt_of_lt_of_le E_r35_48.lt sz1)
      have ne_r35_sc : r35 ≠ sc := Nat.ne_of_lt (Nat.lt_of_lt_of_le E_r35_48.lt sz2)
      have ne_r47_ca : r47 ≠ ca := Nat.ne_of_lt (Nat.lt_of_lt_of_le E_r47_48.lt sz1)
      have ne_r47_sc : r47 ≠ sc := Nat.ne_of_lt (Nat.lt_of_lt_of_le E_r47_48.lt sz2)
      have ne_b48_ca : b48 ≠ ca := Nat.ne_of_lt (Nat.lt_of_lt_of_le E_b48.lt sz1)
      have ne_b48_sc : b48 ≠ sc := Nat.ne_of_lt (Nat.lt_of_lt_of_le E_b48.lt sz2)
      have E_r35_49 := E_r35_48.keep Kq49
      have F_compact_r35_49 := F_compact_r35_48.keep Kq49 (ninS ne_r35_b48 nin0)
      have F_scale_r35_49 := F_scale_r35_48.keep Kq49 (ninS ne_r35_b48 nin0)
      have E_r47_49 := E_r47_48.keep Kq49
      have F_compact_r47_49 := F_compact_r47_48.keep Kq49 (ninS ne_r47_b48 nin0)
      have F_scale_r47_49 := F_scale_r47_48.keep Kq49 (ninS ne_r47_b48 nin0)
      have E_b48_49 := E_b48.keep Kq49
      have Z49 : n0 ≤ T49.heap.size := Nat.le_trans Z48 Kq49.1
      refine own_go st49 ?_
      show OwnFin p e below s _ _ _ (T49.setTop (mkF m 96 #[.val (.int pp), .val (.int pq), .val (.long qc1), .second, .val (.long qc2), .second, .val (.int ps1), .val (.int ps2), .val (.int (Int32.ofNat n)), .val (.int kd1), .val (.int kd2), .val (.int (Int32.ofNat i)), .val (.int (Int32.ofNat j)), .val (.int (Int32.ofNat k)), .val (.ref r35), .val (.ref r47), .unset, .unset] [(.ref b48)]))
      refine own_go (fun t_ k_ => XS.astore X49.here hx rfl (hb hby at_96) rfl rfl (l' := #[.val (.int pp), .val (.int pq), .val (.long qc1), .second, .val (.long qc2), .second, .val (.int ps1), .val (.int ps2), .val (.int (Int32.ofNat n)), .val (.int kd1), .val (.int kd2), .val (.int (Int32.ofNat i)), .val (.int (Int32.ofNat j)), .val (.int (Int32.ofNat k)), .val (.ref r35), .val (.ref r47), .val (.ref b48), .unset]) rfl k_) ?_
      show OwnFin p e below s _ _ _ (T49.setTop (mkF m 98 #[.val (.int pp), .val (.int pq), .val (.long qc1), .second, .val (.long qc2), .second, .val (.int ps1), .val (.int ps2), .val (.int (Int32.ofNat n)), .val (.int kd1), .val (.int kd2), .val (.int (Int32.ofNat i)), .val (.int (Int32.ofNat j)), .val (.int (Int32.ofNat k)), .val (.ref r35), .val (.ref r47), .val (.ref b48), .unset] []))
      refine own_go (fun t_ k_ => XS.aload X49.here hx rfl (hb hby at_98) rfl rfl k_) ?_
      show OwnFin p e below s _ _ _ (T49.setTop (mkF m 100 #[.val (.int pp), .val (.int pq), .val (.long qc1), .second, .val (.long qc2), .second, .val (.int ps1), .val (.int ps2), .val (.int (Int32.ofNat n)), .val (.int kd1), .val (.int kd2), .val (.int (Int32.ofNat i)), .val (.int (Int32.ofNat j)), .val (.int (Int32.ofNat k)), .val (.ref r35), .val (.ref r47), .val (.ref b48), .unset] [(.ref b48)]))
      refine own_go (fun t_ k_ => XS.iload X49.here hx rfl (hb hby at_100) rfl k_) ?_
      show OwnFin p e below s _ _ _ (T49.setTop (mkF m 102 #[.val (.int pp), .val (.int pq), .val (.long qc1), .second, .val (.long qc2), .second, .val (.int ps1), .val (.int ps2), .val (.int (Int32.ofNat n)), .val (.int kd1), .val (.int kd2), .val (.int (Int32.ofNat i)), .val (.int (Int32.ofNat j)), .val (.int (Int32.ofNat k)), .val (.ref r35), .val (.ref r47), .val (.ref b48), .unset] [(.int (Int32.ofNat i)), (.ref b48)]))
      refine own_go (fun t_ k_ => XS.aload X49.here hx rfl (hb hby at_102) rfl rfl k_) ?_
      show OwnFin p e below s _ _ _ (T49.setTop (mkF m 104 #[.val (.int pp), .val (.int pq), .val (.long qc1), .second, .val (.long qc2), .second, .val (.int ps1), .val (.int ps2), .val (.int (Int32.ofNat n)), .val (.int kd1), .val (.int kd2), .val (.int (Int32.ofNat i)), .val (.int (Int32.ofNat j)), .val (.int (Int32.ofNat k)), .val (.ref r35), .val (.ref r47), .val (.ref b48), .unset] [(.ref r35), (.int (Int32.ofNat i)), (.ref b48)]))
      obtain ⟨v50, T50, L50, X50, hQ50, st50⟩ := own_callV X49 hx hZ (y := (⟨"com/example/nearside/nearside/support/SplitDecimalArray", "set", "(ILcom/example/nearside/nearside/support/SplitDecimal;)V"⟩ : MethodName)) (z := (⟨"com/example/nearside/nearside/support/SplitDecimalArray", "set", "(ILcom/example/nearside/nearside/support/SplitDecimal;)V"⟩ : MethodName)) hown (hw _ (List.mem_of_getElem? (i := 24) rfl)) (hw _ (List.mem_of_getElem? (i := 25) rfl)) (notFace_of_selects (args := #[]) (mvT hZ (hw _ (List.mem_of_getElem? (i := 27) rfl)))) (hw _ (List.mem_of_getElem? (i := 27) rfl)) (hw _ (List.mem_of_getElem? (i := 26) rfl)) (hw _ (List.mem_of_getElem? (i := 6) rfl)) (hw _ (List.mem_of_getElem? (i := 28) rfl)) (by decide) (W := 0) (rm5_C0 l Z a0 hw [] b48 (Int32.ofNat i) r35 ca sc n i (fun _ => (-9223372036854775808 : Int64)) (fun _ => (0 : Int32)) T49.heap n0 Z49 rfl hin hn4 E_ao F_compact F_scale F_whole V_ca V_sc E_r35_49 F_compact_r35_49 F_scale_r35_49 (own_cw _) ne_b48_ca ne_b48_sc ne_ca_sc ne_r35_ca ne_r35_sc (Ne.symm ne_r35_b48) g_ca g_sc) (by decide) (by decide) E_ao (g := (mkF m 104 #[.val (.int pp), .val (.int pq), .val (.long qc1), .second, .val (.long qc2), .second, .val (.int ps1), .val (.int ps2), .val (.int (Int32.ofNat n)), .val (.int kd1), .val (.int kd2), .val (.int (Int32.ofNat i)), .val (.int (Int32.ofNat j)), .val (.int (Int32.ofNat k)), .val (.ref r35), .val (.ref r47), .val (.ref b48), .unset] [(.ref r35), (.int (Int32.ofNat i)), (.ref b48)])) rfl (by rw [hml]; rfl) (argsL := [(.int (Int32.ofNat i)), (.ref r35)]) (rest := []) (lenOf pd_0_4 rfl) rfl (by show 2 * 0 + _ ≤ _; exact Nat.le_of_eq rfl) (hb hby at_104) rfl rfl (by decide) (by decide)
      obtain ⟨rfl, Nq50, Kq50, Vc50, Vs50⟩ := hQ50
      have N50 := Fr.app N49 Nq50
      have E_r35_50 := E_r35_49.keep Kq50
      have F_compact_r35_50 := F_compact_r35_49.keep Kq50 (ninS ne_r35_ca (ninS ne_r35_sc nin0))
      have F_scale_r35_50 := F_scale_r35_49.keep Kq50 (ninS ne_r35_ca (ninS ne_r35_sc nin0))
      have E_r47_50 := E_r47_49.keep Kq50
      have F_compact_r47_50 := F_compact_r47_49.keep Kq50 (ninS ne_r47_ca (ninS ne_r47_sc nin0))
      have F_scale_r47_50 := F_scale_r47_49.keep Kq50 (ninS ne_r47_ca (ninS ne_r47_sc nin0))
      have E_ao_50 := E_ao.keep Kq50
      have F_compact_50 := F_compact.keep Kq50 (ninS ne_b48_ca (ninS ne_b48_sc nin0))
      have F_scale_50 := F_scale.keep Kq50 (ninS ne_b48_ca (ninS ne_b48_sc nin0))
      have F_whole_50 := F_whole.keep Kq50 (ninS ne_b48_ca (ninS ne_b48_sc nin0))
      have Z50 : n0 ≤ T50.heap.size := Nat.le_trans Z49 Kq50.1
      refine own_go st50 ?_
      show OwnFin p e below s _ _ _ (T50.setTop (mkF m 107 #[.val (.int pp), .val (.int pq), .val (.long qc1), .second, .val (.long qc2), .second, .val (.int ps1), .val (.int ps2), .val (.int (Int32.ofNat n)), .val (.int kd1), .val (.int kd2), .val (.int (Int32.ofNat i)), .val (.int (Int32.ofNat j)), .val (.int (Int32.ofNat k)), .val (.ref r35), .val (.ref r47), .val (.ref b48), .unset] []))
      refine own_go (fun t_ k_ => XS.aload X50.here hx rfl (hb hby at_107) rfl rfl k_) ?_
      show OwnFin p e below s _ _ _ (T50.setTop (mkF m 109 #[.val (.int pp), .val (.int pq), .val (.long qc1), .second, .val (.long qc2), .second, .val (.int ps1), .val (.int ps2), .val (.int (Int32.ofNat n)), .val (.int kd1), .val (.int kd2), .val (.int (Int32.ofNat i)), .val (.int (Int32.ofNat j)), .val (.int (Int32.ofNat k)), .val (.ref r35), .val (.ref r47), .val (.ref b48), .unset] [(.ref b48)]))
      refine own_go (fun t_ k_ => XS.iload X50.here hx rfl (hb hby at_109) rfl k_) ?_
      show OwnFin p e below s _ _ _ (T50.setTop (mkF m 111 #[.val (.int pp), .val (.int pq), .val (.long qc1), .second, .val (.long qc2), .second, .val (.int ps1), .val (.int ps2), .val (.int (Int32.ofNat n)), .val (.int kd1), .val (.int kd2), .val (.int (Int32.ofNat i)), .val (.int (Int32.ofNat j)), .val (.int (Int32.ofNat k)), .val (.ref r35), .val (.ref r47), .val (.ref b48), .unset] [(.int (Int32.ofNat j)), (.ref b48)]))
      refine own_go (fun t_ k_ => XS.aload X50.here hx rfl (hb hby at_111) rfl rfl k_) ?_
      show OwnFin p e below s _ _ _ (T50.setTop (mkF m 113 #[.val (.int pp), .val (.int pq), .val (.long qc1), .second, .val (.long qc2), .second, .val (.int ps1), .val (.int ps2), .val (.int (Int32.ofNat n)), .val (.int kd1), .val (.int kd2), .val (.int (Int32.ofNat i)), .val (.int (Int32.ofNat j)), .val (.int (Int32.ofNat k)), .val (.ref r35), .val (.ref r47), .val (.ref b48), .unset] [(.ref r47), (.int (Int32.ofNat j)), (.ref b48)]))
      obtain ⟨v51, T51, L51, X51, hQ51, st51⟩ := own_callV X50 hx hZ (y := (⟨"com/example/nearside/nearside/support/SplitDecimalArray", "set", "(ILcom/example/nearside/nearside/support/SplitDecimal;)V"⟩ : MethodName)) (z := (⟨"com/example/nearside/nearside/support/SplitDecimalArray", "set", "(ILcom/example/nearside/nearside/support/SplitDecimal;)V"⟩ : MethodName)) hown (hw _ (List.mem_of_getElem? (i := 24) rfl)) (hw _ (List.mem_of_getElem? (i := 25) rfl)) (notFace_of_selects (args := #[]) (mvT hZ (hw _ (List.mem_of_getElem? (i := 27) rfl)))) (hw _ (List.mem_of_getElem? (i := 27) rfl)) (hw _ (List.mem_of_getElem? (i := 26) rfl)) (hw _ (List.mem_of_getElem? (i := 6) rfl)) (hw _ (List.mem_of_getElem? (i := 28) rfl)) (by decide) (W := 0) (rm5_C0 l Z a0 hw [] b48 (Int32.ofNat j) r47 ca sc n j (fun z => if z = i then (own_c qc1) else (fun _ => (-9223372036854775808 : Int64)) z) (fun z => if z = i then ps1 else (fun _ => (0 : Int32)) z) T50.heap n0 Z50 rfl hjn hn4 E_ao_50 F_compact_50 F_scale_50 F_whole_50 Vc50 Vs50 E_r47_50 F_compact_r47_50 F_scale_r47_50 (own_cw _) ne_b48_ca ne_b48_sc ne_ca_sc ne_r47_ca ne_r47_sc (Ne.symm ne_r47_b48) g_ca g_sc) (by decide) (by decide) E_ao_50 (g := (mkF m 113 #[.val (.int pp), .val (.int pq), .val (.long qc1), .second, .val (.long qc2), .second, .val (.int ps1), .val (.int ps2), .val (.int (Int32.ofNat n)), .val (.int kd1), .val (.int kd2), .val (.int (Int32.ofNat i)), .val (.int (Int32.ofNat j)), .val (.int (Int32.ofNat k)), .val (.ref r35), .val (.ref r47), .val (.ref b48), .unset] [(.ref r47), (.int (Int32.ofNat j)), (.ref b48)])) rfl (by rw [hml]; rfl) (argsL := [(.int (Int32.ofNat j)), (.ref r47)]) (rest := []) (lenOf pd_0_4 rfl) rfl (by show 2 * 0 + _ ≤ _; exact Nat.le_of_eq rfl) (hb hby at_113) rfl rfl (by decide) (by decide)
      obtain ⟨rfl, Nq51, Kq51, Vc51, Vs51⟩ := hQ51
      have N51 := Fr.app N50 Nq51
      have E_r35_51 := E_r35_50.keep Kq51
      have F_compact_r35_51 := F_compact_r35_50.keep Kq51 (ninS ne_r35_ca (ninS ne_r35_sc nin0))
      have F_scale_r35_51 := F_scale_r35_50.keep Kq51 (ninS ne_r35_ca (ninS ne_r35_sc nin0))
      have E_r47_51 := E_r47_50.keep Kq51
      have F_compact_r47_51 := F_compact_r47_50.keep Kq51 (ninS ne_r47_ca (ninS ne_r47_sc nin0))
      have F_scale_r47_51 := F_scale_r47_50.keep Kq51 (ninS ne_r47_ca (ninS ne_r47_sc nin0))
      have E_ao_51 := E_ao_50.keep Kq51
      have F_compact_51 := F_compact_50.keep Kq51 (ninS ne_b48_ca (ninS ne_b48_sc nin0))
      have F_scale_51 := F_scale_50.keep Kq51 (ninS ne_b48_ca (ninS ne_b48_sc nin0))
      have F_whole_51 := F_whole_50.keep Kq51 (ninS ne_b48_ca (ninS ne_b48_sc nin0))
      have Z51 : n0 ≤ T51.heap.size := Nat.le_trans Z50 Kq51.1
      refine own_go st51 ?_
      show OwnFin p e below s _ _ _ (T51.setTop (mkF m 116 #[.val (.int pp), .val (.int pq), .val (.long qc1), .second, .val (.long qc2), .second, .val (.int ps1), .val (.int ps2), .val (.int (Int32.ofNat n)), .val (.int kd1), .val (.int kd2), .val (.int (Int32.ofNat i)), .val (.int (Int32.ofNat j)), .val (.int (Int32.ofNat k)), .val (.ref r35), .val (.ref r47), .val (.ref b48), .unset] []))
      refine own_go (fun t_ k_ => XS.aload X51.here hx rfl (hb hby at_116) rfl rfl k_) ?_
      show OwnFin p e below s _ _ _ (T51.setTop (mkF m 118 #[.val (.int pp), .val (.int pq), .val (.long qc1), .second, .val (.long qc2), .second, .val (.int ps1), .val (.int ps2), .val (.int (Int32.ofNat n)), .val (.int kd1), .val (.int kd2), .val (.int (Int32.ofNat i)), .val (.int (Int32.ofNat j)), .val (.int (Int32.ofNat k)), .val (.ref r35), .val (.ref r47), .val (.ref b48), .unset] [(.ref b48)]))
      refine own_go (fun t_ k_ => XS.iload X51.here hx rfl (hb hby at_118) rfl k_) ?_
      show OwnFin p e below s _ _ _ (T51.setTop (mkF m 120 #[.val (.int pp), .val (.int pq), .val (.long qc1), .second, .val (.long qc2), .second, .val (.int ps1), .val (.int ps2), .val (.int (Int32.ofNat n)), .val (.int kd1), .val (.int kd2), .val (.int (Int32.ofNat i)), .val (.int (Int32.ofNat j)), .val (.int (Int32.ofNat k)), .val (.ref r35), .val (.ref r47), .val (.ref b48), .unset] [(.int (Int32.ofNat j)), (.ref b48)]))
      obtain ⟨v52, T52, L52, X52, hQ52, st52⟩ := own_callV X51 hx hZ (y := (⟨"com/example/nearside/nearside/support/SplitDecimalArray", "get", "(I)Lcom/example/nearside/nearside/support/SplitDecimal;"⟩ : MethodName)) (z := (⟨"com/example/nearside/nearside/support/SplitDecimalArray", "get", "(I)Lcom/example/nearside/nearside/support/SplitDecimal;"⟩ : MethodName)) hown (hw _ (List.mem_of_getElem? (i := 31) rfl)) (hw _ (List.mem_of_getElem? (i := 32) rfl)) (notFace_of_selects (args := #[]) (mvT hZ (hw _ (List.mem_of_getElem? (i := 34) rfl)))) (hw _ (List.mem_of_getElem? (i := 34) rfl)) (hw _ (List.mem_of_getElem? (i := 33) rfl)) (hw _ (List.mem_of_getElem? (i := 6) rfl)) (hw _ (List.mem_of_getElem? (i := 35) rfl)) (by decide) (W := 0) (rm6_C l Z a0 hw [] b48 (Int32.ofNat j) ca sc n j (fun z => if z = j then (own_c qc2) else (fun z => if z = i then (own_c qc1) else (fun _ => (-9223372036854775808 : Int64)) z) z) (fun z => if z = j then ps2 else (fun z => if z = i then ps1 else (fun _ => (0 : Int32)) z) z) (own_c qc2) ps2 T51.heap n0 Z51 rfl hjn F_compact_51 F_scale_51 Vc51 Vs51 (by (try dsimp only); rw [if_pos rfl]) (by (try dsimp only); rw [if_pos rfl]) (own_cw _)) (by decide) (by decide) E_ao_51 (g := (mkF m 120 #[.val (.int pp), .val (.int pq), .val (.long qc1), .second, .val (.long qc2), .second, .val (.int ps1), .val (.int ps2), .val (.int (Int32.ofNat n)), .val (.int kd1), .val (.int kd2), .val (.int (Int32.ofNat i)), .val (.int (Int32.ofNat j)), .val (.int (Int32.ofNat k)), .val (.ref r35), .val (.ref r47), .val (.ref b48), .unset] [(.int (Int32.ofNat j)), (.ref b48)])) rfl (by rw [hml]; rfl) (argsL := [(.int (Int32.ofNat j))]) (rest := []) (lenOf pd_0_5 rfl) rfl (by show 2 * 0 + _ ≤ _; exact Nat.le_of_eq rfl) (hb hby at_120) rfl rfl (by decide) (by decide)
      obtain ⟨r52, rfl, Nq52, Kq52, sq52, Eq52, Fq52_0, Fq52_1⟩ := hQ52
      have N52 := Fr.app N51 Nq52
      have g_r52 : n0 ≤ r52 := Nat.le_trans Z51 sq52
      have ne_r35_r52 : r35 ≠ r52 := Nat.ne_of_lt (Nat.lt_of_lt_of_le E_r35_51.lt sq52)
      have ne_r47_r52 : r47 ≠ r52 := Nat.ne_of_lt (Nat.lt_of_lt_of_le E_r47_51.lt sq52)
      have ne_b48_r52 : b48 ≠ r52 := Nat.ne_of_lt (Nat.lt_of_lt_of_le E_ao_51.lt sq52)
      have ne_ca_r52 : ca ≠ r52 := Nat.ne_of_lt (Nat.lt_of_lt_of_le Vc51.lt sq52)
      have ne_sc_r52 : sc ≠ r52 := Nat.ne_of_lt (Nat.lt_of_lt_of_le Vs51.lt sq52)
      have E_r35_52 := E_r35_51.keep Kq52
      have F_compact_r35_52 := F_compact_r35_51.keep Kq52 nin0
      have F_scale_r35_52 := F_scale_r35_51.keep Kq52 nin0
      have E_r47_52 := E_r47_51.keep Kq52
      have F_compact_r47_52 := F_compact_r47_51.keep Kq52 nin0
      have F_scale_r47_52 := F_scale_r47_51.keep Kq52 nin0
      have E_ao_52 := E_ao_51.keep Kq52
      have F_compact_52 := F_compact_51.keep Kq52 nin0
      have F_scale_52 := F_scale_51.keep Kq52 nin0
      have F_whole_52 := F_whole_51.keep Kq52 nin0
      have Vc51_52 := Vc51.keep Kq52 nin0
      have Vs51_52 := Vs51.keep Kq52 nin0
      have Z52 : n0 ≤ T52.heap.size := Nat.le_trans Z51 Kq52.1
      refine own_go st52 ?_
      show OwnFin p e below s _ _ _ (T52.setTop (mkF m 123 #[.val (.int pp), .val (.int pq), .val (.long qc1), .second, .val (.long qc2), .second, .val (.int ps1), .val (.int ps2), .val (.int (Int32.ofNat n)), .val (.int kd1), .val (.int kd2), .val (.int (Int32.ofNat i)), .val (.int (Int32.ofNat j)), .val (.int (Int32.ofNat k)), .val (.ref r35), .val (.ref r47), .val (.ref b48), .unset] [(.ref r52)]))
      refine own_go (fun t_ k_ => XS.aload X52.here hx rfl (hb hby at_123) rfl rfl k_) ?_
      show OwnFin p e below s _ _ _ (T52.setTop (mkF m 125 #[.val (.int pp), .val (.int pq), .val (.long qc1), .second, .val (.long qc2), .second, .val (.int ps1), .val (.int ps2), .val (.int (Int32.ofNat n)), .val (.int kd1), .val (.int kd2), .val (.int (Int32.ofNat i)), .val (.int (Int32.ofNat j)), .val (.int (Int32.ofNat k)), .val (.ref r35), .val (.ref r47), .val (.ref b48), .unset] [(.ref r47), (.ref r52)]))
      obtain ⟨v53, T53, L53, X53, hQ53, st53⟩ := own_callS X52 hx hZ (y := (⟨"com/example/nearside/nearside/support/SplitDecimalArraySetPinLaw", "holds", "(Lcom/example/nearside/nearside/support/SplitDecimal;Lcom/example/nearside/nearside/support/SplitDecimal;)Z"⟩ : MethodName)) hown (hw _ (List.mem_of_getElem? (i := 36) rfl)) (hw _ (List.mem_of_getElem? (i := 37) rfl)) (hw _ (List.mem_of_getElem? (i := 2) rfl)) (hw _ (List.mem_of_getElem? (i := 38) rfl)) (by decide) (W := 0) (rm7_C l Z a0 hw [] r52 r47 T52.heap n0 Z52 (own_cw _) Fq52_0 Fq52_1 F_compact_r47_52 F_scale_r47_52) (by decide) (by decide) (g := (mkF m 125 #[.val (.int pp), .val (.int pq), .val (.long qc1), .second, .val (.long qc2), .second, .val (.int ps1), .val (.int ps2), .val (.int (Int32.ofNat n)), .val (.int kd1), .val (.int kd2), .val (.int (Int32.ofNat i)), .val (.int (Int32.ofNat j)), .val (.int (Int32.ofNat k)), .val (.ref r35), .val (.ref r47), .val (.ref b48), .unset] [(.ref r47), (.ref r52)])) rfl (by rw [hml]; rfl) (argsL := [(.ref r52), (.ref r47)]) (rest := []) (lenOf pd_0_6 rfl) rfl (by show 2 * 0 + _ ≤ _; exact Nat.le_of_eq rfl) (hb hby at_125) rfl rfl (by decide) (by decide)
      obtain ⟨rfl, Nq53, e53⟩ := hQ53
      have N53 := Fr.app N52 Nq53
      refine own_go st53 ?_
      show OwnFin p e below s _ _ _ (T53.setTop (mkF m 128 #[.val (.int pp), .val (.int pq), .val (.long qc1), .second, .val (.long qc2), .second, .val (.int ps1), .val (.int ps2), .val (.int (Int32.ofNat n)), .val (.int kd1), .val (.int kd2), .val (.int (Int32.ofNat i)), .val (.int (Int32.ofNat j)), .val (.int (Int32.ofNat k)), .val (.ref r35), .val (.ref r47), .val (.ref b48), .unset] [(.int (1 : Int32))]))
      refine own_go (fun t_ k_ => XS.istore X53.here hx rfl (hb hby at_128) rfl (l' := #[.val (.int pp), .val (.int pq), .val (.long qc1), .second, .val (.long qc2), .second, .val (.int ps1), .val (.int ps2), .val (.int (Int32.ofNat n)), .val (.int kd1), .val (.int kd2), .val (.int (Int32.ofNat i)), .val (.int (Int32.ofNat j)), .val (.int (Int32.ofNat k)), .val (.ref r35), .val (.ref r47), .val (.ref b48), .val (.int (1 : Int32))]) rfl k_) ?_
      show OwnFin p e below s _ _ _ (T53.setTop (mkF m 130 #[.val (.int pp), .val (.int pq), .val (.long qc1), .second, .val (.long qc2), .second, .val (.int ps1), .val (.int ps2), .val (.int (Int32.ofNat n)), .val (.int kd1), .val (.int kd2), .val (.int (Int32.ofNat i)), .val (.int (Int32.ofNat j)), .val (.int (Int32.ofNat k)), .val (.ref r35), .val (.ref r47), .val (.ref b48), .val (.int (1 : Int32))] []))
      by_cases hij : i = j
      · refine own_go (fun t_ k_ => XS.iload X53.here hx rfl (hb hby at_130) rfl k_) ?_
        show OwnFin p e below s _ _ _ (T53.setTop (mkF m 132 #[.val (.int pp), .val (.int pq), .val (.long qc1), .second, .val (.long qc2), .second, .val (.int ps1), .val (.int ps2), .val (.int (Int32.ofNat n)), .val (.int kd1), .val (.int kd2), .val (.int (Int32.ofNat i)), .val (.int (Int32.ofNat j)), .val (.int (Int32.ofNat k)), .val (.ref r35), .val (.ref r47), .val (.ref b48), .val (.int (1 : Int32))] [(.int (Int32.ofNat i))]))
        refine own_go (fun t_ k_ => XS.iload X53.here hx rfl (hb hby at_132) rfl k_) ?_
        show OwnFin p e below s _ _ _ (T53.setTop (mkF m 134 #[.val (.int pp), .val (.int pq), .val (.long qc1), .second, .val (.long qc2), .second, .val (.int ps1), .val (.int ps2), .val (.int (Int32.ofNat n)), .val (.int kd1), .val (.int kd2), .val (.int (Int32.ofNat i)), .val (.int (Int32.ofNat j)), .val (.int (Int32.ofNat k)), .val (.ref r35), .val (.ref r47), .val (.ref b48), .val (.int (1 : Int32))] [(.int (Int32.ofNat j)), (.int (Int32.ofNat i))]))
        have hc134 : (Int32.ofNat i) = (Int32.ofNat j) := by rw [hij]
        refine own_go (fun t_ k_ => XS.icmpYes X53.here hx rfl (pc0 := 134) (pc' := 164) rfl (hb hby at_134) rfl (teq hc134).1 (by decide) (by decide) k_) ?_
        show OwnFin p e below s _ _ _ (T53.setTop (mkF m 164 #[.val (.int pp), .val (.int pq), .val (.long qc1), .second, .val (.long qc2), .second, .val (.int ps1), .val (.int ps2), .val (.int (Int32.ofNat n)), .val (.int kd1), .val (.int kd2), .val (.int (Int32.ofNat i)), .val (.int (Int32.ofNat j)), .val (.int (Int32.ofNat k)), .val (.ref r35), .val (.ref r47), .val (.ref b48), .val (.int (1 : Int32))] []))
        by_cases hki : k = i
        · refine own_go (fun t_ k_ => XS.iload X53.here hx rfl (hb hby at_164) rfl k_) ?_
          show OwnFin p e below s _ _ _ (T53.setTop (mkF m 166 #[.val (.int pp), .val (.int pq), .val (.long qc1), .second, .val (.long qc2), .second, .val (.int ps1), .val (.int ps2), .val (.int (Int32.ofNat n)), .val (.int kd1), .val (.int kd2), .val (.int (Int32.ofNat i)), .val (.int (Int32.ofNat j)), .val (.int (Int32.ofNat k)), .val (.ref r35), .val (.ref r47), .val (.ref b48), .val (.int (1 : Int32))] [(.int (Int32.ofNat k))]))
          refine own_go (fun t_ k_ => XS.iload X53.here hx rfl (hb hby at_166) rfl k_) ?_
          show OwnFin p e below s _ _ _ (T53.setTop (mkF m 168 #[.val (.int pp), .val (.int pq), .val (.long qc1), .second, .val (.long qc2), .second, .val (.int ps1), .val (.int ps2), .val (.int (Int32.ofNat n)), .val (.int kd1), .val (.int kd2), .val (.int (Int32.ofNat i)), .val (.int (Int32.ofNat j)), .val (.int (Int32.ofNat k)), .val (.ref r35), .val (.ref r47), .val (.ref b48), .val (.int (1 : Int32))] [(.int (Int32.ofNat i)), (.int (Int32.ofNat k))]))
          have hc168 : (Int32.ofNat k) = (Int32.ofNat i) := by rw [hki]
          refine own_go (fun t_ k_ => XS.icmpYes X53.here hx rfl (pc0 := 168) (pc' := 200) rfl (hb hby at_168) rfl (teq hc168).1 (by decide) (by decide) k_) ?_
          show OwnFin p e below s _ _ _ (T53.setTop (mkF m 200 #[.val (.int pp), .val (.int pq), .val (.long qc1), .second, .val (.long qc2), .second, .val (.int ps1), .val (.int ps2), .val (.int (Int32.ofNat n)), .val (.int kd1), .val (.int kd2), .val (.int (Int32.ofNat i)), .val (.int (Int32.ofNat j)), .val (.int (Int32.ofNat k)), .val (.ref r35), .val (.ref r47), .val (.ref b48), .val (.int (1 : Int32))] []))
          refine own_go (fun t_ k_ => XS.iload X53.here hx rfl (hb hby at_200) rfl k_) ?_
          show OwnFin p e below s _ _ _ (T53.setTop (mkF m 202 #[.val (.int pp), .val (.int pq), .val (.long qc1), .second, .val (.long qc2), .second, .val (.int ps1), .val (.int ps2), .val (.int (Int32.ofNat n)), .val (.int kd1), .val (.int kd2), .val (.int (Int32.ofNat i)), .val (.int (Int32.ofNat j)), .val (.int (Int32.ofNat k)), .val (.ref r35), .val (.ref r47), .val (.ref b48), .val (.int (1 : Int32))] [(.int (1 : Int32))]))
          refine own_ret X53 (v := some (.int (1 : Int32))) hlk (fun hh => by rw [hret] at hh; cases hh) (fun fs hr => retN X53 hx (t := .boolean) hret (by simp) (hb hby at_202) hr) (by decide) (by decide) ?_
          exact ⟨rfl, N53⟩
        · refine own_go (fun t_ k_ => XS.iload X53.here hx rfl (hb hby at_164) rfl k_) ?_
          show OwnFin p e below s _ _ _ (T53.setTop (mkF m 166 #[.val (.int pp), .val (.int pq), .val (.long qc1), .second, .val (.long qc2), .second, .val (.int ps1), .val (.int ps2), .val (.int (Int32.ofNat n)), .val (.int kd1), .val (.int kd2), .val (.int (Int32.ofNat i)), .val (.int (Int32.ofNat j)), .val (.int (Int32.ofNat k)), .val (.ref r35), .val (.ref r47), .val (.ref b48), .val (.int (1 : Int32))] [(.int (Int32.ofNat k))]))
          refine own_go (fun t_ k_ => XS.iload X53.here hx rfl (hb hby at_166) rfl k_) ?_
          show OwnFin p e below s _ _ _ (T53.setTop (mkF m 168 #[.val (.int pp), .val (.int pq), .val (.long qc1), .second, .val (.long qc2), .second, .val (.int ps1), .val (.int ps2), .val (.int (Int32.ofNat n)), .val (.int kd1), .val (.int kd2), .val (.int (Int32.ofNat i)), .val (.int (Int32.ofNat j)), .val (.int (Int32.ofNat k)), .val (.ref r35), .val (.ref r47), .val (.ref b48), .val (.int (1 : Int32))] [(.int (Int32.ofNat i)), (.int (Int32.ofNat k))]))
          have hc168 : ¬ ((Int32.ofNat k) = (Int32.ofNat i)) := fun q => hki (own_ofNat_inj (by omega) (by omega) q)
          refine own_go (fun t_ k_ => XS.icmpNo X53.here hx rfl (hb hby at_168) rfl (feq hc168).1 k_) ?_
          show OwnFin p e below s _ _ _ (T53.setTop (mkF m 171 #[.val (.int pp), .val (.int pq), .val (.long qc1), .second, .val (.long qc2), .second, .val (.int ps1), .val (.int ps2), .val (.int (Int32.ofNat n)), .val (.int kd1), .val (.int kd2), .val (.int (Int32.ofNat i)), .val (.int (Int32.ofNat j)), .val (.int (Int32.ofNat k)), .val (.ref r35), .val (.ref r47), .val (.ref b48), .val (.int (1 : Int32))] []))
          by_cases hkj : k = j
          · refine own_go (fun t_ k_ => XS.iload X53.here hx rfl (hb hby at_171) rfl k_) ?_
            show OwnFin p e below s _ _ _ (T53.setTop (mkF m 173 #[.val (.int pp), .val (.int pq), .val (.long qc1), .second, .val (.long qc2), .second, .val (.int ps1), .val (.int ps2), .val (.int (Int32.ofNat n)), .val (.int kd1), .val (.int kd2), .val (.int (Int32.ofNat i)), .val (.int (Int32.ofNat j)), .val (.int (Int32.ofNat k)), .val (.ref r35), .val (.ref r47), .val (.ref b48), .val (.int (1 : Int32))] [(.int (Int32.ofNat k))]))
            refine own_go (fun t_ k_ => XS.iload X53.here hx rfl (hb hby at_173) rfl k_) ?_
            show OwnFin p e below s _ _ _ (T53.setTop (mkF m 175 #[.val (.int pp), .val (.int pq), .val (.long qc1), .second, .val (.long qc2), .second, .val (.int ps1), .val (.int ps2), .val (.int (Int32.ofNat n)), .val (.int kd1), .val (.int kd2), .val (.int (Int32.ofNat i)), .val (.int (Int32.ofNat j)), .val (.int (Int32.ofNat k)), .val (.ref r35), .val (.ref r47), .val (.ref b48), .val (.int (1 : Int32))] [(.int (Int32.ofNat j)), (.int (Int32.ofNat k))]))
            have hc175 : (Int32.ofNat k) = (Int32.ofNat j) := by rw [hkj]
            refine own_go (fun t_ k_ => XS.icmpYes X53.here hx rfl (pc0 := 175) (pc' := 200) rfl (hb hby at_175) rfl (teq hc175).1 (by decide) (by decide) k_) ?_
            show OwnFin p e below s _ _ _ (T53.setTop (mkF m 200 #[.val (.int pp), .val (.int pq), .val (.long qc1), .second, .val (.long qc2), .second, .val (.int ps1), .val (.int ps2), .val (.int (Int32.ofNat n)), .val (.int kd1), .val (.int kd2), .val (.int (Int32.ofNat i)), .val (.int (Int32.ofNat j)), .val (.int (Int32.ofNat k)), .val (.ref r35), .val (.ref r47), .val (.ref b48), .val (.int (1 : Int32))] []))
            refine own_go (fun t_ k_ => XS.iload X53.here hx rfl (hb hby at_200) rfl k_) ?_
            show OwnFin p e below s _ _ _ (T53.setTop (mkF m 202 #[.val (.int pp), .val (.int pq), .val (.long qc1), .second, .val (.long qc2), .second, .val (.int ps1), .val (.int ps2), .val (.int (Int32.ofNat n)), .val (.int kd1), .val (.int kd2), .val (.int (Int32.ofNat i)), .val (.int (Int32.ofNat j)), .val (.int (Int32.ofNat k)), .val (.ref r35), .val (.ref r47), .val (.ref b48), .val (.int (1 : Int32))] [(.int (1 : Int32))]))
            refine own_ret X53 (v := some (.int (1 : Int32))) hlk (fun hh => by rw [hret] at hh; cases hh) (fun fs hr => retN X53 hx (t := .boolean) hret (by simp) (hb hby at_202) hr) (by decide) (by decide) ?_
            exact ⟨rfl, N53⟩
          · refine own_go (fun t_ k_ => XS.iload X53.here hx rfl (hb hby at_171) rfl k_) ?_
            show OwnFin p e below s _ _ _ (T53.setTop (mkF m 173 #[.val (.int pp), .val (.int pq), .val (.long qc1), .second, .val (.long qc2), .second, .val (.int ps1), .val (.int ps2), .val (.int (Int32.ofNat n)), .val (.int kd1), .val (.int kd2), .val (.int (Int32.ofNat i)), .val (.int (Int32.ofNat j)), .val (.int (Int32.ofNat k)), .val (.ref r35), .val (.ref r47), .val (.ref b48), .val (.int (1 : Int32))] [(.int (Int32.ofNat k))]))
            refine own_go (fun t_ k_ => XS.iload X53.here hx rfl (hb hby at_173) rfl k_) ?_
            show OwnFin p e below s _ _ _ (T53.setTop (mkF m 175 #[.val (.int pp), .val (.int pq), .val (.long qc1), .second, .val (.long qc2), .second, .val (.int ps1), .val (.int ps2), .val (.int (Int32.ofNat n)), .val (.int kd1), .val (.int kd2), .val (.int (Int32.ofNat i)), .val (.int (Int32.ofNat j)), .val (.int (Int32.ofNat k)), .val (.ref r35), .val (.ref r47), .val (.ref b48), .val (.int (1 : Int32))] [(.int (Int32.ofNat j)), (.int (Int32.ofNat k))]))
            have hc175 : ¬ ((Int32.ofNat k) = (Int32.ofNat j)) := fun q => hkj (own_ofNat_inj (by omega) (by omega) q)
            refine own_go (fun t_ k_ => XS.icmpNo X53.here hx rfl (hb hby at_175) rfl (feq hc175).1 k_) ?_
            show OwnFin p e below s _ _ _ (T53.setTop (mkF m 178 #[.val (.int pp), .val (.int pq), .val (.long qc1), .second, .val (.long qc2), .second, .val (.int ps1), .val (.int ps2), .val (.int (Int32.ofNat n)), .val (.int kd1), .val (.int kd2), .val (.int (Int32.ofNat i)), .val (.int (Int32.ofNat j)), .val (.int (Int32.ofNat k)), .val (.ref r35), .val (.ref r47), .val (.ref b48), .val (.int (1 : Int32))] []))
            refine own_go (fun t_ k_ => XS.iload X53.here hx rfl (hb hby at_178) rfl k_) ?_
            show OwnFin p e below s _ _ _ (T53.setTop (mkF m 180 #[.val (.int pp), .val (.int pq), .val (.long qc1), .second, .val (.long qc2), .second, .val (.int ps1), .val (.int ps2), .val (.int (Int32.ofNat n)), .val (.int kd1), .val (.int kd2), .val (.int (Int32.ofNat i)), .val (.int (Int32.ofNat j)), .val (.int (Int32.ofNat k)), .val (.ref r35), .val (.ref r47), .val (.ref b48), .val (.int (1 : Int32))] [(.int (1 : Int32))]))
            refine own_go (fun t_ k_ => XS.ifNo X53.here hx rfl (hb hby at_180) rfl ((if0 _ _).trans (feq (by decide)).1) k_) ?_
            show OwnFin p e below s _ _ _ (T53.setTop (mkF m 183 #[.val (.int pp), .val (.int pq), .val (.long qc1), .second, .val (.long qc2), .second, .val (.int ps1), .val (.int ps2), .val (.int (Int32.ofNat n)), .val (.int kd1), .val (.int kd2), .val (.int (Int32.ofNat i)), .val (.int (Int32.ofNat j)), .val (.int (Int32.ofNat k)), .val (.ref r35), .val (.ref r47), .val (.ref b48), .val (.int (1 : Int32))] []))
            refine own_go (fun t_ k_ => XS.aload X53.here hx rfl (hb hby at_183) rfl rfl k_) ?_
            show OwnFin p e below s _ _ _ (T53.setTop (mkF m 185 #[.val (.int pp), .val (.int pq), .val (.long qc1), .second, .val (.long qc2), .second, .val (.int ps1), .val (.int ps2), .val (.int (Int32.ofNat n)), .val (.int kd1), .val (.int kd2), .val (.int (Int32.ofNat i)), .val (.int (Int32.ofNat j)), .val (.int (Int32.ofNat k)), .val (.ref r35), .val (.ref r47), .val (.ref b48), .val (.int (1 : Int32))] [(.ref b48)]))
            refine own_go (fun t_ k_ => XS.iload X53.here hx rfl (hb hby at_185) rfl k_) ?_
            show OwnFin p e below s _ _ _ (T53.setTop (mkF m 187 #[.val (.int pp), .val (.int pq), .val (.long qc1), .second, .val (.long qc2), .second, .val (.int ps1), .val (.int ps2), .val (.int (Int32.ofNat n)), .val (.int kd1), .val (.int kd2), .val (.int (Int32.ofNat i)), .val (.int (Int32.ofNat j)), .val (.int (Int32.ofNat k)), .val (.ref r35), .val (.ref r47), .val (.ref b48), .val (.int (1 : Int32))] [(.int (Int32.ofNat k)), (.ref b48)]))
            obtain ⟨v54, T54, L54, X54, hQ54, st54⟩ := own_callV X53 hx hZ (y := (⟨"com/example/nearside/nearside/support/SplitDecimalArray", "get", "(I)Lcom/example/nearside/nearside/support/SplitDecimal;"⟩ : MethodName)) (z := (⟨"com/example/nearside/nearside/support/SplitDecimalArray", "get", "(I)Lcom/example/nearside/nearside/support/SplitDecimal;"⟩ : MethodName)) hown (hw _ (List.mem_of_getElem? (i := 31) rfl)) (hw _ (List.mem_of_getElem? (i := 32) rfl)) (notFace_of_selects (args := #[]) (mvT hZ (hw _ (List.mem_of_getElem? (i := 34) rfl)))) (hw _ (List.mem_of_getElem? (i := 34) rfl)) (hw _ (List.mem_of_getElem? (i := 33) rfl)) (hw _ (List.mem_of_getElem? (i := 6) rfl)) (hw _ (List.mem_of_getElem? (i := 35) rfl)) (by decide) (W := 0) (rm6_N l Z a0 hw [] b48 (Int32.ofNat k) ca n k (fun z => if z = j then (own_c qc2) else (fun z => if z = i then (own_c qc1) else (fun _ => (-9223372036854775808 : Int64)) z) z) T52.heap n0 Z52 rfl hkn F_compact_52 F_whole_52 Vc51_52 (by (try dsimp only); rw [if_neg hkj, if_neg hki])) (by decide) (by decide) E_ao_52 (g := (mkF m 187 #[.val (.int pp), .val (.int pq), .val (.long qc1), .second, .val (.long qc2), .second, .val (.int ps1), .val (.int ps2), .val (.int (Int32.ofNat n)), .val (.int kd1), .val (.int kd2), .val (.int (Int32.ofNat i)), .val (.int (Int32.ofNat j)), .val (.int (Int32.ofNat k)), .val (.ref r35), .val (.ref r47), .val (.ref b48), .val (.int (1 : Int32))] [(.int (Int32.ofNat k)), (.ref b48)])) rfl (by rw [hml]; rfl) (argsL := [(.int (Int32.ofNat k))]) (rest := []) (lenOf pd_0_5 rfl) rfl (by show 2 * 0 + _ ≤ _; exact Nat.le_of_eq rfl) (hb hby at_187) e53 rfl (by decide) (by decide)
            obtain ⟨rfl, Nq54, e54⟩ := hQ54
            have N54 := Fr.app N53 Nq54
            refine own_go st54 ?_
            show OwnFin p e below s _ _ _ (T54.setTop (mkF m 190 #[.val (.int pp), .val (.int pq), .val (.long qc1), .second, .val (.long qc2), .second, .val (.int ps1), .val (.int ps2), .val (.int (Int32.ofNat n)), .val (.int kd1), .val (.int kd2), .val (.int (Int32.ofNat i)), .val (.int (Int32.ofNat j)), .val (.int (Int32.ofNat k)), .val (.ref r35), .val (.ref r47), .val (.ref b48), .val (.int (1 : Int32))] [.null]))
            refine own_go (fun t_ k_ => XS.ifnonnullNo X54.here hx rfl (hb hby at_190) rfl k_) ?_
            show OwnFin p e below s _ _ _ (T54.setTop (mkF m 193 #[.val (.int pp), .val (.int pq), .val (.long qc1), .second, .val (.long qc2), .second, .val (.int ps1), .val (.int ps2), .val (.int (Int32.ofNat n)), .val (.int kd1), .val (.int kd2), .val (.int (Int32.ofNat i)), .val (.int (Int32.ofNat j)), .val (.int (Int32.ofNat k)), .val (.ref r35), .val (.ref r47), .val (.ref b48), .val (.int (1 : Int32))] []))
            refine own_go (fun t_ k_ => XS.iconst X54.here hx rfl (hb hby at_193) k_) ?_
            show OwnFin p e below s _ _ _ (T54.setTop (mkF m 194 #[.val (.int pp), .val (.int pq), .val (.long qc1), .second, .val (.long qc2), .second, .val (.int ps1), .val (.int ps2), .val (.int (Int32.ofNat n)), .val (.int kd1), .val (.int kd2), .val (.int (Int32.ofNat i)), .val (.int (Int32.ofNat j)), .val (.int (Int32.ofNat k)), .val (.ref r35), .val (.ref r47), .val (.ref b48), .val (.int (1 : Int32))] [(.int (1 : Int32))]))
            refine own_go (fun t_ k_ => XS.goto X54.here hx rfl (pc0 := 194) (pc' := 198) rfl (hb hby at_194) (by decide) (by decide) k_) ?_
            show OwnFin p e below s _ _ _ (T54.setTop (mkF m 198 #[.val (.int pp), .val (.int pq), .val (.long qc1), .second, .val (.long qc2), .second, .val (.int ps1), .val (.int ps2), .val (.int (Int32.ofNat n)), .val (.int kd1), .val (.int kd2), .val (.int (Int32.ofNat i)), .val (.int (Int32.ofNat j)), .val (.int (Int32.ofNat k)), .val (.ref r35), .val (.ref r47), .val (.ref b48), .val (.int (1 : Int32))] [(.int (1 : Int32))]))
            refine own_go (fun t_ k_ => XS.istore X54.here hx rfl (hb hby at_198) rfl (l' := #[.val (.int pp), .val (.int pq), .val (.long qc1), .second, .val (.long qc2), .second, .val (.int ps1), .val (.int ps2), .val (.int (Int32.ofNat n)), .val (.int kd1), .val (.int kd2), .val (.int (Int32.ofNat i)), .val (.int (Int32.ofNat j)), .val (.int (Int32.ofNat k)), .val (.ref r35), .val (.ref r47), .val (.ref b48), .val (.int (1 : Int32))]) rfl k_) ?_
            show OwnFin p e below s _ _ _ (T54.setTop (mkF m 200 #[.val (.int pp), .val (.int pq), .val (.long qc1), .second, .val (.long qc2), .second, .val (.int ps1), .val (.int ps2), .val (.int (Int32.ofNat n)), .val (.int kd1), .val (.int kd2), .val (.int (Int32.ofNat i)), .val (.int (Int32.ofNat j)), .val (.int (Int32.ofNat k)), .val (.ref r35), .val (.ref r47), .val (.ref b48), .val (.int (1 : Int32))] []))
            refine own_go (fun t_ k_ => XS.iload X54.here hx rfl (hb hby at_200) rfl k_) ?_
            show OwnFin p e below s _ _ _ (T54.setTop (mkF m 202 #[.val (.int pp), .val (.int pq), .val (.long qc1), .second, .val (.long qc2), .second, .val (.int ps1), .val (.int ps2), .val (.int (Int32.ofNat n)), .val (.int kd1), .val (.int kd2), .val (.int (Int32.ofNat i)), .val (.int (Int32.ofNat j)), .val (.int (Int32.ofNat k)), .val (.ref r35), .val (.ref r47), .val (.ref b48), .val (.int (1 : Int32))] [(.int (1 : Int32))]))
            refine own_ret X54 (v := some (.int (1 : Int32))) hlk (fun hh => by rw [hret] at hh; cases hh) (fun fs hr => retN X54 hx (t := .boolean) hret (by simp) (hb hby at_202) hr) (by decide) (by decide) ?_
            exact ⟨rfl, N54⟩
      · refine own_go (fun t_ k_ => XS.iload X53.here hx rfl (hb hby at_130) rfl k_) ?_
        show OwnFin p e below s _ _ _ (T53.setTop (mkF m 132 #[.val (.int pp), .val (.int pq), .val (.long qc1), .second, .val (.long qc2), .second, .val (.int ps1), .val (.int ps2), .val (.int (Int32.ofNat n)), .val (.int kd1), .val (.int kd2), .val (.int (Int32.ofNat i)), .val (.int (Int32.ofNat j)), .val (.int (Int32.ofNat k)), .val (.ref r35), .val (.ref r47), .val (.ref b48), .val (.int (1 : Int32))] [(.int (Int32.ofNat i))]))
        refine own_go (fun t_ k_ => XS.iload X53.here hx rfl (hb hby at_132) rfl k_) ?_
        show OwnFin p e below s _ _ _ (T53.setTop (mkF m 134 #[.val (.int pp), .val (.int pq), .val (.long qc1), .second, .val (.long qc2), .second, .val (.int ps1), .val (.int ps2), .val (.int (Int32.ofNat n)), .val (.int kd1), .val (.int kd2), .val (.int (Int32.ofNat i)), .val (.int (Int32.ofNat j)), .val (.int (Int32.ofNat k)), .val (.ref r35), .val (.ref r47), .val (.ref b48), .val (.int (1 : Int32))] [(.int (Int32.ofNat j)), (.int (Int32.ofNat i))]))
        have hc134 : ¬ ((Int32.ofNat i) = (Int32.ofNat j)) := fun q => hij (own_ofNat_inj (by omega) (by omega) q)
        refine own_go (fun t_ k_ => XS.icmpNo X53.here hx rfl (hb hby at_134) rfl (feq hc134).1 k_) ?_
        show OwnFin p e below s _ _ _ (T53.setTop (mkF m 137 #[.val (.int pp), .val (.int pq), .val (.long qc1), .second, .val (.long qc2), .second, .val (.int ps1), .val (.int ps2), .val (.int (Int32.ofNat n)), .val (.int kd1), .val (.int kd2), .val (.int (Int32.ofNat i)), .val (.int (Int32.ofNat j)), .val (.int (Int32.ofNat k)), .val (.ref r35), .val (.ref r47), .val (.ref b48), .val (.int (1 : Int32))] []))
        refine own_go (fun t_ k_ => XS.iload X53.here hx rfl (hb hby at_137) rfl k_) ?_
        show OwnFin p e below s _ _ _ (T53.setTop (mkF m 139 #[.val (.int pp), .val (.int pq), .val (.long qc1), .second, .val (.long qc2), .second, .val (.int ps1), .val (.int ps2), .val (.int (Int32.ofNat n)), .val (.int kd1), .val (.int kd2), .val (.int (Int32.ofNat i)), .val (.int (Int32.ofNat j)), .val (.int (Int32.ofNat k)), .val (.ref r35), .val (.ref r47), .val (.ref b48), .val (.int (1 : Int32))] [(.int (1 : Int32))]))
        refine own_go (fun t_ k_ => XS.ifNo X53.here hx rfl (hb hby at_139) rfl ((if0 _ _).trans (feq (by decide)).1) k_) ?_
        show OwnFin p e below s _ _ _ (T53.setTop (mkF m 142 #[.val (.int pp), .val (.int pq), .val (.long qc1), .second, .val (.long qc2), .second, .val (.int ps1), .val (.int ps2), .val (.int (Int32.ofNat n)), .val (.int kd1), .val (.int kd2), .val (.int (Int32.ofNat i)), .val (.int (Int32.ofNat j)), .val (.int (Int32.ofNat k)), .val (.ref r35), .val (.ref r47), .val (.ref b48), .val (.int (1 : Int32))] []))
        refine own_go (fun t_ k_ => XS.aload X53.here hx rfl (hb hby at_142) rfl rfl k_) ?_
        show OwnFin p e below s _ _ _ (T53.setTop (mkF m 144 #[.val (.int pp), .val (.int pq), .val (.long qc1), .second, .val (.long qc2), .second, .val (.int ps1), .val (.int ps2), .val (.int (Int32.ofNat n)), .val (.int kd1), .val (.int kd2), .val (.int (Int32.ofNat i)), .val (.int (Int32.ofNat j)), .val (.int (Int32.ofNat k)), .val (.ref r35), .val (.ref r47), .val (.ref b48), .val (.int (1 : Int32))] [(.ref b48)]))
        refine own_go (fun t_ k_ => XS.iload X53.here hx rfl (hb hby at_144) rfl k_) ?_
        show OwnFin p e below s _ _ _ (T53.setTop (mkF m 146 #[.val (.int pp), .val (.int pq), .val (.long qc1), .second, .val (.long qc2), .second, .val (.int ps1), .val (.int ps2), .val (.int (Int32.ofNat n)), .val (.int kd1), .val (.int kd2), .val (.int (Int32.ofNat i)), .val (.int (Int32.ofNat j)), .val (.int (Int32.ofNat k)), .val (.ref r35), .val (.ref r47), .val (.ref b48), .val (.int (1 : Int32))] [(.int (Int32.ofNat i)), (.ref b48)]))
        obtain ⟨v55, T55, L55, X55, hQ55, st55⟩ := own_callV X53 hx hZ (y := (⟨"com/example/nearside/nearside/support/SplitDecimalArray", "get", "(I)Lcom/example/nearside/nearside/support/SplitDecimal;"⟩ : MethodName)) (z := (⟨"com/example/nearside/nearside/support/SplitDecimalArray", "get", "(I)Lcom/example/nearside/nearside/support/SplitDecimal;"⟩ : MethodName)) hown (hw _ (List.mem_of_getElem? (i := 31) rfl)) (hw _ (List.mem_of_getElem? (i := 32) rfl)) (notFace_of_selects (args := #[]) (mvT hZ (hw _ (List.mem_of_getElem? (i := 34) rfl)))) (hw _ (List.mem_of_getElem? (i := 34) rfl)) (hw _ (List.mem_of_getElem? (i := 33) rfl)) (hw _ (List.mem_of_getElem? (i := 6) rfl)) (hw _ (List.mem_of_getElem? (i := 35) rfl)) (by decide) (W := 0) (rm6_C l Z a0 hw [] b48 (Int32.ofNat i) ca sc n i (fun z => if z = j then (own_c qc2) else (fun z => if z = i then (own_c qc1) else (fun _ => (-9223372036854775808 : Int64)) z) z) (fun z => if z = j then ps2 else (fun z => if z = i then ps1 else (fun _ => (0 : Int32)) z) z) (own_c qc1) ps1 T52.heap n0 Z52 rfl hin F_compact_52 F_scale_52 Vc51_52 Vs51_52 (by (try dsimp only); rw [if_neg hij, if_pos rfl]) (by (try dsimp only); rw [if_neg hij, if_pos rfl]) (own_cw _)) (by decide) (by decide) E_ao_52 (g := (mkF m 146 #[.val (.int pp), .val (.int pq), .val (.long qc1), .second, .val (.long qc2), .second, .val (.int ps1), .val (.int ps2), .val (.int (Int32.ofNat n)), .val (.int kd1), .val (.int kd2), .val (.int (Int32.ofNat i)), .val (.int (Int32.ofNat j)), .val (.int (Int32.ofNat k)), .val (.ref r35), .val (.ref r47), .val (.ref b48), .val (.int (1 : Int32))] [(.int (Int32.ofNat i)), (.ref b48)])) rfl (by rw [hml]; rfl) (argsL := [(.int (Int32.ofNat i))]) (rest := []) (lenOf pd_0_5 rfl) rfl (by show 2 * 0 + _ ≤ _; exact Nat.le_of_eq rfl) (hb hby at_146) e53 rfl (by decide) (by decide)
        obtain ⟨r55, rfl, Nq55, Kq55, sq55, Eq55, Fq55_0, Fq55_1⟩ := hQ55
        have N55 := Fr.app N53 Nq55
        have g_r55 : n0 ≤ r55 := Nat.le_trans Z52 sq55
        have ne_r35_r55 : r35 ≠ r55 := Nat.ne_of_lt (Nat.lt_of_lt_of_le E_r35_52.lt sq55)
        have ne_r47_r55 : r47 ≠ r55 := Nat.ne_of_lt (Nat.lt_of_lt_of_le E_r47_52.lt sq55)
        have ne_b48_r55 : b48 ≠ r55 := Nat.ne_of_lt (Nat.lt_of_lt_of_le E_ao_52.lt sq55)
        have ne_ca_r55 : ca ≠ r55 := Nat.ne_of_lt (Nat.lt_of_lt_of_le Vc51_52.lt sq55)
        have ne_sc_r55 : sc ≠ r55 := Nat.ne_of_lt (Nat.lt_of_lt_of_le Vs51_52.lt sq55)
        have ne_r52_r55 : r52 ≠ r55 := Nat.ne_of_lt (Nat.lt_of_lt_of_le Eq52.lt sq55)
        have E_r35_55 := E_r35_52.keep Kq55
        have F_compact_r35_55 := F_compact_r35_52.keep Kq55 nin0
        have F_scale_r35_55 := F_scale_r35_52.keep Kq55 nin0
        have E_r47_55 := E_r47_52.keep Kq55
        have F_compact_r47_55 := F_compact_r47_52.keep Kq55 nin0
        have F_scale_r47_55 := F_scale_r47_52.keep Kq55 nin0
        have E_ao_55 := E_ao_52.keep Kq55
        have F_compact_55 := F_compact_52.keep Kq55 nin0
        have F_scale_55 := F_scale_52.keep Kq55 nin0
        have F_whole_55 := F_whole_52.keep Kq55 nin0
        have Vc51_55 := Vc51_52.keep Kq55 nin0
        have Vs51_55 := Vs51_52.keep Kq55 nin0
        have E_r52_55 := Eq52.keep Kq55
        have F_compact_r52_55 := Fq52_0.keep Kq55 nin0
        have F_scale_r52_55 := Fq52_1.keep Kq55 nin0
        have Z55 : n0 ≤ T55.heap.size := Nat.le_trans Z52 Kq55.1
        refine own_go st55 ?_
        show OwnFin p e below s _ _ _ (T55.setTop (mkF m 149 #[.val (.int pp), .val (.int pq), .val (.long qc1), .second, .val (.long qc2), .second, .val (.int ps1), .val (.int ps2), .val (.int (Int32.ofNat n)), .val (.int kd1), .val (.int kd2), .val (.int (Int32.ofNat i)), .val (.int (Int32.ofNat j)), .val (.int (Int32.ofNat k)), .val (.ref r35), .val (.ref r47), .val (.ref b48), .val (.int (1 : Int32))] [(.ref r55)]))
        refine own_go (fun t_ k_ => XS.aload X55.here hx rfl (hb hby at_149) rfl rfl k_) ?_
        show OwnFin p e below s _ _ _ (T55.setTop (mkF m 151 #[.val (.int pp), .val (.int pq), .val (.long qc1), .second, .val (.long qc2), .second, .val (.int ps1), .val (.int ps2), .val (.int (Int32.ofNat n)), .val (.int kd1), .val (.int kd2), .val (.int (Int32.ofNat i)), .val (.int (Int32.ofNat j)), .val (.int (Int32.ofNat k)), .val (.ref r35), .val (.ref r47), .val (.ref b48), .val (.int (1 : Int32))] [(.ref r35), (.ref r55)]))
        obtain ⟨v56, T56, L56, X56, hQ56, st56⟩ := own_callS X55 hx hZ (y := (⟨"com/example/nearside/nearside/support/SplitDecimalArraySetPinLaw", "holds", "(Lcom/example/nearside/nearside/support/SplitDecimal;Lcom/example/nearside/nearside/support/SplitDecimal;)Z"⟩ : MethodName)) hown (hw _ (List.mem_of_getElem? (i := 36) rfl)) (hw _ (List.mem_of_getElem? (i := 37) rfl)) (hw _ (List.mem_of_getElem? (i := 2) rfl)) (hw _ (List.mem_of_getElem? (i := 38) rfl)) (by decide) (W := 0) (rm7_C l Z a0 hw [] r55 r35 T55.heap n0 Z55 (own_cw _) Fq55_0 Fq55_1 F_compact_r35_55 F_scale_r35_55) (by decide) (by decide) (g := (mkF m 151 #[.val (.int pp), .val (.int pq), .val (.long qc1), .second, .val (.long qc2), .second, .val (.int ps1), .val (.int ps2), .val (.int (Int32.ofNat n)), .val (.int kd1), .val (.int kd2), .val (.int (Int32.ofNat i)), .val (.int (Int32.ofNat j)), .val (.int (Int32.ofNat k)), .val (.ref r35), .val (.ref r47), .val (.ref b48), .val (.int (1 : Int32))] [(.ref r35), (.ref r55)])) rfl (by rw [hml]; rfl) (argsL := [(.ref r55), (.ref r35)]) (rest := []) (lenOf pd_0_6 rfl) rfl (by show 2 * 0 + _ ≤ _; exact Nat.le_of_eq rfl) (hb hby at_151) rfl rfl (by decide) (by decide)
        obtain ⟨rfl, Nq56, e56⟩ := hQ56
        have N56 := Fr.app N55 Nq56
        refine own_go st56 ?_
        show OwnFin p e below s _ _ _ (T56.setTop (mkF m 154 #[.val (.int pp), .val (.int pq), .val (.long qc1), .second, .val (.long qc2), .second, .val (.int ps1), .val (.int ps2), .val (.int (Int32.ofNat n)), .val (.int kd1), .val (.int kd2), .val (.int (Int32.ofNat i)), .val (.int (Int32.ofNat j)), .val (.int (Int32.ofNat k)), .val (.ref r35), .val (.ref r47), .val (.ref b48), .val (.int (1 : Int32))] [(.int (1 : Int32))]))
        refine own_go (fun t_ k_ => XS.ifNo X56.here hx rfl (hb hby at_154) rfl ((if0 _ _).trans (feq (by decide)).1) k_) ?_
        show OwnFin p e below s _ _ _ (T56.setTop (mkF m 157 #[.val (.int pp), .val (.int pq), .val (.long qc1), .second, .val (.long qc2), .second, .val (.int ps1), .val (.int ps2), .val (.int (Int32.ofNat n)), .val (.int kd1), .val (.int kd2), .val (.int (Int32.ofNat i)), .val (.int (Int32.ofNat j)), .val (.int (Int32.ofNat k)), .val (.ref r35), .val (.ref r47), .val (.ref b48), .val (.int (1 : Int32))] []))
        refine own_go (fun t_ k_ => XS.iconst X56.here hx rfl (hb hby at_157) k_) ?_
        show OwnFin p e below s _ _ _ (T56.setTop (mkF m 158 #[.val (.int pp), .val (.int pq), .val (.long qc1), .second, .val (.long qc2), .second, .val (.int ps1), .val (.int ps2), .val (.int (Int32.ofNat n)), .val (.int kd1), .val (.int kd2), .val (.int (Int32.ofNat i)), .val (.int (Int32.ofNat j)), .val (.int (Int32.ofNat k)), .val (.ref r35), .val (.ref r47), .val (.ref b48), .val (.int (1 : Int32))] [(.int (1 : Int32))]))
        refine own_go (fun t_ k_ => XS.goto X56.here hx rfl (pc0 := 158) (pc' := 162) rfl (hb hby at_158) (by decide) (by decide) k_) ?_
        show OwnFin p e below s _ _ _ (T56.setTop (mkF m 162 #[.val (.int pp), .val (.int pq), .val (.long qc1), .second, .val (.long qc2), .second, .val (.int ps1), .val (.int ps2), .val (.int (Int32.ofNat n)), .val (.int kd1), .val (.int kd2), .val (.int (Int32.ofNat i)), .val (.int (Int32.ofNat j)), .val (.int (Int32.ofNat k)), .val (.ref r35), .val (.ref r47), .val (.ref b48), .val (.int (1 : Int32))] [(.int (1 : Int32))]))
        refine own_go (fun t_ k_ => XS.istore X56.here hx rfl (hb hby at_162) rfl (l' := #[.val (.int pp), .val (.int pq), .val (.long qc1), .second, .val (.long qc2), .second, .val (.int ps1), .val (.int ps2), .val (.int (Int32.ofNat n)), .val (.int kd1), .val (.int kd2), .val (.int (Int32.ofNat i)), .val (.int (Int32.ofNat j)), .val (.int (Int32.ofNat k)), .val (.ref r35), .val (.ref r47), .val (.ref b48), .val (.int (1 : Int32))]) rfl k_) ?_
        show OwnFin p e below s _ _ _ (T56.setTop (mkF m 164 #[.val (.int pp), .val (.int pq), .val (.long qc1), .second, .val (.long qc2), .second, .val (.int ps1), .val (.int ps2), .val (.int (Int32.ofNat n)), .val (.int kd1), .val (.int kd2), .val (.int (Int32.ofNat i)), .val (.int (Int32.ofNat j)), .val (.int (Int32.ofNat k)), .val (.ref r35), .val (.ref r47), .val (.ref b48), .val (.int (1 : Int32))] []))
        by_cases hki : k = i
        · refine own_go (fun t_ k_ => XS.iload X56.here hx rfl (hb hby at_164) rfl k_) ?_
          show OwnFin p e below s _ _ _ (T56.setTop (mkF m 166 #[.val (.int pp), .val (.int pq), .val (.long qc1), .second, .val (.long qc2), .second, .val (.int ps1), .val (.int ps2), .val (.int (Int32.ofNat n)), .val (.int kd1), .val (.int kd2), .val (.int (Int32.ofNat i)), .val (.int (Int32.ofNat j)), .val (.int (Int32.ofNat k)), .val (.ref r35), .val (.ref r47), .val (.ref b48), .val (.int (1 : Int32))] [(.int (Int32.ofNat k))]))
          refine own_go (fun t_ k_ => XS.iload X56.here hx rfl (hb hby at_166) rfl k_) ?_
          show OwnFin p e below s _ _ _ (T56.setTop (mkF m 168 #[.val (.int pp), .val (.int pq), .val (.long qc1), .second, .val (.long qc2), .second, .val (.int ps1), .val (.int ps2), .val (.int (Int32.ofNat n)), .val (.int kd1), .val (.int kd2), .val (.int (Int32.ofNat i)), .val (.int (Int32.ofNat j)), .val (.int (Int32.ofNat k)), .val (.ref r35), .val (.ref r47), .val (.ref b48), .val (.int (1 : Int32))] [(.int (Int32.ofNat i)), (.int (Int32.ofNat k))]))
          have hc168 : (Int32.ofNat k) = (Int32.ofNat i) := by rw [hki]
          refine own_go (fun t_ k_ => XS.icmpYes X56.here hx rfl (pc0 := 168) (pc' := 200) rfl (hb hby at_168) rfl (teq hc168).1 (by decide) (by decide) k_) ?_
          show OwnFin p e below s _ _ _ (T56.setTop (mkF m 200 #[.val (.int pp), .val (.int pq), .val (.long qc1), .second, .val (.long qc2), .second, .val (.int ps1), .val (.int ps2), .val (.int (Int32.ofNat n)), .val (.int kd1), .val (.int kd2), .val (.int (Int32.ofNat i)), .val (.int (Int32.ofNat j)), .val (.int (Int32.ofNat k)), .val (.ref r35), .val (.ref r47), .val (.ref b48), .val (.int (1 : Int32))] []))
          refine own_go (fun t_ k_ => XS.iload X56.here hx rfl (hb hby at_200) rfl k_) ?_
          show OwnFin p e below s _ _ _ (T56.setTop (mkF m 202 #[.val (.int pp), .val (.int pq), .val (.long qc1), .second, .val (.long qc2), .second, .val (.int ps1), .val (.int ps2), .val (.int (Int32.ofNat n)), .val (.int kd1), .val (.int kd2), .val (.int (Int32.ofNat i)), .val (.int (Int32.ofNat j)), .val (.int (Int32.ofNat k)), .val (.ref r35), .val (.ref r47), .val (.ref b48), .val (.int (1 : Int32))] [(.int (1 : Int32))]))
          refine own_ret X56 (v := some (.int (1 : Int32))) hlk (fun hh => by rw [hret] at hh; cases hh) (fun fs hr => retN X56 hx (t := .boolean) hret (by simp) (hb hby at_202) hr) (by decide) (by decide) ?_
          exact ⟨rfl, N56⟩
        · refine own_go (fun t_ k_ => XS.iload X56.here hx rfl (hb hby at_164) rfl k_) ?_
          show OwnFin p e below s _ _ _ (T56.setTop (mkF m 166 #[.val (.int pp), .val (.int pq), .val (.long qc1), .second, .val (.long qc2), .second, .val (.int ps1), .val (.int ps2), .val (.int (Int32.ofNat n)), .val (.int kd1), .val (.int kd2), .val (.int (Int32.ofNat i)), .val (.int (Int32.ofNat j)), .val (.int (Int32.ofNat k)), .val (.ref r35), .val (.ref r47), .val (.ref b48), .val (.int (1 : Int32))] [(.int (Int32.ofNat k))]))
          refine own_go (fun t_ k_ => XS.iload X56.here hx rfl (hb hby at_166) rfl k_) ?_
          show OwnFin p e below s _ _ _ (T56.setTop (mkF m 168 #[.val (.int pp), .val (.int pq), .val (.long qc1), .second, .val (.long qc2), .second, .val (.int ps1), .val (.int ps2), .val (.int (Int32.ofNat n)), .val (.int kd1), .val (.int kd2), .val (.int (Int32.ofNat i)), .val (.int (Int32.ofNat j)), .val (.int (Int32.ofNat k)), .val (.ref r35), .val (.ref r47), .val (.ref b48), .val (.int (1 : Int32))] [(.int (Int32.ofNat i)), (.int (Int32.ofNat k))]))
          have hc168 : ¬ ((Int32.ofNat k) = (Int32.ofNat i)) := fun q => hki (own_ofNat_inj (by omega) (by omega) q)
          refine own_go (fun t_ k_ => XS.icmpNo X56.here hx rfl (hb hby at_168) rfl (feq hc168).1 k_) ?_
          show OwnFin p e below s _ _ _ (T56.setTop (mkF m 171 #[.val (.int pp), .val (.int pq), .val (.long qc1), .second, .val (.long qc2), .second, .val (.int ps1), .val (.int ps2), .val (.int (Int32.ofNat n)), .val (.int kd1), .val (.int kd2), .val (.int (Int32.ofNat i)), .val (.int (Int32.ofNat j)), .val (.int (Int32.ofNat k)), .val (.ref r35), .val (.ref r47), .val (.ref b48), .val (.int (1 : Int32))] []))
          by_cases hkj : k = j
          · refine own_go (fun t_ k_ => XS.iload X56.here hx rfl (hb hby at_171) rfl k_) ?_
            show OwnFin p e below s _ _ _ (T56.setTop (mkF m 173 #[.val (.int pp), .val (.int pq), .val (.long qc1), .second, .val (.long qc2), .second, .val (.int ps1), .val (.int ps2), .val (.int (Int32.ofNat n)), .val (.int kd1), .val (.int kd2), .val (.int (Int32.ofNat i)), .val (.int (Int32.ofNat j)), .val (.int (Int32.ofNat k)), .val (.ref r35), .val (.ref r47), .val (.ref b48), .val (.int (1 : Int32))] [(.int (Int32.ofNat k))]))
            refine own_go (fun t_ k_ => XS.iload X56.here hx rfl (hb hby at_173) rfl k_) ?_
            show OwnFin p e below s _ _ _ (T56.setTop (mkF m 175 #[.val (.int pp), .val (.int pq), .val (.long qc1), .second, .val (.long qc2), .second, .val (.int ps1), .val (.int ps2), .val (.int (Int32.ofNat n)), .val (.int kd1), .val (.int kd2), .val (.int (Int32.ofNat i)), .val (.int (Int32.ofNat j)), .val (.int (Int32.ofNat k)), .val (.ref r35), .val (.ref r47), .val (.ref b48), .val (.int (1 : Int32))] [(.int (Int32.ofNat j)), (.int (Int32.ofNat k))]))
            have hc175 : (Int32.ofNat k) = (Int32.ofNat j) := by rw [hkj]
            refine own_go (fun t_ k_ => XS.icmpYes X56.here hx rfl (pc0 := 175) (pc' := 200) rfl (hb hby at_175) rfl (teq hc175).1 (by decide) (by decide) k_) ?_
            show OwnFin p e below s _ _ _ (T56.setTop (mkF m 200 #[.val (.int pp), .val (.int pq), .val (.long qc1), .second, .val (.long qc2), .second, .val (.int ps1), .val (.int ps2), .val (.int (Int32.ofNat n)), .val (.int kd1), .val (.int kd2), .val (.int (Int32.ofNat i)), .val (.int (Int32.ofNat j)), .val (.int (Int32.ofNat k)), .val (.ref r35), .val (.ref r47), .val (.ref b48), .val (.int (1 : Int32))] []))
            refine own_go (fun t_ k_ => XS.iload X56.here hx rfl (hb hby at_200) rfl k_) ?_
            show OwnFin p e below s _ _ _ (T56.setTop (mkF m 202 #[.val (.int pp), .val (.int pq), .val (.long qc1), .second, .val (.long qc2), .second, .val (.int ps1), .val (.int ps2), .val (.int (Int32.ofNat n)), .val (.int kd1), .val (.int kd2), .val (.int (Int32.ofNat i)), .val (.int (Int32.ofNat j)), .val (.int (Int32.ofNat k)), .val (.ref r35), .val (.ref r47), .val (.ref b48), .val (.int (1 : Int32))] [(.int (1 : Int32))]))
            refine own_ret X56 (v := some (.int (1 : Int32))) hlk (fun hh => by rw [hret] at hh; cases hh) (fun fs hr => retN X56 hx (t := .boolean) hret (by simp) (hb hby at_202) hr) (by decide) (by decide) ?_
            exact ⟨rfl, N56⟩
          · refine own_go (fun t_ k_ => XS.iload X56.here hx rfl (hb hby at_171) rfl k_) ?_
            show OwnFin p e below s _ _ _ (T56.setTop (mkF m 173 #[.val (.int pp), .val (.int pq), .val (.long qc1), .second, .val (.long qc2), .second, .val (.int ps1), .val (.int ps2), .val (.int (Int32.ofNat n)), .val (.int kd1), .val (.int kd2), .val (.int (Int32.ofNat i)), .val (.int (Int32.ofNat j)), .val (.int (Int32.ofNat k)), .val (.ref r35), .val (.ref r47), .val (.ref b48), .val (.int (1 : Int32))] [(.int (Int32.ofNat k))]))
            refine own_go (fun t_ k_ => XS.iload X56.here hx rfl (hb hby at_173) rfl k_) ?_
            show OwnFin p e below s _ _ _ (T56.setTop (mkF m 175 #[.val (.int pp), .val (.int pq), .val (.long qc1), .second, .val (.long qc2), .second, .val (.int ps1), .val (.int ps2), .val (.int (Int32.ofNat n)), .val (.int kd1), .val (.int kd2), .val (.int (Int32.ofNat i)), .val (.int (Int32.ofNat j)), .val (.int (Int32.ofNat k)), .val (.ref r35), .val (.ref r47), .val (.ref b48), .val (.int (1 : Int32))] [(.int (Int32.ofNat j)), (.int (Int32.ofNat k))]))
            have hc175 : ¬ ((Int32.ofNat k) = (Int32.ofNat j)) := fun q => hkj (own_ofNat_inj (by omega) (by omega) q)
            refine own_go (fun t_ k_ => XS.icmpNo X56.here hx rfl (hb hby at_175) rfl (feq hc175).1 k_) ?_
            show OwnFin p e below s _ _ _ (T56.setTop (mkF m 178 #[.val (.int pp), .val (.int pq), .val (.long qc1), .second, .val (.long qc2), .second, .val (.int ps1), .val (.int ps2), .val (.int (Int32.ofNat n)), .val (.int kd1), .val (.int kd2), .val (.int (Int32.ofNat i)), .val (.int (Int32.ofNat j)), .val (.int (Int32.ofNat k)), .val (.ref r35), .val (.ref r47), .val (.ref b48), .val (.int (1 : Int32))] []))
            refine own_go (fun t_ k_ => XS.iload X56.here hx rfl (hb hby at_178) rfl k_) ?_
            show OwnFin p e below s _ _ _ (T56.setTop (mkF m 180 #[.val (.int pp), .val (.int pq), .val (.long qc1), .second, .val (.long qc2), .second, .val (.int ps1), .val (.int ps2), .val (.int (Int32.ofNat n)), .val (.int kd1), .val (.int kd2), .val (.int (Int32.ofNat i)), .val (.int (Int32.ofNat j)), .val (.int (Int32.ofNat k)), .val (.ref r35), .val (.ref r47), .val (.ref b48), .val (.int (1 : Int32))] [(.int (1 : Int32))]))
            refine own_go (fun t_ k_ => XS.ifNo X56.here hx rfl (hb hby at_180) rfl ((if0 _ _).trans (feq (by decide)).1) k_) ?_
            show OwnFin p e below s _ _ _ (T56.setTop (mkF m 183 #[.val (.int pp), .val (.int pq), .val (.long qc1), .second, .val (.long qc2), .second, .val (.int ps1), .val (.int ps2), .val (.int (Int32.ofNat n)), .val (.int kd1), .val (.int kd2), .val (.int (Int32.ofNat i)), .val (.int (Int32.ofNat j)), .val (.int (Int32.ofNat k)), .val (.ref r35), .val (.ref r47), .val (.ref b48), .val (.int (1 : Int32))] []))
            refine own_go (fun t_ k_ => XS.aload X56.here hx rfl (hb hby at_183) rfl rfl k_) ?_
            show OwnFin p e below s _ _ _ (T56.setTop (mkF m 185 #[.val (.int pp), .val (.int pq), .val (.long qc1), .second, .val (.long qc2), .second, .val (.int ps1), .val (.int ps2), .val (.int (Int32.ofNat n)), .val (.int kd1), .val (.int kd2), .val (.int (Int32.ofNat i)), .val (.int (Int32.ofNat j)), .val (.int (Int32.ofNat k)), .val (.ref r35), .val (.ref r47), .val (.ref b48), .val (.int (1 : Int32))] [(.ref b48)]))
            refine own_go (fun t_ k_ => XS.iload X56.here hx rfl (hb hby at_185) rfl k_) ?_
            show OwnFin p e below s _ _ _ (T56.setTop (mkF m 187 #[.val (.int pp), .val (.int pq), .val (.long qc1), .second, .val (.long qc2), .second, .val (.int ps1), .val (.int ps2), .val (.int (Int32.ofNat n)), .val (.int kd1), .val (.int kd2), .val (.int (Int32.ofNat i)), .val (.int (Int32.ofNat j)), .val (.int (Int32.ofNat k)), .val (.ref r35), .val (.ref r47), .val (.ref b48), .val (.int (1 : Int32))] [(.int (Int32.ofNat k)), (.ref b48)]))
            obtain ⟨v57, T57, L57, X57, hQ57, st57⟩ := own_callV X56 hx hZ (y := (⟨"com/example/nearside/nearside/support/SplitDecimalArray", "get", "(I)Lcom/example/nearside/nearside/support/SplitDecimal;"⟩ : MethodName)) (z := (⟨"com/example/nearside/nearside/support/SplitDecimalArray", "get", "(I)Lcom/example/nearside/nearside/support/SplitDecimal;"⟩ : MethodName)) hown (hw _ (List.mem_of_getElem? (i := 31) rfl)) (hw _ (List.mem_of_getElem? (i := 32) rfl)) (notFace_of_selects (args := #[]) (mvT hZ (hw _ (List.mem_of_getElem? (i := 34) rfl)))) (hw _ (List.mem_of_getElem? (i := 34) rfl)) (hw _ (List.mem_of_getElem? (i := 33) rfl)) (hw _ (List.mem_of_getElem? (i := 6) rfl)) (hw _ (List.mem_of_getElem? (i := 35) rfl)) (by decide) (W := 0) (rm6_N l Z a0 hw [] b48 (Int32.ofNat k) ca n k (fun z => if z = j then (own_c qc2) else (fun z => if z = i then (own_c qc1) else (fun _ => (-9223372036854775808 : Int64)) z) z) T55.heap n0 Z55 rfl hkn F_compact_55 F_whole_55 Vc51_55 (by (try dsimp only); rw [if_neg hkj, if_neg hki])) (by decide) (by decide) E_ao_55 (g := (mkF m 187 #[.val (.int pp), .val (.int pq), .val (.long qc1), .second, .val (.long qc2), .second, .val (.int ps1), .val (.int ps2), .val (.int (Int32.ofNat n)), .val (.int kd1), .val (.int kd2), .val (.int (Int32.ofNat i)), .val (.int (Int32.ofNat j)), .val (.int (Int32.ofNat k)), .val (.ref r35), .val (.ref r47), .val (.ref b48), .val (.int (1 : Int32))] [(.int (Int32.ofNat k)), (.ref b48)])) rfl (by rw [hml]; rfl) (argsL := [(.int (Int32.ofNat k))]) (rest := []) (lenOf pd_0_5 rfl) rfl (by show 2 * 0 + _ ≤ _; exact Nat.le_of_eq rfl) (hb hby at_187) e56 rfl (by decide) (by decide)
            obtain ⟨rfl, Nq57, e57⟩ := hQ57
            have N57 := Fr.app N56 Nq57
            refine own_go st57 ?_
            show OwnFin p e below s _ _ _ (T57.setTop (mkF m 190 #[.val (.int pp), .val (.int pq), .val (.long qc1), .second, .val (.long qc2), .second, .val (.int ps1), .val (.int ps2), .val (.int (Int32.ofNat n)), .val (.int kd1), .val (.int kd2), .val (.int (Int32.ofNat i)), .val (.int (Int32.ofNat j)), .val (.int (Int32.ofNat k)), .val (.ref r35), .val (.ref r47), .val (.ref b48), .val (.int (1 : Int32))] [.null]))
            refine own_go (fun t_ k_ => XS.ifnonnullNo X57.here hx rfl (hb hby at_190) rfl k_) ?_
            show OwnFin p e below s _ _ _ (T57.setTop (mkF m 193 #[.val (.int pp), .val (.int pq), .val (.long qc1), .second, .val (.long qc2), .second, .val (.int ps1), .val (.int ps2), .val (.int (Int32.ofNat n)), .val (.int kd1), .val (.int kd2), .val (.int (Int32.ofNat i)), .val (.int (Int32.ofNat j)), .val (.int (Int32.ofNat k)), .val (.ref r35), .val (.ref r47), .val (.ref b48), .val (.int (1 : Int32))] []))
            refine own_go (fun t_ k_ => XS.iconst X57.here hx rfl (hb hby at_193) k_) ?_
            show OwnFin p e below s _ _ _ (T57.setTop (mkF m 194 #[.val (.int pp), .val (.int pq), .val (.long qc1), .second, .val (.long qc2), .second, .val (.int ps1), .val (.int ps2), .val (.int (Int32.ofNat n)), .val (.int kd1), .val (.int kd2), .val (.int (Int32.ofNat i)), .val (.int (Int32.ofNat j)), .val (.int (Int32.ofNat k)), .val (.ref r35), .val (.ref r47), .val (.ref b48), .val (.int (1 : Int32))] [(.int (1 : Int32))]))
            refine own_go (fun t_ k_ => XS.goto X57.here hx rfl (pc0 := 194) (pc' := 198) rfl (hb hby at_194) (by decide) (by decide) k_) ?_
            show OwnFin p e below s _ _ _ (T57.setTop (mkF m 198 #[.val (.int pp), .val (.int pq), .val (.long qc1), .second, .val (.long qc2), .second, .val (.int ps1), .val (.int ps2), .val (.int (Int32.ofNat n)), .val (.int kd1), .val (.int kd2), .val (.int (Int32.ofNat i)), .val (.int (Int32.ofNat j)), .val (.int (Int32.ofNat k)), .val (.ref r35), .val (.ref r47), .val (.ref b48), .val (.int (1 : Int32))] [(.int (1 : Int32))]))
            refine own_go (fun t_ k_ => XS.istore X57.here hx rfl (hb hby at_198) rfl (l' := #[.val (.int pp), .val (.int pq), .val (.long qc1), .second, .val (.long qc2), .second, .val (.int ps1), .val (.int ps2), .val (.int (Int32.ofNat n)), .val (.int kd1), .val (.int kd2), .val (.int (Int32.ofNat i)), .val (.int (Int32.ofNat j)), .val (.int (Int32.ofNat k)), .val (.ref r35), .val (.ref r47), .val (.ref b48), .val (.int (1 : Int32))]) rfl k_) ?_
            show OwnFin p e below s _ _ _ (T57.setTop (mkF m 200 #[.val (.int pp), .val (.int pq), .val (.long qc1), .second, .val (.long qc2), .second, .val (.int ps1), .val (.int ps2), .val (.int (Int32.ofNat n)), .val (.int kd1), .val (.int kd2), .val (.int (Int32.ofNat i)), .val (.int (Int32.ofNat j)), .val (.int (Int32.ofNat k)), .val (.ref r35), .val (.ref r47), .val (.ref b48), .val (.int (1 : Int32))] []))
            refine own_go (fun t_ k_ => XS.iload X57.here hx rfl (hb hby at_200) rfl k_) ?_
            show OwnFin p e below s _ _ _ (T57.setTop (mkF m 202 #[.val (.int pp), .val (.int pq), .val (.long qc1), .second, .val (.long qc2), .second, .val (.int ps1), .val (.int ps2), .val (.int (Int32.ofNat n)), .val (.int kd1), .val (.int kd2), .val (.int (Int32.ofNat i)), .val (.int (Int32.ofNat j)), .val (.int (Int32.ofNat k)), .val (.ref r35), .val (.ref r47), .val (.ref b48), .val (.int (1 : Int32))] [(.int (1 : Int32))]))
            refine own_ret X57 (v := some (.int (1 : Int32))) hlk (fun hh => by rw [hret] at hh; cases hh) (fun fs hr => retN X57 hx (t := .boolean) hret (by simp) (hb hby at_202) hr) (by decide) (by decide) ?_
            exact ⟨rfl, N57⟩
    refine own_go (fun t_ k_ => XS.iload X35.here hx rfl (hb hby at_76) rfl k_) ?_
    show OwnFin p e below s _ _ _ (T35.setTop (mkF m 78 #[.val (.int pp), .val (.int pq), .val (.long qc1), .second, .val (.long qc2), .second, .val (.int ps1), .val (.int ps2), .val (.int (Int32.ofNat n)), .val (.int kd1), .val (.int kd2), .val (.int (Int32.ofNat i)), .val (.int (Int32.ofNat j)), .val (.int (Int32.ofNat k)), .val (.ref r35), .unset, .unset, .unset] [(.int kd2)]))
    refine own_go (fun t_ k_ => XS.lload X35.here hx rfl (hb hby at_78) rfl k_) ?_
    show OwnFin p e below s _ _ _ (T35.setTop (mkF m 80 #[.val (.int pp), .val (.int pq), .val (.long qc1), .second, .val (.long qc2), .second, .val (.int ps1), .val (.int ps2), .val (.int (Int32.ofNat n)), .val (.int kd1), .val (.int kd2), .val (.int (Int32.ofNat i)), .val (.int (Int32.ofNat j)), .val (.int (Int32.ofNat k)), .val (.ref r35), .unset, .unset, .unset] [(.long qc2), (.int kd2)]))
    refine own_go (fun t_ k_ => XS.iload X35.here hx rfl (hb hby at_80) rfl k_) ?_
    show OwnFin p e below s _ _ _ (T35.setTop (mkF m 82 #[.val (.int pp), .val (.int pq), .val (.long qc1), .second, .val (.long qc2), .second, .val (.int ps1), .val (.int ps2), .val (.int (Int32.ofNat n)), .val (.int kd1), .val (.int kd2), .val (.int (Int32.ofNat i)), .val (.int (Int32.ofNat j)), .val (.int (Int32.ofNat k)), .val (.ref r35), .unset, .unset, .unset] [(.int ps2), (.long qc2), (.int kd2)]))
    obtain ⟨v58, T58, L58, X58, hQ58, st58⟩ := own_callS X35 hx hZ (y := (⟨"com/example/nearside/nearside/support/SplitDecimalArraySetPinLaw", "make", "(IJI)Lcom/example/nearside/nearside/support/SplitDecimal;"⟩ : MethodName)) hown (hw _ (List.mem_of_getElem? (i := 0) rfl)) (hw _ (List.mem_of_getElem? (i := 1) rfl)) (hw _ (List.mem_of_getElem? (i := 2) rfl)) (hw _ (List.mem_of_getElem? (i := 3) rfl)) (by decide) (W := 0) (rm1_2 l Z a0 hw [] kd2 qc2 ps2 T35.heap n0 Z35 hz2 ho2) (by decide) (by decide) (g := (mkF m 82 #[.val (.int pp), .val (.int pq), .val (.long qc1), .second, .val (.long qc2), .second, .val (.int ps1), .val (.int ps2), .val (.int (Int32.ofNat n)), .val (.int kd1), .val (.int kd2), .val (.int (Int32.ofNat i)), .val (.int (Int32.ofNat j)), .val (.int (Int32.ofNat k)), .val (.ref r35), .unset, .unset, .unset] [(.int ps2), (.long qc2), (.int kd2)])) rfl (by rw [hml]; rfl) (argsL := [(.int kd2), (.long qc2), (.int ps2)]) (rest := []) (lenOf pd_0_0 rfl) rfl (by show 2 * 0 + _ ≤ _; exact Nat.le_of_eq rfl) (hb hby at_82) rfl rfl (by decide) (by decide)
    obtain ⟨r58, rfl, Nq58, Kq58, sq58, Eq58, Fq58_0, Fq58_1⟩ := hQ58
    have N58 := Fr.app N35 Nq58
    have g_r58 : n0 ≤ r58 := Nat.le_trans Z35 sq58
    have ne_r35_r58 : r35 ≠ r58 := Nat.ne_of_lt (Nat.lt_of_lt_of_le Eq35.lt sq58)
    have E_r35_58 := Eq35.keep Kq58
    have F_compact_r35_58 := Fq35_0.keep Kq58 nin0
    have F_scale_r35_58 := Fq35_1.keep Kq58 nin0
    have Z58 : n0 ≤ T58.heap.size := Nat.le_trans Z35 Kq58.1
    refine own_go st58 ?_
    show OwnFin p e below s _ _ _ (T58.setTop (mkF m 85 #[.val (.int pp), .val (.int pq), .val (.long qc1), .second, .val (.long qc2), .second, .val (.int ps1), .val (.int ps2), .val (.int (Int32.ofNat n)), .val (.int kd1), .val (.int kd2), .val (.int (Int32.ofNat i)), .val (.int (Int32.ofNat j)), .val (.int (Int32.ofNat k)), .val (.ref r35), .unset, .unset, .unset] [(.ref r58)]))
    refine own_go (fun t_ k_ => XS.astore X58.here hx rfl (hb hby at_85) rfl rfl (l' := #[.val (.int pp), .val (.int pq), .val (.long qc1), .second, .val (.long qc2), .second, .val (.int ps1), .val (.int ps2), .val (.int (Int32.ofNat n)), .val (.int kd1), .val (.int kd2), .val (.int (Int32.ofNat i)), .val (.int (Int32.ofNat j)), .val (.int (Int32.ofNat k)), .val (.ref r35), .val (.ref r58), .unset, .unset]) rfl k_) ?_
    show OwnFin p e below s _ _ _ (T58.setTop (mkF m 87 #[.val (.int pp), .val (.int pq), .val (.long qc1), .second, .val (.long qc2), .second, .val (.int ps1), .val (.int ps2), .val (.int (Int32.ofNat n)), .val (.int kd1), .val (.int kd2), .val (.int (Int32.ofNat i)), .val (.int (Int32.ofNat j)), .val (.int (Int32.ofNat k)), .val (.ref r35), .val (.ref r58), .unset, .unset] []))
    obtain ⟨T59, h59, X59, e59, E59, A59, D59, -, st59⟩ := newO X58 hx hZ hown (hw _ (List.mem_of_getElem? (i := 4) rfl)) (hw _ (List.mem_of_getElem? (i := 5) rfl)) (hw _ (List.mem_of_getElem? (i := 6) rfl)) rfl (g := (mkF m 87 #[.val (.int pp), .val (.int pq), .val (.long qc1), .second, .val (.long qc2), .second, .val (.int ps1), .val (.int ps2), .val (.int (Int32.ofNat n)), .val (.int kd1), .val (.int kd2), .val (.int (Int32.ofNat i)), .val (.int (Int32.ofNat j)), .val (.int (Int32.ofNat k)), .val (.ref r35), .val (.ref r58), .unset, .unset] [])) rfl (hb hby at_87) (by decide) (by decide)
    obtain ⟨b59, g59⟩ : ∃ z, z = T58.heap.size := ⟨_, rfl⟩
    rw [← g59] at A59 D59 st59
    have g_b59 : n0 ≤ b59 := Nat.le_trans Z58 (Nat.le_of_eq g59.symm)
    have ne_r35_b59 : r35 ≠ b59 := Nat.ne_of_lt (Nat.lt_of_lt_of_le E_r35_58.lt (Nat.le_of_eq g59.symm))
    have ne_r58_b59 : r58 ≠ b59 := Nat.ne_of_lt (Nat.lt_of_lt_of_le Eq58.lt (Nat.le_of_eq g59.symm))
    have E_r35_59 := E_r35_58.ext E59
    have F_compact_r35_59 := F_compact_r35_58.ext E59
    have F_scale_r35_59 := F_scale_r35_58.ext E59
    have E_r58_59 := Eq58.ext E59
    have F_compact_r58_59 := Fq58_0.ext E59
    have F_scale_r58_59 := Fq58_1.ext E59
    have Z59 : n0 ≤ h59.size := Nat.le_trans Z58 E59.1
    have E_b59 := A59
    have F_compact_b59 : Fld Z h59 b59 "com/example/nearside/nearside/support/SplitDecimalArray" "compact" "[J" .null := D59 (Or.inr (hw _ (List.mem_of_getElem? (i := 15) rfl))) (ty := (.array .long)) (by decide)
    have F_scale_b59 : Fld Z h59 b59 "com/example/nearside/nearside/support/SplitDecimalArray" "scale" "[I" .null := D59 (Or.inr (hw _ (List.mem_of_getElem? (i := 18) rfl))) (ty := (.array .int)) (by decide)
    have F_whole_b59 : Fld Z h59 b59 "com/example/nearside/nearside/support/SplitDecimalArray" "whole" "[Lcom/example/nearside/nearside/support/SplitDecimal;" .null := D59 (Or.inl (hw _ (List.mem_of_getElem? (i := 30) rfl))) (ty := (.array (.object "com/example/nearside/nearside/support/SplitDecimal"))) (by decide)
    refine own_go st59 ?_
    show OwnFin p e below s _ _ _ (T59.setTop (mkF m 90 #[.val (.int pp), .val (.int pq), .val (.long qc1), .second, .val (.long qc2), .second, .val (.int ps1), .val (.int ps2), .val (.int (Int32.ofNat n)), .val (.int kd1), .val (.int kd2), .val (.int (Int32.ofNat i)), .val (.int (Int32.ofNat j)), .val (.int (Int32.ofNat k)), .val (.ref r35), .val (.ref r58), .unset, .unset] [(.ref b59)]))
    refine own_go (fun t_ k_ => XS.dup X59.here hx rfl (hb hby at_90) rfl rfl k_) ?_
    show OwnFin p e below s _ _ _ (T59.setTop (mkF m 91 #[.val (.int pp), .val (.int pq), .val (.long qc1), .second, .val (.long qc2), .second, .val (.int ps1), .val (.int ps2), .val (.int (Int32.ofNat n)), .val (.int kd1), .val (.int kd2), .val (.int (Int32.ofNat i)), .val (.int (Int32.ofNat j)), .val (.int (Int32.ofNat k)), .val (.ref r35), .val (.ref r58), .unset, .unset] [(.ref b59), (.ref b59)]))
    refine own_go (fun t_ k_ => XS.iload X59.here hx rfl (hb hby at_91) rfl k_) ?_
    show OwnFin p e below s _ _ _ (T59.setTop (mkF m 93 #[.val (.int pp), .val (.int pq), .val (.long qc1), .second, .val (.long qc2), .second, .val (.int ps1), .val (.int ps2), .val (.int (Int32.ofNat n)), .val (.int kd1), .val (.int kd2), .val (.int (Int32.ofNat i)), .val (.int (Int32.ofNat j)), .val (.int (Int32.ofNat k)), .val (.ref r35), .val (.ref r58), .unset, .unset] [(.int (Int32.ofNat n)), (.ref b59), (.ref b59)]))
    obtain ⟨v60, T60, L60, X60, hQ60, st60⟩ := own_callI X59 hx hZ (y := (⟨"com/example/nearside/nearside/support/SplitDecimalArray", "<init>", "(I)V"⟩ : MethodName)) rfl hown (hw _ (List.mem_of_getElem? (i := 7) rfl)) (hw _ (List.mem_of_getElem? (i := 8) rfl)) (hw _ (List.mem_of_getElem? (i := 6) rfl)) (hw _ (List.mem_of_getElem? (i := 9) rfl)) (by decide) (W := 1) (rm2 l Z a0 hw [] b59 (Int32.ofNat n) n h59 n0 Z59 rfl hn4 E_b59 g_b59 F_compact_b59 F_scale_b59 F_whole_b59) (by decide) (by decide) (g := (mkF m 93 #[.val (.int pp), .val (.int pq), .val (.long qc1), .second, .val (.long qc2), .second, .val (.int ps1), .val (.int ps2), .val (.int (Int32.ofNat n)), .val (.int kd1), .val (.int kd2), .val (.int (Int32.ofNat i)), .val (.int (Int32.ofNat j)), .val (.int (Int32.ofNat k)), .val (.ref r35), .val (.ref r58), .unset, .unset] [(.int (Int32.ofNat n)), (.ref b59), (.ref b59)])) rfl (by rw [hml]; rfl) (a := b59) (argsL := [(.int (Int32.ofNat n))]) (rest := [(.ref b59)]) (lenOf pd_0_1 rfl) rfl (by show 2 * 0 + _ ≤ _; exact Nat.le_of_eq rfl) (hb hby at_93) e59 rfl (by decide) (by decide)
    obtain ⟨rfl, Nq60, Kq60, E_ao, ca, sc, sz1, sz2, ne_ca_sc, F_compact, F_scale, F_whole, V_ca, V_sc⟩ := hQ60
    have N60 := Fr.app N58 Nq60
    have g_ca : n0 ≤ ca := Nat.le_trans Z59 sz1
    have g_sc : n0 ≤ sc := Nat.le_trans Z59 sz2
    have ne_r35_ca : r35 ≠ ca := Nat.ne_of_lt (Nat.lt_of_lt_of_le E_r35_59.lt sz1)
    have ne_r35_sc : r35 ≠ sc := Nat.ne_of_lt (Nat.lt_of_lt_of_le E_r35_59.lt sz2)
    have ne_r58_ca : r58 ≠ ca := Nat.ne_of_lt (Nat.lt_of_lt_of_le E_r58_59.lt sz1)
    have ne_r58_sc : r58 ≠ sc := Nat.ne_of_lt (Nat.lt_of_lt_of_le E_r58_59.lt sz2)
    have ne_b59_ca : b59 ≠ ca := Nat.ne_of_lt (Nat.lt_of_lt_of_le E_b59.lt sz1)
    have ne_b59_sc : b59 ≠ sc := Nat.ne_of_lt (Nat.lt_of_lt_of_le E_b59.lt sz2)
    have E_r35_60 := E_r35_59.keep Kq60
    have F_compact_r35_60 := F_compact_r35_59.keep Kq60 (ninS ne_r35_b59 nin0)
    have F_scale_r35_60 := F_scale_r35_59.keep Kq60 (ninS ne_r35_b59 nin0)
    have E_r58_60 := E_r58_59.keep Kq60
    have F_compact_r58_60 := F_compact_r58_59.keep Kq60 (ninS ne_r58_b59 nin0)
    have F_scale_r58_60 := F_scale_r58_59.keep Kq60 (ninS ne_r58_b59 nin0)
    have E_b59_60 := E_b59.keep Kq60
    have Z60 : n0 ≤ T60.heap.size := Nat.le_trans Z59 Kq60.1
    refine own_go st60 ?_
    show OwnFin p e below s _ _ _ (T60.setTop (mkF m 96 #[.val (.int pp), .val (.int pq), .val (.long qc1), .second, .val (.long qc2), .second, .val (.int ps1), .val (.int ps2), .val (.int (Int32.ofNat n)), .val (.int kd1), .val (.int kd2), .val (.int (Int32.ofNat i)), .val (.int (Int32.ofNat j)), .val (.int (Int32.ofNat k)), .val (.ref r35), .val (.ref r58), .unset, .unset] [(.ref b59)]))
    refine own_go (fun t_ k_ => XS.astore X60.here hx rfl (hb hby at_96) rfl rfl (l' := #[.val (.int pp), .val (.int pq), .val (.long qc1), .second, .val (.long qc2), .second, .val (.int ps1), .val (.int ps2), .val (.int (Int32.ofNat n)), .val (.int kd1), .val (.int kd2), .val (.int (Int32.ofNat i)), .val (.int (Int32.ofNat j)), .val (.int (Int32.ofNat k)), .val (.ref r35), .val (.ref r58), .val (.ref b59), .unset]) rfl k_) ?_
    show OwnFin p e below s _ _ _ (T60.setTop (mkF m 98 #[.val (.int pp), .val (.int pq), .val (.long qc1), .second, .val (.long qc2), .second, .val (.int ps1), .val (.int ps2), .val (.int (Int32.ofNat n)), .val (.int kd1), .val (.int kd2), .val (.int (Int32.ofNat i)), .val (.int (Int32.ofNat j)), .val (.int (Int32.ofNat k)), .val (.ref r35), .val (.ref r58), .val (.ref b59), .unset] []))
    refine own_go (fun t_ k_ => XS.aload X60.here hx rfl (hb hby at_98) rfl rfl k_) ?_
    show OwnFin p e below s _ _ _ (T60.setTop (mkF m 100 #[.val (.int pp), .val (.int pq), .val (.long qc1), .second, .val (.long qc2), .second, .val (.int ps1), .val (.int ps2), .val (.int (Int32.ofNat n)), .val (.int kd1), .val (.int kd2), .val (.int (Int32.ofNat i)), .val (.int (Int32.ofNat j)), .val (.int (Int32.ofNat k)), .val (.ref r35), .val (.ref r58), .val (.ref b59), .unset] [(.ref b59)]))
    refine own_go (fun t_ k_ => XS.iload X60.here hx rfl (hb hby at_100) rfl k_) ?_
    show OwnFin p e below s _ _ _ (T60.setTop (mkF m 102 #[.val (.int pp), .val (.int pq), .val (.long qc1), .second, .val (.long qc2), .second, .val (.int ps1), .val (.int ps2), .val (.int (Int32.ofNat n)), .val (.int kd1), .val (.int kd2), .val (.int (Int32.ofNat i)), .val (.int (Int32.ofNat j)), .val (.int (Int32.ofNat k)), .val (.ref r35), .val (.ref r58), .val (.ref b59), .unset] [(.int (Int32.ofNat i)), (.ref b59)]))
    refine own_go (fun t_ k_ => XS.aload X60.here hx rfl (hb hby at_102) rfl rfl k_) ?_
    show OwnFin p e below s _ _ _ (T60.setTop (mkF m 104 #[.val (.int pp), .val (.int pq), .val (.long qc1), .second, .val (.long qc2), .second, .val (.int ps1), .val (.int ps2), .val (.int (Int32.ofNat n)), .val (.int kd1), .val (.int kd2), .val (.int (Int32.ofNat i)), .val (.int (Int32.ofNat j)), .val (.int (Int32.ofNat k)), .val (.ref r35), .val (.ref r58), .val (.ref b59), .unset] [(.ref r35), (.int (Int32.ofNat i)), (.ref b59)]))
    obtain ⟨v61, T61, L61, X61, hQ61, st61⟩ := own_callV X60 hx hZ (y := (⟨"com/example/nearside/nearside/support/SplitDecimalArray", "set", "(ILcom/example/nearside/nearside/support/SplitDecimal;)V"⟩ : MethodName)) (z := (⟨"com/example/nearside/nearside/support/SplitDecimalArray", "set", "(ILcom/example/nearside/nearside/support/SplitDecimal;)V"⟩ : MethodName)) hown (hw _ (List.mem_of_getElem? (i := 24) rfl)) (hw _ (List.mem_of_getElem? (i := 25) rfl)) (notFace_of_selects (args := #[]) (mvT hZ (hw _ (List.mem_of_getElem? (i := 27) rfl)))) (hw _ (List.mem_of_getElem? (i := 27) rfl)) (hw _ (List.mem_of_getElem? (i := 26) rfl)) (hw _ (List.mem_of_getElem? (i := 6) rfl)) (hw _ (List.mem_of_getElem? (i := 28) rfl)) (by decide) (W := 0) (rm5_C0 l Z a0 hw [] b59 (Int32.ofNat i) r35 ca sc n i (fun _ => (-9223372036854775808 : Int64)) (fun _ => (0 : Int32)) T60.heap n0 Z60 rfl hin hn4 E_ao F_compact F_scale F_whole V_ca V_sc E_r35_60 F_compact_r35_60 F_scale_r35_60 (own_cw _) ne_b59_ca ne_b59_sc ne_ca_sc ne_r35_ca ne_r35_sc (Ne.symm ne_r35_b59) g_ca g_sc) (by decide) (by decide) E_ao (g := (mkF m 104 #[.val (.int pp), .val (.int pq), .val (.long qc1), .second, .val (.long qc2), .second, .val (.int ps1), .val (.int ps2), .val (.int (Int32.ofNat n)), .val (.int kd1), .val (.int kd2), .val (.int (Int32.ofNat i)), .val (.int (Int32.ofNat j)), .val (.int (Int32.ofNat k)), .val (.ref r35), .val (.ref r58), .val (.ref b59), .unset] [(.ref r35), (.int (Int32.ofNat i)), (.ref b59)])) rfl (by rw [hml]; rfl) (argsL := [(.int (Int32.ofNat i)), (.ref r35)]) (rest := []) (lenOf pd_0_4 rfl) rfl (by show 2 * 0 + _ ≤ _; exact Nat.le_of_eq rfl) (hb hby at_104) rfl rfl (by decide) (by decide)
    obtain ⟨rfl, Nq61, Kq61, Vc61, Vs61⟩ := hQ61
    have N61 := Fr.app N60 Nq61
    have E_r35_61 := E_r35_60.keep Kq61
    have F_compact_r35_61 := F_compact_r35_60.keep Kq61 (ninS ne_r35_ca (ninS ne_r35_sc nin0))
    have F_scale_r35_61 := F_scale_r35_60.keep Kq61 (ninS ne_r35_ca (ninS ne_r35_sc nin0))
    have E_r58_61 := E_r58_60.keep Kq61
    have F_compact_r58_61 := F_compact_r58_60.keep Kq61 (ninS ne_r58_ca (ninS ne_r58_sc nin0))
    have F_scale_r58_61 := F_scale_r58_60.keep Kq61 (ninS ne_r58_ca (ninS ne_r58_sc nin0))
    have E_ao_61 := E_ao.keep Kq61
    have F_compact_61 := F_compact.keep Kq61 (ninS ne_b59_ca (ninS ne_b59_sc nin0))
    have F_scale_61 := F_scale.keep Kq61 (ninS ne_b59_ca (ninS ne_b59_sc nin0))
    have F_whole_61 := F_whole.keep Kq61 (ninS ne_b59_ca (ninS ne_b59_sc nin0))
    have Z61 : n0 ≤ T61.heap.size := Nat.le_trans Z60 Kq61.1
    refine own_go st61 ?_
    show OwnFin p e below s _ _ _ (T61.setTop (mkF m 107 #[.val (.int pp), .val (.int pq), .val (.long qc1), .second, .val (.long qc2), .second, .val (.int ps1), .val (.int ps2), .val (.int (Int32.ofNat n)), .val (.int kd1), .val (.int kd2), .val (.int (Int32.ofNat i)), .val (.int (Int32.ofNat j)), .val (.int (Int32.ofNat k)), .val (.ref r35), .val (.ref r58), .val (.ref b59), .unset] []))
    refine own_go (fun t_ k_ => XS.aload X61.here hx rfl (hb hby at_107) rfl rfl k_) ?_
    show OwnFin p e below s _ _ _ (T61.setTop (mkF m 109 #[.val (.int pp), .val (.int pq), .val (.long qc1), .second, .val (.long qc2), .second, .val (.int ps1), .val (.int ps2), .val (.int (Int32.ofNat n)), .val (.int kd1), .val (.int kd2), .val (.int (Int32.ofNat i)), .val (.int (Int32.ofNat j)), .val (.int (Int32.ofNat k)), .val (.ref r35), .val (.ref r58), .val (.ref b59), .unset] [(.ref b59)]))
    refine own_go (fun t_ k_ => XS.iload X61.here hx rfl (hb hby at_109) rfl k_) ?_
    show OwnFin p e below s _ _ _ (T61.setTop (mkF m 111 #[.val (.int pp), .val (.int pq), .val (.long qc1), .second, .val (.long qc2), .second, .val (.int ps1), .val (.int ps2), .val (.int (Int32.ofNat n)), .val (.int kd1), .val (.int kd2), .val (.int (Int32.ofNat i)), .val (.int (Int32.ofNat j)), .val (.int (Int32.ofNat k)), .val (.ref r35), .val (.ref r58), .val (.ref b59), .unset] [(.int (Int32.ofNat j)), (.ref b59)]))
    refine own_go (fun t_ k_ => XS.aload X61.here hx rfl (hb hby at_111) rfl rfl k_) ?_
    show OwnFin p e below s _ _ _ (T61.setTop (mkF m 113 #[.val (.int pp), .val (.int pq), .val (.long qc1), .second, .val (.long qc2), .second, .val (.int ps1), .val (.int ps2), .val (.int (Int32.ofNat n)), .val (.int kd1), .val (.int kd2), .val (.int (Int32.ofNat i)), .val (.int (Int32.ofNat j)), .val (.int (Int32.ofNat k)), .val (.ref r35), .val (.ref r58), .val (.ref b59), .unset] [(.ref r58), (.int (Int32.ofNat j)), (.ref b59)]))
    obtain ⟨v62, T62, L62, X62, hQ62, st62⟩ := own_callV X61 hx hZ (y := (⟨"com/example/nearside/nearside/support/SplitDecimalArray", "set", "(ILcom/example/nearside/nearside/support/SplitDecimal;)V"⟩ : MethodName)) (z := (⟨"com/example/nearside/nearside/support/SplitDecimalArray", "set", "(ILcom/example/nearside/nearside/support/SplitDecimal;)V"⟩ : MethodName)) hown (hw _ (List.mem_of_getElem? (i := 24) rfl)) (hw _ (List.mem_of_getElem? (i := 25) rfl)) (notFace_of_selects (args := #[]) (mvT hZ (hw _ (List.mem_of_getElem? (i := 27) rfl)))) (hw _ (List.mem_of_getElem? (i := 27) rfl)) (hw _ (List.mem_of_getElem? (i := 26) rfl)) (hw _ (List.mem_of_getElem? (i := 6) rfl)) (hw _ (List.mem_of_getElem? (i := 28) rfl)) (by decide) (W := 0) (rm5_W0 l Z a0 hw [] b59 (Int32.ofNat j) r58 ca sc n j (fun z => if z = i then (own_c qc1) else (fun _ => (-9223372036854775808 : Int64)) z) (fun z => if z = i then ps1 else (fun _ => (0 : Int32)) z) T61.heap n0 Z61 rfl hjn hn4 E_ao_61 F_compact_61 F_scale_61 F_whole_61 Vc61 Vs61 E_r58_61 F_compact_r58_61 ne_b59_ca ne_b59_sc ne_ca_sc ne_r58_ca ne_r58_sc (Ne.symm ne_r58_b59) g_b59 g_ca) (by decide) (by decide) E_ao_61 (g := (mkF m 113 #[.val (.int pp), .val (.int pq), .val (.long qc1), .second, .val (.long qc2), .second, .val (.int ps1), .val (.int ps2), .val (.int (Int32.ofNat n)), .val (.int kd1), .val (.int kd2), .val (.int (Int32.ofNat i)), .val (.int (Int32.ofNat j)), .val (.int (Int32.ofNat k)), .val (.ref r35), .val (.ref r58), .val (.ref b59), .unset] [(.ref r58), (.int (Int32.ofNat j)), (.ref b59)])) rfl (by rw [hml]; rfl) (argsL := [(.int (Int32.ofNat j)), (.ref r58)]) (rest := []) (lenOf pd_0_4 rfl) rfl (by show 2 * 0 + _ ≤ _; exact Nat.le_of_eq rfl) (hb hby at_113) rfl rfl (by decide) (by decide)
    obtain ⟨rfl, Nq62, Kq62, wa, szw, neca, nesc, neao, nevo, Fw62, Vc62, Vw62⟩ := hQ62
    have N62 := Fr.app N61 Nq62
    have g_wa : n0 ≤ wa := Nat.le_trans Z61 szw
    have ne_r35_wa : r35 ≠ wa := Nat.ne_of_lt (Nat.lt_of_lt_of_le E_r35_61.lt szw)
    have ne_r58_wa : r58 ≠ wa := Nat.ne_of_lt (Nat.lt_of_lt_of_le E_r58_61.lt szw)
    have ne_b59_wa : b59 ≠ wa := Nat.ne_of_lt (Nat.lt_of_lt_of_le E_ao_61.lt szw)
    have ne_ca_wa : ca ≠ wa := Nat.ne_of_lt (Nat.lt_of_lt_of_le Vc61.lt szw)
    have ne_sc_wa : sc ≠ wa := Nat.ne_of_lt (Nat.lt_of_lt_of_le Vs61.lt szw)
    have E_r35_62 := E_r35_61.keep Kq62
    have F_compact_r35_62 := F_compact_r35_61.keep Kq62 (ninS ne_r35_b59 (ninS ne_r35_ca nin0))
    have F_scale_r35_62 := F_scale_r35_61.keep Kq62 (ninS ne_r35_b59 (ninS ne_r35_ca nin0))
    have E_r58_62 := E_r58_61.keep Kq62
    have F_compact_r58_62 := F_compact_r58_61.keep Kq62 (ninS ne_r58_b59 (ninS ne_r58_ca nin0))
    have F_scale_r58_62 := F_scale_r58_61.keep Kq62 (ninS ne_r58_b59 (ninS ne_r58_ca nin0))
    have E_ao_62 := E_ao_61.keep Kq62
    have Vs61_62 := Vs61.keep Kq62 (ninS (Ne.symm ne_b59_sc) (ninS (Ne.symm ne_ca_sc) nin0))
    have Z62 : n0 ≤ T62.heap.size := Nat.le_trans Z61 Kq62.1
    obtain ⟨Fc62, Fs62, Fw62⟩ := Fw62
    refine own_go st62 ?_
    show OwnFin p e below s _ _ _ (T62.setTop (mkF m 116 #[.val (.int pp), .val (.int pq), .val (.long qc1), .second, .val (.long qc2), .second, .val (.int ps1), .val (.int ps2), .val (.int (Int32.ofNat n)), .val (.int kd1), .val (.int kd2), .val (.int (Int32.ofNat i)), .val (.int (Int32.ofNat j)), .val (.int (Int32.ofNat k)), .val (.ref r35), .val (.ref r58), .val (.ref b59), .unset] []))
    refine own_go (fun t_ k_ => XS.aload X62.here hx rfl (hb hby at_116) rfl rfl k_) ?_
    show OwnFin p e below s _ _ _ (T62.setTop (mkF m 118 #[.val (.int pp), .val (.int pq), .val (.long qc1), .second, .val (.long qc2), .second, .val (.int ps1), .val (.int ps2), .val (.int (Int32.ofNat n)), .val (.int kd1), .val (.int kd2), .val (.int (Int32.ofNat i)), .val (.int (Int32.ofNat j)), .val (.int (Int32.ofNat k)), .val (.ref r35), .val (.ref r58), .val (.ref b59), .unset] [(.ref b59)]))
    refine own_go (fun t_ k_ => XS.iload X62.here hx rfl (hb hby at_118) rfl k_) ?_
    show OwnFin p e below s _ _ _ (T62.setTop (mkF m 120 #[.val (.int pp), .val (.int pq), .val (.long qc1), .second, .val (.long qc2), .second, .val (.int ps1), .val (.int ps2), .val (.int (Int32.ofNat n)), .val (.int kd1), .val (.int kd2), .val (.int (Int32.ofNat i)), .val (.int (Int32.ofNat j)), .val (.int (Int32.ofNat k)), .val (.ref r35), .val (.ref r58), .val (.ref b59), .unset] [(.int (Int32.ofNat j)), (.ref b59)]))
    obtain ⟨v63, T63, L63, X63, hQ63, st63⟩ := own_callV X62 hx hZ (y := (⟨"com/example/nearside/nearside/support/SplitDecimalArray", "get", "(I)Lcom/example/nearside/nearside/support/SplitDecimal;"⟩ : MethodName)) (z := (⟨"com/example/nearside/nearside/support/SplitDecimalArray", "get", "(I)Lcom/example/nearside/nearside/support/SplitDecimal;"⟩ : MethodName)) hown (hw _ (List.mem_of_getElem? (i := 31) rfl)) (hw _ (List.mem_of_getElem? (i := 32) rfl)) (notFace_of_selects (args := #[]) (mvT hZ (hw _ (List.mem_of_getElem? (i := 34) rfl)))) (hw _ (List.mem_of_getElem? (i := 34) rfl)) (hw _ (List.mem_of_getElem? (i := 33) rfl)) (hw _ (List.mem_of_getElem? (i := 6) rfl)) (hw _ (List.mem_of_getElem? (i := 35) rfl)) (by decide) (W := 0) (rm6_W l Z a0 hw [] b59 (Int32.ofNat j) ca wa n j (fun z => if z = j then (-9223372036854775808 : Int64) else (fun z => if z = i then (own_c qc1) else (fun _ => (-9223372036854775808 : Int64)) z) z) (fun z => if z = j then Value.ref r58 else Value.null) r58 T62.heap n0 Z62 rfl hjn Fc62 Fw62 Vc62 (by (try dsimp only); rw [if_pos rfl]) Vw62 (by (try dsimp only); rw [if_pos rfl])) (by decide) (by decide) E_ao_62 (g := (mkF m 120 #[.val (.int pp), .val (.int pq), .val (.long qc1), .second, .val (.long qc2), .second, .val (.int ps1), .val (.int ps2), .val (.int (Int32.ofNat n)), .val (.int kd1), .val (.int kd2), .val (.int (Int32.ofNat i)), .val (.int (Int32.ofNat j)), .val (.int (Int32.ofNat k)), .val (.ref r35), .val (.ref r58), .val (.ref b59), .unset] [(.int (Int32.ofNat j)), (.ref b59)])) rfl (by rw [hml]; rfl) (argsL := [(.int (Int32.ofNat j))]) (rest := []) (lenOf pd_0_5 rfl) rfl (by show 2 * 0 + _ ≤ _; exact Nat.le_of_eq rfl) (hb hby at_120) rfl rfl (by decide) (by decide)
    obtain ⟨rfl, Nq63, e63⟩ := hQ63
    have N63 := Fr.app N62 Nq63
    refine own_go st63 ?_
    show OwnFin p e below s _ _ _ (T63.setTop (mkF m 123 #[.val (.int pp), .val (.int pq), .val (.long qc1), .second, .val (.long qc2), .second, .val (.int ps1), .val (.int ps2), .val (.int (Int32.ofNat n)), .val (.int kd1), .val (.int kd2), .val (.int (Int32.ofNat i)), .val (.int (Int32.ofNat j)), .val (.int (Int32.ofNat k)), .val (.ref r35), .val (.ref r58), .val (.ref b59), .unset] [(.ref r58)]))
    refine own_go (fun t_ k_ => XS.aload X63.here hx rfl (hb hby at_123) rfl rfl k_) ?_
    show OwnFin p e below s _ _ _ (T63.setTop (mkF m 125 #[.val (.int pp), .val (.int pq), .val (.long qc1), .second, .val (.long qc2), .second, .val (.int ps1), .val (.int ps2), .val (.int (Int32.ofNat n)), .val (.int kd1), .val (.int kd2), .val (.int (Int32.ofNat i)), .val (.int (Int32.ofNat j)), .val (.int (Int32.ofNat k)), .val (.ref r35), .val (.ref r58), .val (.ref b59), .unset] [(.ref r58), (.ref r58)]))
    obtain ⟨v64, T64, L64, X64, hQ64, st64⟩ := own_callS X63 hx hZ (y := (⟨"com/example/nearside/nearside/support/SplitDecimalArraySetPinLaw", "holds", "(Lcom/example/nearside/nearside/support/SplitDecimal;Lcom/example/nearside/nearside/support/SplitDecimal;)Z"⟩ : MethodName)) hown (hw _ (List.mem_of_getElem? (i := 36) rfl)) (hw _ (List.mem_of_getElem? (i := 37) rfl)) (hw _ (List.mem_of_getElem? (i := 2) rfl)) (hw _ (List.mem_of_getElem? (i := 38) rfl)) (by decide) (W := 0) (rm7_W l Z a0 hw [] r58 T62.heap n0 Z62 F_compact_r58_62) (by decide) (by decide) (g := (mkF m 125 #[.val (.int pp), .val (.int pq), .val (.long qc1), .second, .val (.long qc2), .second, .val (.int ps1), .val (.int ps2), .val (.int (Int32.ofNat n)), .val (.int kd1), .val (.int kd2), .val (.int (Int32.ofNat i)), .val (.int (Int32.ofNat j)), .val (.int (Int32.ofNat k)), .val (.ref r35), .val (.ref r58), .val (.ref b59), .unset] [(.ref r58), (.ref r58)])) rfl (by rw [hml]; rfl) (argsL := [(.ref r58), (.ref r58)]) (rest := []) (lenOf pd_0_6 rfl) rfl (by show 2 * 0 + _ ≤ _; exact Nat.le_of_eq rfl) (hb hby at_125) e63 rfl (by decide) (by decide)
    obtain ⟨rfl, Nq64, e64⟩ := hQ64
    have N64 := Fr.app N63 Nq64
    refine own_go st64 ?_
    show OwnFin p e below s _ _ _ (T64.setTop (mkF m 128 #[.val (.int pp), .val (.int pq), .val (.long qc1), .second, .val (.long qc2), .second, .val (.int ps1), .val (.int ps2), .val (.int (Int32.ofNat n)), .val (.int kd1), .val (.int kd2), .val (.int (Int32.ofNat i)), .val (.int (Int32.ofNat j)), .val (.int (Int32.ofNat k)), .val (.ref r35), .val (.ref r58), .val (.ref b59), .unset] [(.int (1 : Int32))]))
    refine own_go (fun t_ k_ => XS.istore X64.here hx rfl (hb hby at_128) rfl (l' := #[.val (.int pp), .val (.int pq), .val (.long qc1), .second, .val (.long qc2), .second, .val (.int ps1), .val (.int ps2), .val (.int (Int32.ofNat n)), .val (.int kd1), .val (.int kd2), .val (.int (Int32.ofNat i)), .val (.int (Int32.ofNat j)), .val (.int (Int32.ofNat k)), .val (.ref r35), .val (.ref r58), .val (.ref b59), .val (.int (1 : Int32))]) rfl k_) ?_
    show OwnFin p e below s _ _ _ (T64.setTop (mkF m 130 #[.val (.int pp), .val (.int pq), .val (.long qc1), .second, .val (.long qc2), .second, .val (.int ps1), .val (.int ps2), .val (.int (Int32.ofNat n)), .val (.int kd1), .val (.int kd2), .val (.int (Int32.ofNat i)), .val (.int (Int32.ofNat j)), .val (.int (Int32.ofNat k)), .val (.ref r35), .val (.ref r58), .val (.ref b59), .val (.int (1 : Int32))] []))
    by_cases hij : i = j
    · refine own_go (fun t_ k_ => XS.iload X64.here hx rfl (hb hby at_130) rfl k_) ?_
      show OwnFin p e below s _ _ _ (T64.setTop (mkF m 132 #[.val (.int pp), .val (.int pq), .val (.long qc1), .second, .val (.long qc2), .second, .val (.int ps1), .val (.int ps2), .val (.int (Int32.ofNat n)), .val (.int kd1), .val (.int kd2), .val (.int (Int32.ofNat i)), .val (.int (Int32.ofNat j)), .val (.int (Int32.ofNat k)), .val (.ref r35), .val (.ref r58), .val (.ref b59), .val (.int (1 : Int32))] [(.int (Int32.ofNat i))]))
      refine own_go (fun t_ k_ => XS.iload X64.here hx rfl (hb hby at_132) rfl k_) ?_
      show OwnFin p e below s _ _ _ (T64.setTop (mkF m 134 #[.val (.int pp), .val (.int pq), .val (.long qc1), .second, .val (.long qc2), .second, .val (.int ps1), .val (.int ps2), .val (.int (Int32.ofNat n)), .val (.int kd1), .val (.int kd2), .val (.int (Int32.ofNat i)), .val (.int (Int32.ofNat j)), .val (.int (Int32.ofNat k)), .val (.ref r35), .val (.ref r58), .val (.ref b59), .val (.int (1 : Int32))] [(.int (Int32.ofNat j)), (.int (Int32.ofNat i))]))
      have hc134 : (Int32.ofNat i) = (Int32.ofNat j) := by rw [hij]
      refine own_go (fun t_ k_ => XS.icmpYes X64.here hx rfl (pc0 := 134) (pc' := 164) rfl (hb hby at_134) rfl (teq hc134).1 (by decide) (by decide) k_) ?_
      show OwnFin p e below s _ _ _ (T64.setTop (mkF m 164 #[.val (.int pp), .val (.int pq), .val (.long qc1), .second, .val (.long qc2), .second, .val (.int ps1), .val (.int ps2), .val (.int (Int32.ofNat n)), .val (.int kd1), .val (.int kd2), .val (.int (Int32.ofNat i)), .val (.int (Int32.ofNat j)), .val (.int (Int32.ofNat k)), .val (.ref r35), .val (.ref r58), .val (.ref b59), .val (.int (1 : Int32))] []))
      by_cases hki : k = i
      · refine own_go (fun t_ k_ => XS.iload X64.here hx rfl (hb hby at_164) rfl k_) ?_
        show OwnFin p e below s _ _ _ (T64.setTop (mkF m 166 #[.val (.int pp), .val (.int pq), .val (.long qc1), .second, .val (.long qc2), .second, .val (.int ps1), .val (.int ps2), .val (.int (Int32.ofNat n)), .val (.int kd1), .val (.int kd2), .val (.int (Int32.ofNat i)), .val (.int (Int32.ofNat j)), .val (.int (Int32.ofNat k)), .val (.ref r35), .val (.ref r58), .val (.ref b59), .val (.int (1 : Int32))] [(.int (Int32.ofNat k))]))
        refine own_go (fun t_ k_ => XS.iload X64.here hx rfl (hb hby at_166) rfl k_) ?_
        show OwnFin p e below s _ _ _ (T64.setTop (mkF m 168 #[.val (.int pp), .val (.int pq), .val (.long qc1), .second, .val (.long qc2), .second, .val (.int ps1), .val (.int ps2), .val (.int (Int32.ofNat n)), .val (.int kd1), .val (.int kd2), .val (.int (Int32.ofNat i)), .val (.int (Int32.ofNat j)), .val (.int (Int32.ofNat k)), .val (.ref r35), .val (.ref r58), .val (.ref b59), .val (.int (1 : Int32))] [(.int (Int32.ofNat i)), (.int (Int32.ofNat k))]))
        have hc168 : (Int32.ofNat k) = (Int32.ofNat i) := by rw [hki]
        refine own_go (fun t_ k_ => XS.icmpYes X64.here hx rfl (pc0 := 168) (pc' := 200) rfl (hb hby at_168) rfl (teq hc168).1 (by decide) (by decide) k_) ?_
        show OwnFin p e below s _ _ _ (T64.setTop (mkF m 200 #[.val (.int pp), .val (.int pq), .val (.long qc1), .second, .val (.long qc2), .second, .val (.int ps1), .val (.int ps2), .val (.int (Int32.ofNat n)), .val (.int kd1), .val (.int kd2), .val (.int (Int32.ofNat i)), .val (.int (Int32.ofNat j)), .val (.int (Int32.ofNat k)), .val (.ref r35), .val (.ref r58), .val (.ref b59), .val (.int (1 : Int32))] []))
        refine own_go (fun t_ k_ => XS.iload X64.here hx rfl (hb hby at_200) rfl k_) ?_
        show OwnFin p e below s _ _ _ (T64.setTop (mkF m 202 #[.val (.int pp), .val (.int pq), .val (.long qc1), .second, .val (.long qc2), .second, .val (.int ps1), .val (.int ps2), .val (.int (Int32.ofNat n)), .val (.int kd1), .val (.int kd2), .val (.int (Int32.ofNat i)), .val (.int (Int32.ofNat j)), .val (.int (Int32.ofNat k)), .val (.ref r35), .val (.ref r58), .val (.ref b59), .val (.int (1 : Int32))] [(.int (1 : Int32))]))
        refine own_ret X64 (v := some (.int (1 : Int32))) hlk (fun hh => by rw [hret] at hh; cases hh) (fun fs hr => retN X64 hx (t := .boolean) hret (by simp) (hb hby at_202) hr) (by decide) (by decide) ?_
        exact ⟨rfl, N64⟩
      · refine own_go (fun t_ k_ => XS.iload X64.here hx rfl (hb hby at_164) rfl k_) ?_
        show OwnFin p e below s _ _ _ (T64.setTop (mkF m 166 #[.val (.int pp), .val (.int pq), .val (.long qc1), .second, .val (.long qc2), .second, .val (.int ps1), .val (.int ps2), .val (.int (Int32.ofNat n)), .val (.int kd1), .val (.int kd2), .val (.int (Int32.ofNat i)), .val (.int (Int32.ofNat j)), .val (.int (Int32.ofNat k)), .val (.ref r35), .val (.ref r58), .val (.ref b59), .val (.int (1 : Int32))] [(.int (Int32.ofNat k))]))
        refine own_go (fun t_ k_ => XS.iload X64.here hx rfl (hb hby at_166) rfl k_) ?_
        show OwnFin p e below s _ _ _ (T64.setTop (mkF m 168 #[.val (.int pp), .val (.int pq), .val (.long qc1), .second, .val (.long qc2), .second, .val (.int ps1), .val (.int ps2), .val (.int (Int32.ofNat n)), .val (.int kd1), .val (.int kd2), .val (.int (Int32.ofNat i)), .val (.int (Int32.ofNat j)), .val (.int (Int32.ofNat k)), .val (.ref r35), .val (.ref r58), .val (.ref b59), .val (.int (1 : Int32))] [(.int (Int32.ofNat i)), (.int (Int32.ofNat k))]))
        have hc168 : ¬ ((Int32.ofNat k) = (Int32.ofNat i)) := fun q => hki (own_ofNat_inj (by omega) (by omega) q)
        refine own_go (fun t_ k_ => XS.icmpNo X64.here hx rfl (hb hby at_168) rfl (feq hc168).1 k_) ?_
        show OwnFin p e below s _ _ _ (T64.setTop (mkF m 171 #[.val (.int pp), .val (.int pq), .val (.long qc1), .second, .val (.long qc2), .second, .val (.int ps1), .val (.int ps2), .val (.int (Int32.ofNat n)), .val (.int kd1), .val (.int kd2), .val (.int (Int32.ofNat i)), .val (.int (Int32.ofNat j)), .val (.int (Int32.ofNat k)), .val (.ref r35), .val (.ref r58), .val (.ref b59), .val (.int (1 : Int32))] []))
        by_cases hkj : k = j
        · refine own_go (fun t_ k_ => XS.iload X64.here hx rfl (hb hby at_171) rfl k_) ?_
          show OwnFin p e below s _ _ _ (T64.setTop (mkF m 173 #[.val (.int pp), .val (.int pq), .val (.long qc1), .second, .val (.long qc2), .second, .val (.int ps1), .val (.int ps2), .val (.int (Int32.ofNat n)), .val (.int kd1), .val (.int kd2), .val (.int (Int32.ofNat i)), .val (.int (Int32.ofNat j)), .val (.int (Int32.ofNat k)), .val (.ref r35), .val (.ref r58), .val (.ref b59), .val (.int (1 : Int32))] [(.int (Int32.ofNat k))]))
          refine own_go (fun t_ k_ => XS.iload X64.here hx rfl (hb hby at_173) rfl k_) ?_
          show OwnFin p e below s _ _ _ (T64.setTop (mkF m 175 #[.val (.int pp), .val (.int pq), .val (.long qc1), .second, .val (.long qc2), .second, .val (.int ps1), .val (.int ps2), .val (.int (Int32.ofNat n)), .val (.int kd1), .val (.int kd2), .val (.int (Int32.ofNat i)), .val (.int (Int32.ofNat j)), .val (.int (Int32.ofNat k)), .val (.ref r35), .val (.ref r58), .val (.ref b59), .val (.int (1 : Int32))] [(.int (Int32.ofNat j)), (.int (Int32.ofNat k))]))
          have hc175 : (Int32.ofNat k) = (Int32.ofNat j) := by rw [hkj]
          refine own_go (fun t_ k_ => XS.icmpYes X64.here hx rfl (pc0 := 175) (pc' := 200) rfl (hb hby at_175) rfl (teq hc175).1 (by decide) (by decide) k_) ?_
          show OwnFin p e below s _ _ _ (T64.setTop (mkF m 200 #[.val (.int pp), .val (.int pq), .val (.long qc1), .second, .val (.long qc2), .second, .val (.int ps1), .val (.int ps2), .val (.int (Int32.ofNat n)), .val (.int kd1), .val (.int kd2), .val (.int (Int32.ofNat i)), .val (.int (Int32.ofNat j)), .val (.int (Int32.ofNat k)), .val (.ref r35), .val (.ref r58), .val (.ref b59), .val (.int (1 : Int32))] []))
          refine own_go (fun t_ k_ => XS.iload X64.here hx rfl (hb hby at_200) rfl k_) ?_
          show OwnFin p e below s _ _ _ (T64.setTop (mkF m 202 #[.val (.int pp), .val (.int pq), .val (.long qc1), .second, .val (.long qc2), .second, .val (.int ps1), .val (.int ps2), .val (.int (Int32.ofNat n)), .val (.int kd1), .val (.int kd2), .val (.int (Int32.ofNat i)), .val (.int (Int32.ofNat j)), .val (.int (Int32.ofNat k)), .val (.ref r35), .val (.ref r58), .val (.ref b59), .val (.int (1 : Int32))] [(.int (1 : Int32))]))
          refine own_ret X64 (v := some (.int (1 : Int32))) hlk (fun hh => by rw [hret] at hh; cases hh) (fun fs hr => retN X64 hx (t := .boolean) hret (by simp) (hb hby at_202) hr) (by decide) (by decide) ?_
          exact ⟨rfl, N64⟩
        · refine own_go (fun t_ k_ => XS.iload X64.here hx rfl (hb hby at_171) rfl k_) ?_
          show OwnFin p e below s _ _ _ (T64.setTop (mkF m 173 #[.val (.int pp), .val (.int pq), .val (.long qc1), .second, .val (.long qc2), .second, .val (.int ps1), .val (.int ps2), .val (.int (Int32.ofNat n)), .val (.int kd1), .val (.int kd2), .val (.int (Int32.ofNat i)), .val (.int (Int32.ofNat j)), .val (.int (Int32.ofNat k)), .val (.ref r35), .val (.ref r58), .val (.ref b59), .val (.int (1 : Int32))] [(.int (Int32.ofNat k))]))
          refine own_go (fun t_ k_ => XS.iload X64.here hx rfl (hb hby at_173) rfl k_) ?_
          show OwnFin p e below s _ _ _ (T64.setTop (mkF m 175 #[.val (.int pp), .val (.int pq), .val (.long qc1), .second, .val (.long qc2), .second, .val (.int ps1), .val (.int ps2), .val (.int (Int32.ofNat n)), .val (.int kd1), .val (.int kd2), .val (.int (Int32.ofNat i)), .val (.int (Int32.ofNat j)), .val (.int (Int32.ofNat k)), .val (.ref r35), .val (.ref r58), .val (.ref b59), .val (.int (1 : Int32))] [(.int (Int32.ofNat j)), (.int (Int32.ofNat k))]))
          have hc175 : ¬ ((Int32.ofNat k) = (Int32.ofNat j)) := fun q => hkj (own_ofNat_inj (by omega) (by omega) q)
          refine own_go (fun t_ k_ => XS.icmpNo X64.here hx rfl (hb hby at_175) rfl (feq hc175).1 k_) ?_
          show OwnFin p e below s _ _ _ (T64.setTop (mkF m 178 #[.val (.int pp), .val (.int pq), .val (.long qc1), .second, .val (.long qc2), .second, .val (.int ps1), .val (.int ps2), .val (.int (Int32.ofNat n)), .val (.int kd1), .val (.int kd2), .val (.int (Int32.ofNat i)), .val (.int (Int32.ofNat j)), .val (.int (Int32.ofNat k)), .val (.ref r35), .val (.ref r58), .val (.ref b59), .val (.int (1 : Int32))] []))
          refine own_go (fun t_ k_ => XS.iload X64.here hx rfl (hb hby at_178) rfl k_) ?_
          show OwnFin p e below s _ _ _ (T64.setTop (mkF m 180 #[.val (.int pp), .val (.int pq), .val (.long qc1), .second, .val (.long qc2), .second, .val (.int ps1), .val (.int ps2), .val (.int (Int32.ofNat n)), .val (.int kd1), .val (.int kd2), .val (.int (Int32.ofNat i)), .val (.int (Int32.ofNat j)), .val (.int (Int32.ofNat k)), .val (.ref r35), .val (.ref r58), .val (.ref b59), .val (.int (1 : Int32))] [(.int (1 : Int32))]))
          refine own_go (fun t_ k_ => XS.ifNo X64.here hx rfl (hb hby at_180) rfl ((if0 _ _).trans (feq (by decide)).1) k_) ?_
          show OwnFin p e below s _ _ _ (T64.setTop (mkF m 183 #[.val (.int pp), .val (.int pq), .val (.long qc1), .second, .val (.long qc2), .second, .val (.int ps1), .val (.int ps2), .val (.int (Int32.ofNat n)), .val (.int kd1), .val (.int kd2), .val (.int (Int32.ofNat i)), .val (.int (Int32.ofNat j)), .val (.int (Int32.ofNat k)), .val (.ref r35), .val (.ref r58), .val (.ref b59), .val (.int (1 : Int32))] []))
          refine own_go (fun t_ k_ => XS.aload X64.here hx rfl (hb hby at_183) rfl rfl k_) ?_
          show OwnFin p e below s _ _ _ (T64.setTop (mkF m 185 #[.val (.int pp), .val (.int pq), .val (.long qc1), .second, .val (.long qc2), .second, .val (.int ps1), .val (.int ps2), .val (.int (Int32.ofNat n)), .val (.int kd1), .val (.int kd2), .val (.int (Int32.ofNat i)), .val (.int (Int32.ofNat j)), .val (.int (Int32.ofNat k)), .val (.ref r35), .val (.ref r58), .val (.ref b59), .val (.int (1 : Int32))] [(.ref b59)]))
          refine own_go (fun t_ k_ => XS.iload X64.here hx rfl (hb hby at_185) rfl k_) ?_
          show OwnFin p e below s _ _ _ (T64.setTop (mkF m 187 #[.val (.int pp), .val (.int pq), .val (.long qc1), .second, .val (.long qc2), .second, .val (.int ps1), .val (.int ps2), .val (.int (Int32.ofNat n)), .val (.int kd1), .val (.int kd2), .val (.int (Int32.ofNat i)), .val (.int (Int32.ofNat j)), .val (.int (Int32.ofNat k)), .val (.ref r35), .val (.ref r58), .val (.ref b59), .val (.int (1 : Int32))] [(.int (Int32.ofNat k)), (.ref b59)]))
          obtain ⟨v65, T65, L65, X65, hQ65, st65⟩ := own_callV X64 hx hZ (y := (⟨"com/example/nearside/nearside/support/SplitDecimalArray", "get", "(I)Lcom/example/nearside/nearside/support/SplitDecimal;"⟩ : MethodName)) (z := (⟨"com/example/nearside/nearside/support/SplitDecimalArray", "get", "(I)Lcom/example/nearside/nearside/support/SplitDecimal;"⟩ : MethodName)) hown (hw _ (List.mem_of_getElem? (i := 31) rfl)) (hw _ (List.mem_of_getElem? (i := 32) rfl)) (notFace_of_selects (args := #[]) (mvT hZ (hw _ (List.mem_of_getElem? (i := 34) rfl)))) (hw _ (List.mem_of_getElem? (i := 34) rfl)) (hw _ (List.mem_of_getElem? (i := 33) rfl)) (hw _ (List.mem_of_getElem? (i := 6) rfl)) (hw _ (List.mem_of_getElem? (i := 35) rfl)) (by decide) (W := 0) (rm6_V l Z a0 hw [] b59 (Int32.ofNat k) ca wa n k (fun z => if z = j then (-9223372036854775808 : Int64) else (fun z => if z = i then (own_c qc1) else (fun _ => (-9223372036854775808 : Int64)) z) z) (fun z => if z = j then Value.ref r58 else Value.null) T62.heap n0 Z62 rfl hkn Fc62 Fw62 Vc62 (by (try dsimp only); rw [if_neg hkj, if_neg hki]) Vw62 (by (try dsimp only); rw [if_neg hkj])) (by decide) (by decide) E_ao_62 (g := (mkF m 187 #[.val (.int pp), .val (.int pq), .val (.long qc1), .second, .val (.long qc2), .second, .val (.int ps1), .val (.int ps2), .val (.int (Int32.ofNat n)), .val (.int kd1), .val (.int kd2), .val (.int (Int32.ofNat i)), .val (.int (Int32.ofNat j)), .val (.int (Int32.ofNat k)), .val (.ref r35), .val (.ref r58), .val (.ref b59), .val (.int (1 : Int32))] [(.int (Int32.ofNat k)), (.ref b59)])) rfl (by rw [hml]; rfl) (argsL := [(.int (Int32.ofNat k))]) (rest := []) (lenOf pd_0_5 rfl) rfl (by show 2 * 0 + _ ≤ _; exact Nat.le_of_eq rfl) (hb hby at_187) e64 rfl (by decide) (by decide)
          obtain ⟨rfl, Nq65, e65⟩ := hQ65
          have N65 := Fr.app N64 Nq65
          refine own_go st65 ?_
          show OwnFin p e below s _ _ _ (T65.setTop (mkF m 190 #[.val (.int pp), .val (.int pq), .val (.long qc1), .second, .val (.long qc2), .second, .val (.int ps1), .val (.int ps2), .val (.int (Int32.ofNat n)), .val (.int kd1), .val (.int kd2), .val (.int (Int32.ofNat i)), .val (.int (Int32.ofNat j)), .val (.int (Int32.ofNat k)), .val (.ref r35), .val (.ref r58), .val (.ref b59), .val (.int (1 : Int32))] [.null]))
          refine own_go (fun t_ k_ => XS.ifnonnullNo X65.here hx rfl (hb hby at_190) rfl k_) ?_
          show OwnFin p e below s _ _ _ (T65.setTop (mkF m 193 #[.val (.int pp), .val (.int pq), .val (.long qc1), .second, .val (.long qc2), .second, .val (.int ps1), .val (.int ps2), .val (.int (Int32.ofNat n)), .val (.int kd1), .val (.int kd2), .val (.int (Int32.ofNat i)), .val (.int (Int32.ofNat j)), .val (.int (Int32.ofNat k)), .val (.ref r35), .val (.ref r58), .val (.ref b59), .val (.int (1 : Int32))] []))
          refine own_go (fun t_ k_ => XS.iconst X65.here hx rfl (hb hby at_193) k_) ?_
          show OwnFin p e below s _ _ _ (T65.setTop (mkF m 194 #[.val (.int pp), .val (.int pq), .val (.long qc1), .second, .val (.long qc2), .second, .val (.int ps1), .val (.int ps2), .val (.int (Int32.ofNat n)), .val (.int kd1), .val (.int kd2), .val (.int (Int32.ofNat i)), .val (.int (Int32.ofNat j)), .val (.int (Int32.ofNat k)), .val (.ref r35), .val (.ref r58), .val (.ref b59), .val (.int (1 : Int32))] [(.int (1 : Int32))]))
          refine own_go (fun t_ k_ => XS.goto X65.here hx rfl (pc0 := 194) (pc' := 198) rfl (hb hby at_194) (by decide) (by decide) k_) ?_
          show OwnFin p e below s _ _ _ (T65.setTop (mkF m 198 #[.val (.int pp), .val (.int pq), .val (.long qc1), .second, .val (.long qc2), .second, .val (.int ps1), .val (.int ps2), .val (.int (Int32.ofNat n)), .val (.int kd1), .val (.int kd2), .val (.int (Int32.ofNat i)), .val (.int (Int32.ofNat j)), .val (.int (Int32.ofNat k)), .val (.ref r35), .val (.ref r58), .val (.ref b59), .val (.int (1 : Int32))] [(.int (1 : Int32))]))
          refine own_go (fun t_ k_ => XS.istore X65.here hx rfl (hb hby at_198) rfl (l' := #[.val (.int pp), .val (.int pq), .val (.long qc1), .second, .val (.long qc2), .second, .val (.int ps1), .val (.int ps2), .val (.int (Int32.ofNat n)), .val (.int kd1), .val (.int kd2), .val (.int (Int32.ofNat i)), .val (.int (Int32.ofNat j)), .val (.int (Int32.ofNat k)), .val (.ref r35), .val (.ref r58), .val (.ref b59), .val (.int (1 : Int32))]) rfl k_) ?_
          show OwnFin p e below s _ _ _ (T65.setTop (mkF m 200 #[.val (.int pp), .val (.int pq), .val (.long qc1), .second, .val (.long qc2), .second, .val (.int ps1), .val (.int ps2), .val (.int (Int32.ofNat n)), .val (.int kd1), .val (.int kd2), .val (.int (Int32.ofNat i)), .val (.int (Int32.ofNat j)), .val (.int (Int32.ofNat k)), .val (.ref r35), .val (.ref r58), .val (.ref b59), .val (.int (1 : Int32))] []))
          refine own_go (fun t_ k_ => XS.iload X65.here hx rfl (hb hby at_200) rfl k_) ?_
          show OwnFin p e below s _ _ _ (T65.setTop (mkF m 202 #[.val (.int pp), .val (.int pq), .val (.long qc1), .second, .val (.long qc2), .second, .val (.int ps1), .val (.int ps2), .val (.int (Int32.ofNat n)), .val (.int kd1), .val (.int kd2), .val (.int (Int32.ofNat i)), .val (.int (Int32.ofNat j)), .val (.int (Int32.ofNat k)), .val (.ref r35), .val (.ref r58), .val (.ref b59), .val (.int (1 : Int32))] [(.int (1 : Int32))]))
          refine own_ret X65 (v := some (.int (1 : Int32))) hlk (fun hh => by rw [hret] at hh; cases hh) (fun fs hr => retN X65 hx (t := .boolean) hret (by simp) (hb hby at_202) hr) (by decide) (by decide) ?_
          exact ⟨rfl, N65⟩
    · refine own_go (fun t_ k_ => XS.iload X64.here hx rfl (hb hby at_130) rfl k_) ?_
      show OwnFin p e below s _ _ _ (T64.setTop (mkF m 132 #[.val (.int pp), .val (.int pq), .val (.long qc1), .second, .val (.long qc2), .second, .val (.int ps1), .val (.int ps2), .val (.int (Int32.ofNat n)), .val (.int kd1), .val (.int kd2), .val (.int (Int32.ofNat i)), .val (.int (Int32.ofNat j)), .val (.int (Int32.ofNat k)), .val (.ref r35), .val (.ref r58), .val (.ref b59), .val (.int (1 : Int32))] [(.int (Int32.ofNat i))]))
      refine own_go (fun t_ k_ => XS.iload X64.here hx rfl (hb hby at_132) rfl k_) ?_
      show OwnFin p e below s _ _ _ (T64.setTop (mkF m 134 #[.val (.int pp), .val (.int pq), .val (.long qc1), .second, .val (.long qc2), .second, .val (.int ps1), .val (.int ps2), .val (.int (Int32.ofNat n)), .val (.int kd1), .val (.int kd2), .val (.int (Int32.ofNat i)), .val (.int (Int32.ofNat j)), .val (.int (Int32.ofNat k)), .val (.ref r35), .val (.ref r58), .val (.ref b59), .val (.int (1 : Int32))] [(.int (Int32.ofNat j)), (.int (Int32.ofNat i))]))
      have hc134 : ¬ ((Int32.ofNat i) = (Int32.ofNat j)) := fun q => hij (own_ofNat_inj (by omega) (by omega) q)
      refine own_go (fun t_ k_ => XS.icmpNo X64.here hx rfl (hb hby at_134) rfl (feq hc134).1 k_) ?_
      show OwnFin p e below s _ _ _ (T64.setTop (mkF m 137 #[.val (.int pp), .val (.int pq), .val (.long qc1), .second, .val (.long qc2), .second, .val (.int ps1), .val (.int ps2), .val (.int (Int32.ofNat n)), .val (.int kd1), .val (.int kd2), .val (.int (Int32.ofNat i)), .val (.int (Int32.ofNat j)), .val (.int (Int32.ofNat k)), .val (.ref r35), .val (.ref r58), .val (.ref b59), .val (.int (1 : Int32))] []))
      refine own_go (fun t_ k_ => XS.iload X64.here hx rfl (hb hby at_137) rfl k_) ?_
      show OwnFin p e below s _ _ _ (T64.setTop (mkF m 139 #[.val (.int pp), .val (.int pq), .val (.long qc1), .second, .val (.long qc2), .second, .val (.int ps1), .val (.int ps2), .val (.int (Int32.ofNat n)), .val (.int kd1), .val (.int kd2), .val (.int (Int32.ofNat i)), .val (.int (Int32.ofNat j)), .val (.int (Int32.ofNat k)), .val (.ref r35), .val (.ref r58), .val (.ref b59), .val (.int (1 : Int32))] [(.int (1 : Int32))]))
      refine own_go (fun t_ k_ => XS.ifNo X64.here hx rfl (hb hby at_139) rfl ((if0 _ _).trans (feq (by decide)).1) k_) ?_
      show OwnFin p e below s _ _ _ (T64.setTop (mkF m 142 #[.val (.int pp), .val (.int pq), .val (.long qc1), .second, .val (.long qc2), .second, .val (.int ps1), .val (.int ps2), .val (.int (Int32.ofNat n)), .val (.int kd1), .val (.int kd2), .val (.int (Int32.ofNat i)), .val (.int (Int32.ofNat j)), .val (.int (Int32.ofNat k)), .val (.ref r35), .val (.ref r58), .val (.ref b59), .val (.int (1 : Int32))] []))
      refine own_go (fun t_ k_ => XS.aload X64.here hx rfl (hb hby at_142) rfl rfl k_) ?_
      show OwnFin p e below s _ _ _ (T64.setTop (mkF m 144 #[.val (.int pp), .val (.int pq), .val (.long qc1), .second, .val (.long qc2), .second, .val (.int ps1), .val (.int ps2), .val (.int (Int32.ofNat n)), .val (.int kd1), .val (.int kd2), .val (.int (Int32.ofNat i)), .val (.int (Int32.ofNat j)), .val (.int (Int32.ofNat k)), .val (.ref r35), .val (.ref r58), .val (.ref b59), .val (.int (1 : Int32))] [(.ref b59)]))
      refine own_go (fun t_ k_ => XS.iload X64.here hx rfl (hb hby at_144) rfl k_) ?_
      show OwnFin p e below s _ _ _ (T64.setTop (mkF m 146 #[.val (.int pp), .val (.int pq), .val (.long qc1), .second, .val (.long qc2), .second, .val (.int ps1), .val (.int ps2), .val (.int (Int32.ofNat n)), .val (.int kd1), .val (.int kd2), .val (.int (Int32.ofNat i)), .val (.int (Int32.ofNat j)), .val (.int (Int32.ofNat k)), .val (.ref r35), .val (.ref r58), .val (.ref b59), .val (.int (1 : Int32))] [(.int (Int32.ofNat i)), (.ref b59)]))
      obtain ⟨v66, T66, L66, X66, hQ66, st66⟩ := own_callV X64 hx hZ (y := (⟨"com/example/nearside/nearside/support/SplitDecimalArray", "get", "(I)Lcom/example/nearside/nearside/support/SplitDecimal;"⟩ : MethodName)) (z := (⟨"com/example/nearside/nearside/support/SplitDecimalArray", "get", "(I)Lcom/example/nearside/nearside/support/SplitDecimal;"⟩ : MethodName)) hown (hw _ (List.mem_of_getElem? (i := 31) rfl)) (hw _ (List.mem_of_getElem? (i := 32) rfl)) (notFace_of_selects (args := #[]) (mvT hZ (hw _ (List.mem_of_getElem? (i := 34) rfl)))) (hw _ (List.mem_of_getElem? (i := 34) rfl)) (hw _ (List.mem_of_getElem? (i := 33) rfl)) (hw _ (List.mem_of_getElem? (i := 6) rfl)) (hw _ (List.mem_of_getElem? (i := 35) rfl)) (by decide) (W := 0) (rm6_C l Z a0 hw [] b59 (Int32.ofNat i) ca sc n i (fun z => if z = j then (-9223372036854775808 : Int64) else (fun z => if z = i then (own_c qc1) else (fun _ => (-9223372036854775808 : Int64)) z) z) (fun z => if z = i then ps1 else (fun _ => (0 : Int32)) z) (own_c qc1) ps1 T62.heap n0 Z62 rfl hin Fc62 Fs62 Vc62 Vs61_62 (by (try dsimp only); rw [if_neg hij, if_pos rfl]) (by (try dsimp only); rw [if_pos rfl]) (own_cw _)) (by decide) (by decide) E_ao_62 (g := (mkF m 146 #[.val (.int pp), .val (.int pq), .val (.long qc1), .second, .val (.long qc2), .second, .val (.int ps1), .val (.int ps2), .val (.int (Int32.ofNat n)), .val (.int kd1), .val (.int kd2), .val (.int (Int32.ofNat i)), .val (.int (Int32.ofNat j)), .val (.int (Int32.ofNat k)), .val (.ref r35), .val (.ref r58), .val (.ref b59), .val (.int (1 : Int32))] [(.int (Int32.ofNat i)), (.ref b59)])) rfl (by rw [hml]; rfl) (argsL := [(.int (Int32.ofNat i))]) (rest := []) (lenOf pd_0_5 rfl) rfl (by show 2 * 0 + _ ≤ _; exact Nat.le_of_eq rfl) (hb hby at_146) e64 rfl (by decide) (by decide)
      obtain ⟨r66, rfl, Nq66, Kq66, sq66, Eq66, Fq66_0, Fq66_1⟩ := hQ66
      have N66 := Fr.app N64 Nq66
      have g_r66 : n0 ≤ r66 := Nat.le_trans Z62 sq66
      have ne_r35_r66 : r35 ≠ r66 := Nat.ne_of_lt (Nat.lt_of_lt_of_le E_r35_62.lt sq66)
      have ne_r58_r66 : r58 ≠ r66 := Nat.ne_of_lt (Nat.lt_of_lt_of_le E_r58_62.lt sq66)
      have ne_b59_r66 : b59 ≠ r66 := Nat.ne_of_lt (Nat.lt_of_lt_of_le E_ao_62.lt sq66)
      have ne_sc_r66 : sc ≠ r66 := Nat.ne_of_lt (Nat.lt_of_lt_of_le Vs61_62.lt sq66)
      have ne_ca_r66 : ca ≠ r66 := Nat.ne_of_lt (Nat.lt_of_lt_of_le Vc62.lt sq66)
      have ne_wa_r66 : wa ≠ r66 := Nat.ne_of_lt (Nat.lt_of_lt_of_le Vw62.lt sq66)
      have E_r35_66 := E_r35_62.keep Kq66
      have F_compact_r35_66 := F_compact_r35_62.keep Kq66 nin0
      have F_scale_r35_66 := F_scale_r35_62.keep Kq66 nin0
      have E_r58_66 := E_r58_62.keep Kq66
      have F_compact_r58_66 := F_compact_r58_62.keep Kq66 nin0
      have F_scale_r58_66 := F_scale_r58_62.keep Kq66 nin0
      have E_ao_66 := E_ao_62.keep Kq66
      have Vs61_66 := Vs61_62.keep Kq66 nin0
      have Fc62_66 := Fc62.keep Kq66 nin0
      have Fs62_66 := Fs62.keep Kq66 nin0
      have Fw62_66 := Fw62.keep Kq66 nin0
      have Vc62_66 := Vc62.keep Kq66 nin0
      have Vw62_66 := Vw62.keep Kq66 nin0
      have Z66 : n0 ≤ T66.heap.size := Nat.le_trans Z62 Kq66.1
      refine own_go st66 ?_
      show OwnFin p e below s _ _ _ (T66.setTop (mkF m 149 #[.val (.int pp), .val (.int pq), .val (.long qc1), .second, .val (.long qc2), .second, .val (.int ps1), .val (.int ps2), .val (.int (Int32.ofNat n)), .val (.int kd1), .val (.int kd2), .val (.int (Int32.ofNat i)), .val (.int (Int32.ofNat j)), .val (.int (Int32.ofNat k)), .val (.ref r35), .val (.ref r58), .val (.ref b59), .val (.int (1 : Int32))] [(.ref r66)]))
      refine own_go (fun t_ k_ => XS.aload X66.here hx rfl (hb hby at_149) rfl rfl k_) ?_
      show OwnFin p e below s _ _ _ (T66.setTop (mkF m 151 #[.val (.int pp), .val (.int pq), .val (.long qc1), .second, .val (.long qc2), .second, .val (.int ps1), .val (.int ps2), .val (.int (Int32.ofNat n)), .val (.int kd1), .val (.int kd2), .val (.int (Int32.ofNat i)), .val (.int (Int32.ofNat j)), .val (.int (Int32.ofNat k)), .val (.ref r35), .val (.ref r58), .val (.ref b59), .val (.int (1 : Int32))] [(.ref r35), (.ref r66)]))
      obtain ⟨v67, T67, L67, X67, hQ67, st67⟩ := own_callS X66 hx hZ (y := (⟨"com/example/nearside/nearside/support/SplitDecimalArraySetPinLaw", "holds", "(Lcom/example/nearside/nearside/support/SplitDecimal;Lcom/example/nearside/nearside/support/SplitDecimal;)Z"⟩ : MethodName)) hown (hw _ (List.mem_of_getElem? (i := 36) rfl)) (hw _ (List.mem_of_getElem? (i := 37) rfl)) (hw _ (List.mem_of_getElem? (i := 2) rfl)) (hw _ (List.mem_of_getElem? (i := 38) rfl)) (by decide) (W := 0) (rm7_C l Z a0 hw [] r66 r35 T66.heap n0 Z66 (own_cw _) Fq66_0 Fq66_1 F_compact_r35_66 F_scale_r35_66) (by decide) (by decide) (g := (mkF m 151 #[.val (.int pp), .val (.int pq), .val (.long qc1), .second, .val (.long qc2), .second, .val (.int ps1), .val (.int ps2), .val (.int (Int32.ofNat n)), .val (.int kd1), .val (.int kd2), .val (.int (Int32.ofNat i)), .val (.int (Int32.ofNat j)), .val (.int (Int32.ofNat k)), .val (.ref r35), .val (.ref r58), .val (.ref b59), .val (.int (1 : Int32))] [(.ref r35), (.ref r66)])) rfl (by rw [hml]; rfl) (argsL := [(.ref r66), (.ref r35)]) (rest := []) (lenOf pd_0_6 rfl) rfl (by show 2 * 0 + _ ≤ _; exact Nat.le_of_eq rfl) (hb hby at_151) rfl rfl (by decide) (by decide)
      obtain ⟨rfl, Nq67, e67⟩ := hQ67
      have N67 := Fr.app N66 Nq67
      refine own_go st67 ?_
      show OwnFin p e below s _ _ _ (T67.setTop (mkF m 154 #[.val (.int pp), .val (.int pq), .val (.long qc1), .second, .val (.long qc2), .second, .val (.int ps1), .val (.int ps2), .val (.int (Int32.ofNat n)), .val (.int kd1), .val (.int kd2), .val (.int (Int32.ofNat i)), .val (.int (Int32.ofNat j)), .val (.int (Int32.ofNat k)), .val (.ref r35), .val (.ref r58), .val (.ref b59), .val (.int (1 : Int32))] [(.int (1 : Int32))]))
      refine own_go (fun t_ k_ => XS.ifNo X67.here hx rfl (hb hby at_154) rfl ((if0 _ _).trans (feq (by decide)).1) k_) ?_
      show OwnFin p e below s _ _ _ (T67.setTop (mkF m 157 #[.val (.int pp), .val (.int pq), .val (.long qc1), .second, .val (.long qc2), .second, .val (.int ps1), .val (.int ps2), .val (.int (Int32.ofNat n)), .val (.int kd1), .val (.int kd2), .val (.int (Int32.ofNat i)), .val (.int (Int32.ofNat j)), .val (.int (Int32.ofNat k)), .val (.ref r35), .val (.ref r58), .val (.ref b59), .val (.int (1 : Int32))] []))
      refine own_go (fun t_ k_ => XS.iconst X67.here hx rfl (hb hby at_157) k_) ?_
      show OwnFin p e below s _ _ _ (T67.setTop (mkF m 158 #[.val (.int pp), .val (.int pq), .val (.long qc1), .second, .val (.long qc2), .second, .val (.int ps1), .val (.int ps2), .val (.int (Int32.ofNat n)), .val (.int kd1), .val (.int kd2), .val (.int (Int32.ofNat i)), .val (.int (Int32.ofNat j)), .val (.int (Int32.ofNat k)), .val (.ref r35), .val (.ref r58), .val (.ref b59), .val (.int (1 : Int32))] [(.int (1 : Int32))]))
      refine own_go (fun t_ k_ => XS.goto X67.here hx rfl (pc0 := 158) (pc' := 162) rfl (hb hby at_158) (by decide) (by decide) k_) ?_
      show OwnFin p e below s _ _ _ (T67.setTop (mkF m 162 #[.val (.int pp), .val (.int pq), .val (.long qc1), .second, .val (.long qc2), .second, .val (.int ps1), .val (.int ps2), .val (.int (Int32.ofNat n)), .val (.int kd1), .val (.int kd2), .val (.int (Int32.ofNat i)), .val (.int (Int32.ofNat j)), .val (.int (Int32.ofNat k)), .val (.ref r35), .val (.ref r58), .val (.ref b59), .val (.int (1 : Int32))] [(.int (1 : Int32))]))
      refine own_go (fun t_ k_ => XS.istore X67.here hx rfl (hb hby at_162) rfl (l' := #[.val (.int pp), .val (.int pq), .val (.long qc1), .second, .val (.long qc2), .second, .val (.int ps1), .val (.int ps2), .val (.int (Int32.ofNat n)), .val (.int kd1), .val (.int kd2), .val (.int (Int32.ofNat i)), .val (.int (Int32.ofNat j)), .val (.int (Int32.ofNat k)), .val (.ref r35), .val (.ref r58), .val (.ref b59), .val (.int (1 : Int32))]) rfl k_) ?_
      show OwnFin p e below s _ _ _ (T67.setTop (mkF m 164 #[.val (.int pp), .val (.int pq), .val (.long qc1), .second, .val (.long qc2), .second, .val (.int ps1), .val (.int ps2), .val (.int (Int32.ofNat n)), .val (.int kd1), .val (.int kd2), .val (.int (Int32.ofNat i)), .val (.int (Int32.ofNat j)), .val (.int (Int32.ofNat k)), .val (.ref r35), .val (.ref r58), .val (.ref b59), .val (.int (1 : Int32))] []))
      by_cases hki : k = i
      · refine own_go (fun t_ k_ => XS.iload X67.here hx rfl (hb hby at_164) rfl k_) ?_
        show OwnFin p e below s _ _ _ (T67.setTop (mkF m 166 #[.val (.int pp), .val (.int pq), .val (.long qc1), .second, .val (.long qc2), .second, .val (.int ps1), .val (.int ps2), .val (.int (Int32.ofNat n)), .val (.int kd1), .val (.int kd2), .val (.int (Int32.ofNat i)), .val (.int (Int32.ofNat j)), .val (.int (Int32.ofNat k)), .val (.ref r35), .val (.ref r58), .val (.ref b59), .val (.int (1 : Int32))] [(.int (Int32.ofNat k))]))
        refine own_go (fun t_ k_ => XS.iload X67.here hx rfl (hb hby at_166) rfl k_) ?_
        show OwnFin p e below s _ _ _ (T67.setTop (mkF m 168 #[.val (.int pp), .val (.int pq), .val (.long qc1), .second, .val (.long qc2), .second, .val (.int ps1), .val (.int ps2), .val (.int (Int32.ofNat n)), .val (.int kd1), .val (.int kd2), .val (.int (Int32.ofNat i)), .val (.int (Int32.ofNat j)), .val (.int (Int32.ofNat k)), .val (.ref r35), .val (.ref r58), .val (.ref b59), .val (.int (1 : Int32))] [(.int (Int32.ofNat i)), (.int (Int32.ofNat k))]))
        have hc168 : (Int32.ofNat k) = (Int32.ofNat i) := by rw [hki]
        refine own_go (fun t_ k_ => XS.icmpYes X67.here hx rfl (pc0 := 168) (pc' := 200) rfl (hb hby at_168) rfl (teq hc168).1 (by decide) (by decide) k_) ?_
        show OwnFin p e below s _ _ _ (T67.setTop (mkF m 200 #[.val (.int pp), .val (.int pq), .val (.long qc1), .second, .val (.long qc2), .second, .val (.int ps1), .val (.int ps2), .val (.int (Int32.ofNat n)), .val (.int kd1), .val (.int kd2), .val (.int (Int32.ofNat i)), .val (.int (Int32.ofNat j)), .val (.int (Int32.ofNat k)), .val (.ref r35), .val (.ref r58), .val (.ref b59), .val (.int (1 : Int32))] []))
        refine own_go (fun t_ k_ => XS.iload X67.here hx rfl (hb hby at_200) rfl k_) ?_
        show OwnFin p e below s _ _ _ (T67.setTop (mkF m 202 #[.val (.int pp), .val (.int pq), .val (.long qc1), .second, .val (.long qc2), .second, .val (.int ps1), .val (.int ps2), .val (.int (Int32.ofNat n)), .val (.int kd1), .val (.int kd2), .val (.int (Int32.ofNat i)), .val (.int (Int32.ofNat j)), .val (.int (Int32.ofNat k)), .val (.ref r35), .val (.ref r58), .val (.ref b59), .val (.int (1 : Int32))] [(.int (1 : Int32))]))
        refine own_ret X67 (v := some (.int (1 : Int32))) hlk (fun hh => by rw [hret] at hh; cases hh) (fun fs hr => retN X67 hx (t := .boolean) hret (by simp) (hb hby at_202) hr) (by decide) (by decide) ?_
        exact ⟨rfl, N67⟩
      · refine own_go (fun t_ k_ => XS.iload X67.here hx rfl (hb hby at_164) rfl k_) ?_
        show OwnFin p e below s _ _ _ (T67.setTop (mkF m 166 #[.val (.int pp), .val (.int pq), .val (.long qc1), .second, .val (.long qc2), .second, .val (.int ps1), .val (.int ps2), .val (.int (Int32.ofNat n)), .val (.int kd1), .val (.int kd2), .val (.int (Int32.ofNat i)), .val (.int (Int32.ofNat j)), .val (.int (Int32.ofNat k)), .val (.ref r35), .val (.ref r58), .val (.ref b59), .val (.int (1 : Int32))] [(.int (Int32.ofNat k))]))
        refine own_go (fun t_ k_ => XS.iload X67.here hx rfl (hb hby at_166) rfl k_) ?_
        show OwnFin p e below s _ _ _ (T67.setTop (mkF m 168 #[.val (.int pp), .val (.int pq), .val (.long qc1), .second, .val (.long qc2), .second, .val (.int ps1), .val (.int ps2), .val (.int (Int32.ofNat n)), .val (.int kd1), .val (.int kd2), .val (.int (Int32.ofNat i)), .val (.int (Int32.ofNat j)), .val (.int (Int32.ofNat k)), .val (.ref r35), .val (.ref r58), .val (.ref b59), .val (.int (1 : Int32))] [(.int (Int32.ofNat i)), (.int (Int32.ofNat k))]))
        have hc168 : ¬ ((Int32.ofNat k) = (Int32.ofNat i)) := fun q => hki (own_ofNat_inj (by omega) (by omega) q)
        refine own_go (fun t_ k_ => XS.icmpNo X67.here hx rfl (hb hby at_168) rfl (feq hc168).1 k_) ?_
        show OwnFin p e below s _ _ _ (T67.setTop (mkF m 171 #[.val (.int pp), .val (.int pq), .val (.long qc1), .second, .val (.long qc2), .second, .val (.int ps1), .val (.int ps2), .val (.int (Int32.ofNat n)), .val (.int kd1), .val (.int kd2), .val (.int (Int32.ofNat i)), .val (.int (Int32.ofNat j)), .val (.int (Int32.ofNat k)), .val (.ref r35), .val (.ref r58), .val (.ref b59), .val (.int (1 : Int32))] []))
        by_cases hkj : k = j
        · refine own_go (fun t_ k_ => XS.iload X67.here hx rfl (hb hby at_171) rfl k_) ?_
          show OwnFin p e below s _ _ _ (T67.setTop (mkF m 173 #[.val (.int pp), .val (.int pq), .val (.long qc1), .second, .val (.long qc2), .second, .val (.int ps1), .val (.int ps2), .val (.int (Int32.ofNat n)), .val (.int kd1), .val (.int kd2), .val (.int (Int32.ofNat i)), .val (.int (Int32.ofNat j)), .val (.int (Int32.ofNat k)), .val (.ref r35), .val (.ref r58), .val (.ref b59), .val (.int (1 : Int32))] [(.int (Int32.ofNat k))]))
          refine own_go (fun t_ k_ => XS.iload X67.here hx rfl (hb hby at_173) rfl k_) ?_
          show OwnFin p e below s _ _ _ (T67.setTop (mkF m 175 #[.val (.int pp), .val (.int pq), .val (.long qc1), .second, .val (.long qc2), .second, .val (.int ps1), .val (.int ps2), .val (.int (Int32.ofNat n)), .val (.int kd1), .val (.int kd2), .val (.int (Int32.ofNat i)), .val (.int (Int32.ofNat j)), .val (.int (Int32.ofNat k)), .val (.ref r35), .val (.ref r58), .val (.ref b59), .val (.int (1 : Int32))] [(.int (Int32.ofNat j)), (.int (Int32.ofNat k))]))
          have hc175 : (Int32.ofNat k) = (Int32.ofNat j) := by rw [hkj]
          refine own_go (fun t_ k_ => XS.icmpYes X67.here hx rfl (pc0 := 175) (pc' := 200) rfl (hb hby at_175) rfl (teq hc175).1 (by decide) (by decide) k_) ?_
          show OwnFin p e below s _ _ _ (T67.setTop (mkF m 200 #[.val (.int pp), .val (.int pq), .val (.long qc1), .second, .val (.long qc2), .second, .val (.int ps1), .val (.int ps2), .val (.int (Int32.ofNat n)), .val (.int kd1), .val (.int kd2), .val (.int (Int32.ofNat i)), .val (.int (Int32.ofNat j)), .val (.int (Int32.ofNat k)), .val (.ref r35), .val (.ref r58), .val (.ref b59), .val (.int (1 : Int32))] []))
          refine own_go (fun t_ k_ => XS.iload X67.here hx rfl (hb hby at_200) rfl k_) ?_
          show OwnFin p e below s _ _ _ (T67.setTop (mkF m 202 #[.val (.int pp), .val (.int pq), .val (.long qc1), .second, .val (.long qc2), .second, .val (.int ps1), .val (.int ps2), .val (.int (Int32.ofNat n)), .val (.int kd1), .val (.int kd2), .val (.int (Int32.ofNat i)), .val (.int (Int32.ofNat j)), .val (.int (Int32.ofNat k)), .val (.ref r35), .val (.ref r58), .val (.ref b59), .val (.int (1 : Int32))] [(.int (1 : Int32))]))
          refine own_ret X67 (v := some (.int (1 : Int32))) hlk (fun hh => by rw [hret] at hh; cases hh) (fun fs hr => retN X67 hx (t := .boolean) hret (by simp) (hb hby at_202) hr) (by decide) (by decide) ?_
          exact ⟨rfl, N67⟩
        · refine own_go (fun t_ k_ => XS.iload X67.here hx rfl (hb hby at_171) rfl k_) ?_
          show OwnFin p e below s _ _ _ (T67.setTop (mkF m 173 #[.val (.int pp), .val (.int pq), .val (.long qc1), .second, .val (.long qc2), .second, .val (.int ps1), .val (.int ps2), .val (.int (Int32.ofNat n)), .val (.int kd1), .val (.int kd2), .val (.int (Int32.ofNat i)), .val (.int (Int32.ofNat j)), .val (.int (Int32.ofNat k)), .val (.ref r35), .val (.ref r58), .val (.ref b59), .val (.int (1 : Int32))] [(.int (Int32.ofNat k))]))
          refine own_go (fun t_ k_ => XS.iload X67.here hx rfl (hb hby at_173) rfl k_) ?_
          show OwnFin p e below s _ _ _ (T67.setTop (mkF m 175 #[.val (.int pp), .val (.int pq), .val (.long qc1), .second, .val (.long qc2), .second, .val (.int ps1), .val (.int ps2), .val (.int (Int32.ofNat n)), .val (.int kd1), .val (.int kd2), .val (.int (Int32.ofNat i)), .val (.int (Int32.ofNat j)), .val (.int (Int32.ofNat k)), .val (.ref r35), .val (.ref r58), .val (.ref b59), .val (.int (1 : Int32))] [(.int (Int32.ofNat j)), (.int (Int32.ofNat k))]))
          have hc175 : ¬ ((Int32.ofNat k) = (Int32.ofNat j)) := fun q => hkj (own_ofNat_inj (by omega) (by omega) q)
          refine own_go (fun t_ k_ => XS.icmpNo X67.here hx rfl (hb hby at_175) rfl (feq hc175).1 k_) ?_
          show OwnFin p e below s _ _ _ (T67.setTop (mkF m 178 #[.val (.int pp), .val (.int pq), .val (.long qc1), .second, .val (.long qc2), .second, .val (.int ps1), .val (.int ps2), .val (.int (Int32.ofNat n)), .val (.int kd1), .val (.int kd2), .val (.int (Int32.ofNat i)), .val (.int (Int32.ofNat j)), .val (.int (Int32.ofNat k)), .val (.ref r35), .val (.ref r58), .val (.ref b59), .val (.int (1 : Int32))] []))
          refine own_go (fun t_ k_ => XS.iload X67.here hx rfl (hb hby at_178) rfl k_) ?_
          show OwnFin p e below s _ _ _ (T67.setTop (mkF m 180 #[.val (.int pp), .val (.int pq), .val (.long qc1), .second, .val (.long qc2), .second, .val (.int ps1), .val (.int ps2), .val (.int (Int32.ofNat n)), .val (.int kd1), .val (.int kd2), .val (.int (Int32.ofNat i)), .val (.int (Int32.ofNat j)), .val (.int (Int32.ofNat k)), .val (.ref r35), .val (.ref r58), .val (.ref b59), .val (.int (1 : Int32))] [(.int (1 : Int32))]))
          refine own_go (fun t_ k_ => XS.ifNo X67.here hx rfl (hb hby at_180) rfl ((if0 _ _).trans (feq (by decide)).1) k_) ?_
          show OwnFin p e below s _ _ _ (T67.setTop (mkF m 183 #[.val (.int pp), .val (.int pq), .val (.long qc1), .second, .val (.long qc2), .second, .val (.int ps1), .val (.int ps2), .val (.int (Int32.ofNat n)), .val (.int kd1), .val (.int kd2), .val (.int (Int32.ofNat i)), .val (.int (Int32.ofNat j)), .val (.int (Int32.ofNat k)), .val (.ref r35), .val (.ref r58), .val (.ref b59), .val (.int (1 : Int32))] []))
          refine own_go (fun t_ k_ => XS.aload X67.here hx rfl (hb hby at_183) rfl rfl k_) ?_
          show OwnFin p e below s _ _ _ (T67.setTop (mkF m 185 #[.val (.int pp), .val (.int pq), .val (.long qc1), .second, .val (.long qc2), .second, .val (.int ps1), .val (.int ps2), .val (.int (Int32.ofNat n)), .val (.int kd1), .val (.int kd2), .val (.int (Int32.ofNat i)), .val (.int (Int32.ofNat j)), .val (.int (Int32.ofNat k)), .val (.ref r35), .val (.ref r58), .val (.ref b59), .val (.int (1 : Int32))] [(.ref b59)]))
          refine own_go (fun t_ k_ => XS.iload X67.here hx rfl (hb hby at_185) rfl k_) ?_
          show OwnFin p e below s _ _ _ (T67.setTop (mkF m 187 #[.val (.int pp), .val (.int pq), .val (.long qc1), .second, .val (.long qc2), .second, .val (.int ps1), .val (.int ps2), .val (.int (Int32.ofNat n)), .val (.int kd1), .val (.int kd2), .val (.int (Int32.ofNat i)), .val (.int (Int32.ofNat j)), .val (.int (Int32.ofNat k)), .val (.ref r35), .val (.ref r58), .val (.ref b59), .val (.int (1 : Int32))] [(.int (Int32.ofNat k)), (.ref b59)]))
          obtain ⟨v68, T68, L68, X68, hQ68, st68⟩ := own_callV X67 hx hZ (y := (⟨"com/example/nearside/nearside/support/SplitDecimalArray", "get", "(I)Lcom/example/nearside/nearside/support/SplitDecimal;"⟩ : MethodName)) (z := (⟨"com/example/nearside/nearside/support/SplitDecimalArray", "get", "(I)Lcom/example/nearside/nearside/support/SplitDecimal;"⟩ : MethodName)) hown (hw _ (List.mem_of_getElem? (i := 31) rfl)) (hw _ (List.mem_of_getElem? (i := 32) rfl)) (notFace_of_selects (args := #[]) (mvT hZ (hw _ (List.mem_of_getElem? (i := 34) rfl)))) (hw _ (List.mem_of_getElem? (i := 34) rfl)) (hw _ (List.mem_of_getElem? (i := 33) rfl)) (hw _ (List.mem_of_getElem? (i := 6) rfl)) (hw _ (List.mem_of_getElem? (i := 35) rfl)) (by decide) (W := 0) (rm6_V l Z a0 hw [] b59 (Int32.ofNat k) ca wa n k (fun z => if z = j then (-9223372036854775808 : Int64) else (fun z => if z = i then (own_c qc1) else (fun _ => (-9223372036854775808 : Int64)) z) z) (fun z => if z = j then Value.ref r58 else Value.null) T66.heap n0 Z66 rfl hkn Fc62_66 Fw62_66 Vc62_66 (by (try dsimp only); rw [if_neg hkj, if_neg hki]) Vw62_66 (by (try dsimp only); rw [if_neg hkj])) (by decide) (by decide) E_ao_66 (g := (mkF m 187 #[.val (.int pp), .val (.int pq), .val (.long qc1), .second, .val (.long qc2), .second, .val (.int ps1), .val (.int ps2), .val (.int (Int32.ofNat n)), .val (.int kd1), .val (.int kd2), .val (.int (Int32.ofNat i)), .val (.int (Int32.ofNat j)), .val (.int (Int32.ofNat k)), .val (.ref r35), .val (.ref r58), .val (.ref b59), .val (.int (1 : Int32))] [(.int (Int32.ofNat k)), (.ref b59)])) rfl (by rw [hml]; rfl) (argsL := [(.int (Int32.ofNat k))]) (rest := []) (lenOf pd_0_5 rfl) rfl (by show 2 * 0 + _ ≤ _; exact Nat.le_of_eq rfl) (hb hby at_187) e67 rfl (by decide) (by decide)
          obtain ⟨rfl, Nq68, e68⟩ := hQ68
          have N68 := Fr.app N67 Nq68
          refine own_go st68 ?_
          show OwnFin p e below s _ _ _ (T68.setTop (mkF m 190 #[.val (.int pp), .val (.int pq), .val (.long qc1), .second, .val (.long qc2), .second, .val (.int ps1), .val (.int ps2), .val (.int (Int32.ofNat n)), .val (.int kd1), .val (.int kd2), .val (.int (Int32.ofNat i)), .val (.int (Int32.ofNat j)), .val (.int (Int32.ofNat k)), .val (.ref r35), .val (.ref r58), .val (.ref b59), .val (.int (1 : Int32))] [.null]))
          refine own_go (fun t_ k_ => XS.ifnonnullNo X68.here hx rfl (hb hby at_190) rfl k_) ?_
          show OwnFin p e below s _ _ _ (T68.setTop (mkF m 193 #[.val (.int pp), .val (.int pq), .val (.long qc1), .second, .val (.long qc2), .second, .val (.int ps1), .val (.int ps2), .val (.int (Int32.ofNat n)), .val (.int kd1), .val (.int kd2), .val (.int (Int32.ofNat i)), .val (.int (Int32.ofNat j)), .val (.int (Int32.ofNat k)), .val (.ref r35), .val (.ref r58), .val (.ref b59), .val (.int (1 : Int32))] []))
          refine own_go (fun t_ k_ => XS.iconst X68.here hx rfl (hb hby at_193) k_) ?_
          show OwnFin p e below s _ _ _ (T68.setTop (mkF m 194 #[.val (.int pp), .val (.int pq), .val (.long qc1), .second, .val (.long qc2), .second, .val (.int ps1), .val (.int ps2), .val (.int (Int32.ofNat n)), .val (.int kd1), .val (.int kd2), .val (.int (Int32.ofNat i)), .val (.int (Int32.ofNat j)), .val (.int (Int32.ofNat k)), .val (.ref r35), .val (.ref r58), .val (.ref b59), .val (.int (1 : Int32))] [(.int (1 : Int32))]))
          refine own_go (fun t_ k_ => XS.goto X68.here hx rfl (pc0 := 194) (pc' := 198) rfl (hb hby at_194) (by decide) (by decide) k_) ?_
          show OwnFin p e below s _ _ _ (T68.setTop (mkF m 198 #[.val (.int pp), .val (.int pq), .val (.long qc1), .second, .val (.long qc2), .second, .val (.int ps1), .val (.int ps2), .val (.int (Int32.ofNat n)), .val (.int kd1), .val (.int kd2), .val (.int (Int32.ofNat i)), .val (.int (Int32.ofNat j)), .val (.int (Int32.ofNat k)), .val (.ref r35), .val (.ref r58), .val (.ref b59), .val (.int (1 : Int32))] [(.int (1 : Int32))]))
          refine own_go (fun t_ k_ => XS.istore X68.here hx rfl (hb hby at_198) rfl (l' := #[.val (.int pp), .val (.int pq), .val (.long qc1), .second, .val (.long qc2), .second, .val (.int ps1), .val (.int ps2), .val (.int (Int32.ofNat n)), .val (.int kd1), .val (.int kd2), .val (.int (Int32.ofNat i)), .val (.int (Int32.ofNat j)), .val (.int (Int32.ofNat k)), .val (.ref r35), .val (.ref r58), .val (.ref b59), .val (.int (1 : Int32))]) rfl k_) ?_
          show OwnFin p e below s _ _ _ (T68.setTop (mkF m 200 #[.val (.int pp), .val (.int pq), .val (.long qc1), .second, .val (.long qc2), .second, .val (.int ps1), .val (.int ps2), .val (.int (Int32.ofNat n)), .val (.int kd1), .val (.int kd2), .val (.int (Int32.ofNat i)), .val (.int (Int32.ofNat j)), .val (.int (Int32.ofNat k)), .val (.ref r35), .val (.ref r58), .val (.ref b59), .val (.int (1 : Int32))] []))
          refine own_go (fun t_ k_ => XS.iload X68.here hx rfl (hb hby at_200) rfl k_) ?_
          show OwnFin p e below s _ _ _ (T68.setTop (mkF m 202 #[.val (.int pp), .val (.int pq), .val (.long qc1), .second, .val (.long qc2), .second, .val (.int ps1), .val (.int ps2), .val (.int (Int32.ofNat n)), .val (.int kd1), .val (.int kd2), .val (.int (Int32.ofNat i)), .val (.int (Int32.ofNat j)), .val (.int (Int32.ofNat k)), .val (.ref r35), .val (.ref r58), .val (.ref b59), .val (.int (1 : Int32))] [(.int (1 : Int32))]))
          refine own_ret X68 (v := some (.int (1 : Int32))) hlk (fun hh => by rw [hret] at hh; cases hh) (fun fs hr => retN X68 hx (t := .boolean) hret (by simp) (hb hby at_202) hr) (by decide) (by decide) ?_
          exact ⟨rfl, N68⟩
  refine own_go (fun t_ k_ => XS.iload X0.here hx rfl (hb hby at_66) rfl k_) ?_
  show OwnFin p e below s _ _ _ (s₁.setTop (mkF m 68 #[.val (.int pp), .val (.int pq), .val (.long qc1), .second, .val (.long qc2), .second, .val (.int ps1), .val (.int ps2), .val (.int (Int32.ofNat n)), .val (.int kd1), .val (.int kd2), .val (.int (Int32.ofNat i)), .val (.int (Int32.ofNat j)), .val (.int (Int32.ofNat k)), .unset, .unset, .unset, .unset] [(.int kd1)]))
  refine own_go (fun t_ k_ => XS.lloadN X0.here hx rfl (hb hby at_68) rfl k_) ?_
  show OwnFin p e below s _ _ _ (s₁.setTop (mkF m 69 #[.val (.int pp), .val (.int pq), .val (.long qc1), .second, .val (.long qc2), .second, .val (.int ps1), .val (.int ps2), .val (.int (Int32.ofNat n)), .val (.int kd1), .val (.int kd2), .val (.int (Int32.ofNat i)), .val (.int (Int32.ofNat j)), .val (.int (Int32.ofNat k)), .unset, .unset, .unset, .unset] [(.long qc1), (.int kd1)]))
  refine own_go (fun t_ k_ => XS.iload X0.here hx rfl (hb hby at_69) rfl k_) ?_
  show OwnFin p e below s _ _ _ (s₁.setTop (mkF m 71 #[.val (.int pp), .val (.int pq), .val (.long qc1), .second, .val (.long qc2), .second, .val (.int ps1), .val (.int ps2), .val (.int (Int32.ofNat n)), .val (.int kd1), .val (.int kd2), .val (.int (Int32.ofNat i)), .val (.int (Int32.ofNat j)), .val (.int (Int32.ofNat k)), .unset, .unset, .unset, .unset] [(.int ps1), (.long qc1), (.int kd1)]))
  obtain ⟨v69, T69, L69, X69, hQ69, st69⟩ := own_callS X0 hx hZ (y := (⟨"com/example/nearside/nearside/support/SplitDecimalArraySetPinLaw", "make", "(IJI)Lcom/example/nearside/nearside/support/SplitDecimal;"⟩ : MethodName)) hown (hw _ (List.mem_of_getElem? (i := 0) rfl)) (hw _ (List.mem_of_getElem? (i := 1) rfl)) (hw _ (List.mem_of_getElem? (i := 2) rfl)) (hw _ (List.mem_of_getElem? (i := 3) rfl)) (by decide) (W := 0) (rm1_2 l Z a0 hw [] kd1 qc1 ps1 h0 n0 Z0 hz1 ho1) (by decide) (by decide) (g := (mkF m 71 #[.val (.int pp), .val (.int pq), .val (.long qc1), .second, .val (.long qc2), .second, .val (.int ps1), .val (.int ps2), .val (.int (Int32.ofNat n)), .val (.int kd1), .val (.int kd2), .val (.int (Int32.ofNat i)), .val (.int (Int32.ofNat j)), .val (.int (Int32.ofNat k)), .unset, .unset, .unset, .unset] [(.int ps1), (.long qc1), (.int kd1)])) rfl (by rw [hml]; rfl) (argsL := [(.int kd1), (.long qc1), (.int ps1)]) (rest := []) (lenOf pd_0_0 rfl) rfl (by show 2 * 0 + _ ≤ _; exact Nat.le_of_eq rfl) (hb hby at_71) e0 rfl (by decide) (by decide)
  obtain ⟨r69, rfl, Nq69, Kq69, sq69, Eq69, Fq69_0, Fq69_1⟩ := hQ69
  have N69 := Fr.app N0 Nq69
  have g_r69 : n0 ≤ r69 := Nat.le_trans Z0 sq69
  have Z69 : n0 ≤ T69.heap.size := Nat.le_trans Z0 Kq69.1
  refine own_go st69 ?_
  show OwnFin p e below s _ _ _ (T69.setTop (mkF m 74 #[.val (.int pp), .val (.int pq), .val (.long qc1), .second, .val (.long qc2), .second, .val (.int ps1), .val (.int ps2), .val (.int (Int32.ofNat n)), .val (.int kd1), .val (.int kd2), .val (.int (Int32.ofNat i)), .val (.int (Int32.ofNat j)), .val (.int (Int32.ofNat k)), .unset, .unset, .unset, .unset] [(.ref r69)]))
  refine own_go (fun t_ k_ => XS.astore X69.here hx rfl (hb hby at_74) rfl rfl (l' := #[.val (.int pp), .val (.int pq), .val (.long qc1), .second, .val (.long qc2), .second, .val (.int ps1), .val (.int ps2), .val (.int (Int32.ofNat n)), .val (.int kd1), .val (.int kd2), .val (.int (Int32.ofNat i)), .val (.int (Int32.ofNat j)), .val (.int (Int32.ofNat k)), .val (.ref r69), .unset, .unset, .unset]) rfl k_) ?_
  show OwnFin p e below s _ _ _ (T69.setTop (mkF m 76 #[.val (.int pp), .val (.int pq), .val (.long qc1), .second, .val (.long qc2), .second, .val (.int ps1), .val (.int ps2), .val (.int (Int32.ofNat n)), .val (.int kd1), .val (.int kd2), .val (.int (Int32.ofNat i)), .val (.int (Int32.ofNat j)), .val (.int (Int32.ofNat k)), .val (.ref r69), .unset, .unset, .unset] []))
  by_cases hz2 : kd2 = (0 : Int32)
  · refine own_go (fun t_ k_ => XS.iload X69.here hx rfl (hb hby at_76) rfl k_) ?_
    show OwnFin p e below s _ _ _ (T69.setTop (mkF m 78 #[.val (.int pp), .val (.int pq), .val (.long qc1), .second, .val (.long qc2), .second, .val (.int ps1), .val (.int ps2), .val (.int (Int32.ofNat n)), .val (.int kd1), .val (.int kd2), .val (.int (Int32.ofNat i)), .val (.int (Int32.ofNat j)), .val (.int (Int32.ofNat k)), .val (.ref r69), .unset, .unset, .unset] [(.int kd2)]))
    refine own_go (fun t_ k_ => XS.lload X69.here hx rfl (hb hby at_78) rfl k_) ?_
    show OwnFin p e below s _ _ _ (T69.setTop (mkF m 80 #[.val (.int pp), .val (.int pq), .val (.long qc1), .second, .val (.long qc2), .second, .val (.int ps1), .val (.int ps2), .val (.int (Int32.ofNat n)), .val (.int kd1), .val (.int kd2), .val (.int (Int32.ofNat i)), .val (.int (Int32.ofNat j)), .val (.int (Int32.ofNat k)), .val (.ref r69), .unset, .unset, .unset] [(.long qc2), (.int kd2)]))
    refine own_go (fun t_ k_ => XS.iload X69.here hx rfl (hb hby at_80) rfl k_) ?_
    show OwnFin p e below s _ _ _ (T69.setTop (mkF m 82 #[.val (.int pp), .val (.int pq), .val (.long qc1), .second, .val (.long qc2), .second, .val (.int ps1), .val (.int ps2), .val (.int (Int32.ofNat n)), .val (.int kd1), .val (.int kd2), .val (.int (Int32.ofNat i)), .val (.int (Int32.ofNat j)), .val (.int (Int32.ofNat k)), .val (.ref r69), .unset, .unset, .unset] [(.int ps2), (.long qc2), (.int kd2)]))
    obtain ⟨v70, T70, L70, X70, hQ70, st70⟩ := own_callS X69 hx hZ (y := (⟨"com/example/nearside/nearside/support/SplitDecimalArraySetPinLaw", "make", "(IJI)Lcom/example/nearside/nearside/support/SplitDecimal;"⟩ : MethodName)) hown (hw _ (List.mem_of_getElem? (i := 0) rfl)) (hw _ (List.mem_of_getElem? (i := 1) rfl)) (hw _ (List.mem_of_getElem? (i := 2) rfl)) (hw _ (List.mem_of_getElem? (i := 3) rfl)) (by decide) (W := 0) (rm1_0 l Z a0 hw [] kd2 qc2 ps2 T69.heap n0 Z69 hz2) (by decide) (by decide) (g := (mkF m 82 #[.val (.int pp), .val (.int pq), .val (.long qc1), .second, .val (.long qc2), .second, .val (.int ps1), .val (.int ps2), .val (.int (Int32.ofNat n)), .val (.int kd1), .val (.int kd2), .val (.int (Int32.ofNat i)), .val (.int (Int32.ofNat j)), .val (.int (Int32.ofNat k)), .val (.ref r69), .unset, .unset, .unset] [(.int ps2), (.long qc2), (.int kd2)])) rfl (by rw [hml]; rfl) (argsL := [(.int kd2), (.long qc2), (.int ps2)]) (rest := []) (lenOf pd_0_0 rfl) rfl (by show 2 * 0 + _ ≤ _; exact Nat.le_of_eq rfl) (hb hby at_82) rfl rfl (by decide) (by decide)
    obtain ⟨rfl, Nq70, e70⟩ := hQ70
    have N70 := Fr.app N69 Nq70
    refine own_go st70 ?_
    show OwnFin p e below s _ _ _ (T70.setTop (mkF m 85 #[.val (.int pp), .val (.int pq), .val (.long qc1), .second, .val (.long qc2), .second, .val (.int ps1), .val (.int ps2), .val (.int (Int32.ofNat n)), .val (.int kd1), .val (.int kd2), .val (.int (Int32.ofNat i)), .val (.int (Int32.ofNat j)), .val (.int (Int32.ofNat k)), .val (.ref r69), .unset, .unset, .unset] [.null]))
    refine own_go (fun t_ k_ => XS.astore X70.here hx rfl (hb hby at_85) rfl rfl (l' := #[.val (.int pp), .val (.int pq), .val (.long qc1), .second, .val (.long qc2), .second, .val (.int ps1), .val (.int ps2), .val (.int (Int32.ofNat n)), .val (.int kd1), .val (.int kd2), .val (.int (Int32.ofNat i)), .val (.int (Int32.ofNat j)), .val (.int (Int32.ofNat k)), .val (.ref r69), .val .null, .unset, .unset]) rfl k_) ?_
    show OwnFin p e below s _ _ _ (T70.setTop (mkF m 87 #[.val (.int pp), .val (.int pq), .val (.long qc1), .second, .val (.long qc2), .second, .val (.int ps1), .val (.int ps2), .val (.int (Int32.ofNat n)), .val (.int kd1), .val (.int kd2), .val (.int (Int32.ofNat i)), .val (.int (Int32.ofNat j)), .val (.int (Int32.ofNat k)), .val (.ref r69), .val .null, .unset, .unset] []))
    obtain ⟨T71, h71, X71, e71, E71, A71, D71, -, st71⟩ := newO X70 hx hZ hown (hw _ (List.mem_of_getElem? (i := 4) rfl)) (hw _ (List.mem_of_getElem? (i := 5) rfl)) (hw _ (List.mem_of_getElem? (i := 6) rfl)) e70 (g := (mkF m 87 #[.val (.int pp), .val (.int pq), .val (.long qc1), .second, .val (.long qc2), .second, .val (.int ps1), .val (.int ps2), .val (.int (Int32.ofNat n)), .val (.int kd1), .val (.int kd2), .val (.int (Int32.ofNat i)), .val (.int (Int32.ofNat j)), .val (.int (Int32.ofNat k)), .val (.ref r69), .val .null, .unset, .unset] [])) rfl (hb hby at_87) (by decide) (by decide)
    obtain ⟨b71, g71⟩ : ∃ z, z = T69.heap.size := ⟨_, rfl⟩
    rw [← g71] at A71 D71 st71
    have g_b71 : n0 ≤ b71 := Nat.le_trans Z69 (Nat.le_of_eq g71.symm)
    have ne_r69_b71 : r69 ≠ b71 := Nat.ne_of_lt (Nat.lt_of_lt_of_le Eq69.lt (Nat.le_of_eq g71.symm))
    have E_r69_71 := Eq69.ext E71
    have F_compact_r69_71 := Fq69_0.ext E71
    have F_scale_r69_71 := Fq69_1.ext E71
    have Z71 : n0 ≤ h71.size := Nat.le_trans Z69 E71.1
    have E_b71 := A71
    have F_compact_b71 : Fld Z h71 b71 "com/example/nearside/nearside/support/SplitDecimalArray" "compact" "[J" .null := D71 (Or.inr (hw _ (List.mem_of_getElem? (i := 15) rfl))) (ty := (.array .long)) (by decide)
    have F_scale_b71 : Fld Z h71 b71 "com/example/nearside/nearside/support/SplitDecimalArray" "scale" "[I" .null := D71 (Or.inr (hw _ (List.mem_of_getElem? (i := 18) rfl))) (ty := (.array .int)) (by decide)
    have F_whole_b71 : Fld Z h71 b71 "com/example/nearside/nearside/support/SplitDecimalArray" "whole" "[Lcom/example/nearside/nearside/support/SplitDecimal;" .null := D71 (Or.inl (hw _ (List.mem_of_getElem? (i := 30) rfl))) (ty := (.array (.object "com/example/nearside/nearside/support/SplitDecimal"))) (by decide)
    refine own_go st71 ?_
    show OwnFin p e below s _ _ _ (T71.setTop (mkF m 90 #[.val (.int pp), .val (.int pq), .val (.long qc1), .second, .val (.long qc2), .second, .val (.int ps1), .val (.int ps2), .val (.int (Int32.ofNat n)), .val (.int kd1), .val (.int kd2), .val (.int (Int32.ofNat i)), .val (.int (Int32.ofNat j)), .val (.int (Int32.ofNat k)), .val (.ref r69), .val .null, .unset, .unset] [(.ref b71)]))
    refine own_go (fun t_ k_ => XS.dup X71.here hx rfl (hb hby at_90) rfl rfl k_) ?_
    show OwnFin p e below s _ _ _ (T71.setTop (mkF m 91 #[.val (.int pp), .val (.int pq), .val (.long qc1), .second, .val (.long qc2), .second, .val (.int ps1), .val (.int ps2), .val (.int (Int32.ofNat n)), .val (.int kd1), .val (.int kd2), .val (.int (Int32.ofNat i)), .val (.int (Int32.ofNat j)), .val (.int (Int32.ofNat k)), .val (.ref r69), .val .null, .unset, .unset] [(.ref b71), (.ref b71)]))
    refine own_go (fun t_ k_ => XS.iload X71.here hx rfl (hb hby at_91) rfl k_) ?_
    show OwnFin p e below s _ _ _ (T71.setTop (mkF m 93 #[.val (.int pp), .val (.int pq), .val (.long qc1), .second, .val (.long qc2), .second, .val (.int ps1), .val (.int ps2), .val (.int (Int32.ofNat n)), .val (.int kd1), .val (.int kd2), .val (.int (Int32.ofNat i)), .val (.int (Int32.ofNat j)), .val (.int (Int32.ofNat k)), .val (.ref r69), .val .null, .unset, .unset] [(.int (Int32.ofNat n)), (.ref b71), (.ref b71)]))
    obtain ⟨v72, T72, L72, X72, hQ72, st72⟩ := own_callI X71 hx hZ (y := (⟨"com/example/nearside/nearside/support/SplitDecimalArray", "<init>", "(I)V"⟩ : MethodName)) rfl hown (hw _ (List.mem_of_getElem? (i := 7) rfl)) (hw _ (List.mem_of_getElem? (i := 8) rfl)) (hw _ (List.mem_of_getElem? (i := 6) rfl)) (hw _ (List.mem_of_getElem? (i := 9) rfl)) (by decide) (W := 1) (rm2 l Z a0 hw [] b71 (Int32.ofNat n) n h71 n0 Z71 rfl hn4 E_b71 g_b71 F_compact_b71 F_scale_b71 F_whole_b71) (by decide) (by decide) (g := (mkF m 93 #[.val (.int pp), .val (.int pq), .val (.long qc1), .second, .val (.long qc2), .second, .val (.int ps1), .val (.int ps2), .val (.int (Int32.ofNat n)), .val (.int kd1), .val (.int kd2), .val (.int (Int32.ofNat i)), .val (.int (Int32.ofNat j)), .val (.int (Int32.ofNat k)), .val (.ref r69), .val .null, .unset, .unset] [(.int (Int32.ofNat n)), (.ref b71), (.ref b71)])) rfl (by rw [hml]; rfl) (a := b71) (argsL := [(.int (Int32.ofNat n))]) (rest := [(.ref b71)]) (lenOf pd_0_1 rfl) rfl (by show 2 * 0 + _ ≤ _; exact Nat.le_of_eq rfl) (hb hby at_93) e71 rfl (by decide) (by decide)
    obtain ⟨rfl, Nq72, Kq72, E_ao, ca, sc, sz1, sz2, ne_ca_sc, F_compact, F_scale, F_whole, V_ca, V_sc⟩ := hQ72
    have N72 := Fr.app N70 Nq72
    have g_ca : n0 ≤ ca := Nat.le_trans Z71 sz1
    have g_sc : n0 ≤ sc := Nat.le_trans Z71 sz2
    have ne_r69_ca : r69 ≠ ca := Nat.ne_of_lt (Nat.lt_of_lt_of_le E_r69_71.lt sz1)
    have ne_r69_sc : r69 ≠ sc := Nat.ne_of_lt (Nat.lt_of_lt_of_le E_r69_71.lt sz2)
    have ne_b71_ca : b71 ≠ ca := Nat.ne_of_lt (Nat.lt_of_lt_of_le E_b71.lt sz1)
    have ne_b71_sc : b71 ≠ sc := Nat.ne_of_lt (Nat.lt_of_lt_of_le E_b71.lt sz2)
    have E_r69_72 := E_r69_71.keep Kq72
    have F_compact_r69_72 := F_compact_r69_71.keep Kq72 (ninS ne_r69_b71 nin0)
    have F_scale_r69_72 := F_scale_r69_71.keep Kq72 (ninS ne_r69_b71 nin0)
    have E_b71_72 := E_b71.keep Kq72
    have Z72 : n0 ≤ T72.heap.size := Nat.le_trans Z71 Kq72.1
    refine own_go st72 ?_
    show OwnFin p e below s _ _ _ (T72.setTop (mkF m 96 #[.val (.int pp), .val (.int pq), .val (.long qc1), .second, .val (.long qc2), .second, .val (.int ps1), .val (.int ps2), .val (.int (Int32.ofNat n)), .val (.int kd1), .val (.int kd2), .val (.int (Int32.ofNat i)), .val (.int (Int32.ofNat j)), .val (.int (Int32.ofNat k)), .val (.ref r69), .val .null, .unset, .unset] [(.ref b71)]))
    refine own_go (fun t_ k_ => XS.astore X72.here hx rfl (hb hby at_96) rfl rfl (l' := #[.val (.int pp), .val (.int pq), .val (.long qc1), .second, .val (.long qc2), .second, .val (.int ps1), .val (.int ps2), .val (.int (Int32.ofNat n)), .val (.int kd1), .val (.int kd2), .val (.int (Int32.ofNat i)), .val (.int (Int32.ofNat j)), .val (.int (Int32.ofNat k)), .val (.ref r69), .val .null, .val (.ref b71), .unset]) rfl k_) ?_
    show OwnFin p e below s _ _ _ (T72.setTop (mkF m 98 #[.val (.int pp), .val (.int pq), .val (.long qc1), .second, .val (.long qc2), .second, .val (.int ps1), .val (.int ps2), .val (.int (Int32.ofNat n)), .val (.int kd1), .val (.int kd2), .val (.int (Int32.ofNat i)), .val (.int (Int32.ofNat j)), .val (.int (Int32.ofNat k)), .val (.ref r69), .val .null, .val (.ref b71), .unset] []))
    refine own_go (fun t_ k_ => XS.aload X72.here hx rfl (hb hby at_98) rfl rfl k_) ?_
    show OwnFin p e below s _ _ _ (T72.setTop (mkF m 100 #[.val (.int pp), .val (.int pq), .val (.long qc1), .second, .val (.long qc2), .second, .val (.int ps1), .val (.int ps2), .val (.int (Int32.ofNat n)), .val (.int kd1), .val (.int kd2), .val (.int (Int32.ofNat i)), .val (.int (Int32.ofNat j)), .val (.int (Int32.ofNat k)), .val (.ref r69), .val .null, .val (.ref b71), .unset] [(.ref b71)]))
    refine own_go (fun t_ k_ => XS.iload X72.here hx rfl (hb hby at_100) rfl k_) ?_
    show OwnFin p e below s _ _ _ (T72.setTop (mkF m 102 #[.val (.int pp), .val (.int pq), .val (.long qc1), .second, .val (.long qc2), .second, .val (.int ps1), .val (.int ps2), .val (.int (Int32.ofNat n)), .val (.int kd1), .val (.int kd2), .val (.int (Int32.ofNat i)), .val (.int (Int32.ofNat j)), .val (.int (Int32.ofNat k)), .val (.ref r69), .val .null, .val (.ref b71), .unset] [(.int (Int32.ofNat i)), (.ref b71)]))
    refine own_go (fun t_ k_ => XS.aload X72.here hx rfl (hb hby at_102) rfl rfl k_) ?_
    show OwnFin p e below s _ _ _ (T72.setTop (mkF m 104 #[.val (.int pp), .val (.int pq), .val (.long qc1), .second, .val (.long qc2), .second, .val (.int ps1), .val (.int ps2), .val (.int (Int32.ofNat n)), .val (.int kd1), .val (.int kd2), .val (.int (Int32.ofNat i)), .val (.int (Int32.ofNat j)), .val (.int (Int32.ofNat k)), .val (.ref r69), .val .null, .val (.ref b71), .unset] [(.ref r69), (.int (Int32.ofNat i)), (.ref b71)]))
    obtain ⟨v73, T73, L73, X73, hQ73, st73⟩ := own_callV X72 hx hZ (y := (⟨"com/example/nearside/nearside/support/SplitDecimalArray", "set", "(ILcom/example/nearside/nearside/support/SplitDecimal;)V"⟩ : MethodName)) (z := (⟨"com/example/nearside/nearside/support/SplitDecimalArray", "set", "(ILcom/example/nearside/nearside/support/SplitDecimal;)V"⟩ : MethodName)) hown (hw _ (List.mem_of_getElem? (i := 24) rfl)) (hw _ (List.mem_of_getElem? (i := 25) rfl)) (notFace_of_selects (args := #[]) (mvT hZ (hw _ (List.mem_of_getElem? (i := 27) rfl)))) (hw _ (List.mem_of_getElem? (i := 27) rfl)) (hw _ (List.mem_of_getElem? (i := 26) rfl)) (hw _ (List.mem_of_getElem? (i := 6) rfl)) (hw _ (List.mem_of_getElem? (i := 28) rfl)) (by decide) (W := 0) (rm5_W0 l Z a0 hw [] b71 (Int32.ofNat i) r69 ca sc n i (fun _ => (-9223372036854775808 : Int64)) (fun _ => (0 : Int32)) T72.heap n0 Z72 rfl hin hn4 E_ao F_compact F_scale F_whole V_ca V_sc E_r69_72 F_compact_r69_72 ne_b71_ca ne_b71_sc ne_ca_sc ne_r69_ca ne_r69_sc (Ne.symm ne_r69_b71) g_b71 g_ca) (by decide) (by decide) E_ao (g := (mkF m 104 #[.val (.int pp), .val (.int pq), .val (.long qc1), .second, .val (.long qc2), .second, .val (.int ps1), .val (.int ps2), .val (.int (Int32.ofNat n)), .val (.int kd1), .val (.int kd2), .val (.int (Int32.ofNat i)), .val (.int (Int32.ofNat j)), .val (.int (Int32.ofNat k)), .val (.ref r69), .val .null, .val (.ref b71), .unset] [(.ref r69), (.int (Int32.ofNat i)), (.ref b71)])) rfl (by rw [hml]; rfl) (argsL := [(.int (Int32.ofNat i)), (.ref r69)]) (rest := []) (lenOf pd_0_4 rfl) rfl (by show 2 * 0 + _ ≤ _; exact Nat.le_of_eq rfl) (hb hby at_104) rfl rfl (by decide) (by decide)
    obtain ⟨rfl, Nq73, Kq73, wa, szw, neca, nesc, neao, nevo, Fw73, Vc73, Vw73⟩ := hQ73
    have N73 := Fr.app N72 Nq73
    have g_wa : n0 ≤ wa := Nat.le_trans Z72 szw
    have ne_r69_wa : r69 ≠ wa := Nat.ne_of_lt (Nat.lt_of_lt_of_le E_r69_72.lt szw)
    have ne_b71_wa : b71 ≠ wa := Nat.ne_of_lt (Nat.lt_of_lt_of_le E_ao.lt szw)
    have ne_ca_wa : ca ≠ wa := Nat.ne_of_lt (Nat.lt_of_lt_of_le V_ca.lt szw)
    have ne_sc_wa : sc ≠ wa := Nat.ne_of_lt (Nat.lt_of_lt_of_le V_sc.lt szw)
    have E_r69_73 := E_r69_72.keep Kq73
    have F_compact_r69_73 := F_compact_r69_72.keep Kq73 (ninS ne_r69_b71 (ninS ne_r69_ca nin0))
    have F_scale_r69_73 := F_scale_r69_72.keep Kq73 (ninS ne_r69_b71 (ninS ne_r69_ca nin0))
    have E_ao_73 := E_ao.keep Kq73
    have V_sc_73 := V_sc.keep Kq73 (ninS (Ne.symm ne_b71_sc) (ninS (Ne.symm ne_ca_sc) nin0))
    have Z73 : n0 ≤ T73.heap.size := Nat.le_trans Z72 Kq73.1
    obtain ⟨Fc73, Fs73, Fw73⟩ := Fw73
    refine own_go st73 ?_
    show OwnFin p e below s _ _ _ (T73.setTop (mkF m 107 #[.val (.int pp), .val (.int pq), .val (.long qc1), .second, .val (.long qc2), .second, .val (.int ps1), .val (.int ps2), .val (.int (Int32.ofNat n)), .val (.int kd1), .val (.int kd2), .val (.int (Int32.ofNat i)), .val (.int (Int32.ofNat j)), .val (.int (Int32.ofNat k)), .val (.ref r69), .val .null, .val (.ref b71), .unset] []))
    refine own_go (fun t_ k_ => XS.aload X73.here hx rfl (hb hby at_107) rfl rfl k_) ?_
    show OwnFin p e below s _ _ _ (T73.setTop (mkF m 109 #[.val (.int pp), .val (.int pq), .val (.long qc1), .second, .val (.long qc2), .second, .val (.int ps1), .val (.int ps2), .val (.int (Int32.ofNat n)), .val (.int kd1), .val (.int kd2), .val (.int (Int32.ofNat i)), .val (.int (Int32.ofNat j)), .val (.int (Int32.ofNat k)), .val (.ref r69), .val .null, .val (.ref b71), .unset] [(.ref b71)]))
    refine own_go (fun t_ k_ => XS.iload X73.here hx rfl (hb hby at_109) rfl k_) ?_
    show OwnFin p e below s _ _ _ (T73.setTop (mkF m 111 #[.val (.int pp), .val (.int pq), .val (.long qc1), .second, .val (.long qc2), .second, .val (.int ps1), .val (.int ps2), .val (.int (Int32.ofNat n)), .val (.int kd1), .val (.int kd2), .val (.int (Int32.ofNat i)), .val (.int (Int32.ofNat j)), .val (.int (Int32.ofNat k)), .val (.ref r69), .val .null, .val (.ref b71), .unset] [(.int (Int32.ofNat j)), (.ref b71)]))
    refine own_go (fun t_ k_ => XS.aload X73.here hx rfl (hb hby at_111) rfl rfl k_) ?_
    show OwnFin p e below s _ _ _ (T73.setTop (mkF m 113 #[.val (.int pp), .val (.int pq), .val (.long qc1), .second, .val (.long qc2), .second, .val (.int ps1), .val (.int ps2), .val (.int (Int32.ofNat n)), .val (.int kd1), .val (.int kd2), .val (.int (Int32.ofNat i)), .val (.int (Int32.ofNat j)), .val (.int (Int32.ofNat k)), .val (.ref r69), .val .null, .val (.ref b71), .unset] [.null, (.int (Int32.ofNat j)), (.ref b71)]))
    obtain ⟨v74, T74, L74, X74, hQ74, st74⟩ := own_callV X73 hx hZ (y := (⟨"com/example/nearside/nearside/support/SplitDecimalArray", "set", "(ILcom/example/nearside/nearside/support/SplitDecimal;)V"⟩ : MethodName)) (z := (⟨"com/example/nearside/nearside/support/SplitDecimalArray", "set", "(ILcom/example/nearside/nearside/support/SplitDecimal;)V"⟩ : MethodName)) hown (hw _ (List.mem_of_getElem? (i := 24) rfl)) (hw _ (List.mem_of_getElem? (i := 25) rfl)) (notFace_of_selects (args := #[]) (mvT hZ (hw _ (List.mem_of_getElem? (i := 27) rfl)))) (hw _ (List.mem_of_getElem? (i := 27) rfl)) (hw _ (List.mem_of_getElem? (i := 26) rfl)) (hw _ (List.mem_of_getElem? (i := 6) rfl)) (hw _ (List.mem_of_getElem? (i := 28) rfl)) (by decide) (W := 0) (rm5_N1 l Z a0 hw [] b71 (Int32.ofNat j) ca sc wa n j (fun z => if z = i then (-9223372036854775808 : Int64) else (fun _ => (-9223372036854775808 : Int64)) z) (fun _ => (0 : Int32)) (fun z => if z = i then Value.ref r69 else Value.null) T73.heap n0 Z73 rfl hjn hn4 E_ao_73 Fc73 Fs73 Fw73 Vc73 V_sc_73 Vw73 ne_b71_ca ne_b71_sc ne_ca_sc ne_b71_wa ne_ca_wa ne_sc_wa g_ca g_wa) (by decide) (by decide) E_ao_73 (g := (mkF m 113 #[.val (.int pp), .val (.int pq), .val (.long qc1), .second, .val (.long qc2), .second, .val (.int ps1), .val (.int ps2), .val (.int (Int32.ofNat n)), .val (.int kd1), .val (.int kd2), .val (.int (Int32.ofNat i)), .val (.int (Int32.ofNat j)), .val (.int (Int32.ofNat k)), .val (.ref r69), .val .null, .val (.ref b71), .unset] [.null, (.int (Int32.ofNat j)), (.ref b71)])) rfl (by rw [hml]; rfl) (argsL := [(.int (Int32.ofNat j)), .null]) (rest := []) (lenOf pd_0_4 rfl) rfl (by show 2 * 0 + _ ≤ _; exact Nat.le_of_eq rfl) (hb hby at_113) rfl rfl (by decide) (by decide)
    obtain ⟨rfl, Nq74, Kq74, Vc74, Vw74⟩ := hQ74
    have N74 := Fr.app N73 Nq74
    have E_r69_74 := E_r69_73.keep Kq74
    have F_compact_r69_74 := F_compact_r69_73.keep Kq74 (ninS ne_r69_ca (ninS ne_r69_wa nin0))
    have F_scale_r69_74 := F_scale_r69_73.keep Kq74 (ninS ne_r69_ca (ninS ne_r69_wa nin0))
    have E_ao_74 := E_ao_73.keep Kq74
    have V_sc_74 := V_sc_73.keep Kq74 (ninS (Ne.symm ne_ca_sc) (ninS ne_sc_wa nin0))
    have Fc73_74 := Fc73.keep Kq74 (ninS ne_b71_ca (ninS ne_b71_wa nin0))
    have Fs73_74 := Fs73.keep Kq74 (ninS ne_b71_ca (ninS ne_b71_wa nin0))
    have Fw73_74 := Fw73.keep Kq74 (ninS ne_b71_ca (ninS ne_b71_wa nin0))
    have Z74 : n0 ≤ T74.heap.size := Nat.le_trans Z73 Kq74.1
    refine own_go st74 ?_
    show OwnFin p e below s _ _ _ (T74.setTop (mkF m 116 #[.val (.int pp), .val (.int pq), .val (.long qc1), .second, .val (.long qc2), .second, .val (.int ps1), .val (.int ps2), .val (.int (Int32.ofNat n)), .val (.int kd1), .val (.int kd2), .val (.int (Int32.ofNat i)), .val (.int (Int32.ofNat j)), .val (.int (Int32.ofNat k)), .val (.ref r69), .val .null, .val (.ref b71), .unset] []))
    refine own_go (fun t_ k_ => XS.aload X74.here hx rfl (hb hby at_116) rfl rfl k_) ?_
    show OwnFin p e below s _ _ _ (T74.setTop (mkF m 118 #[.val (.int pp), .val (.int pq), .val (.long qc1), .second, .val (.long qc2), .second, .val (.int ps1), .val (.int ps2), .val (.int (Int32.ofNat n)), .val (.int kd1), .val (.int kd2), .val (.int (Int32.ofNat i)), .val (.int (Int32.ofNat j)), .val (.int (Int32.ofNat k)), .val (.ref r69), .val .null, .val (.ref b71), .unset] [(.ref b71)]))
    refine own_go (fun t_ k_ => XS.iload X74.here hx rfl (hb hby at_118) rfl k_) ?_
    show OwnFin p e below s _ _ _ (T74.setTop (mkF m 120 #[.val (.int pp), .val (.int pq), .val (.long qc1), .second, .val (.long qc2), .second, .val (.int ps1), .val (.int ps2), .val (.int (Int32.ofNat n)), .val (.int kd1), .val (.int kd2), .val (.int (Int32.ofNat i)), .val (.int (Int32.ofNat j)), .val (.int (Int32.ofNat k)), .val (.ref r69), .val .null, .val (.ref b71), .unset] [(.int (Int32.ofNat j)), (.ref b71)]))
    obtain ⟨v75, T75, L75, X75, hQ75, st75⟩ := own_callV X74 hx hZ (y := (⟨"com/example/nearside/nearside/support/SplitDecimalArray", "get", "(I)Lcom/example/nearside/nearside/support/SplitDecimal;"⟩ : MethodName)) (z := (⟨"com/example/nearside/nearside/support/SplitDecimalArray", "get", "(I)Lcom/example/nearside/nearside/support/SplitDecimal;"⟩ : MethodName)) hown (hw _ (List.mem_of_getElem? (i := 31) rfl)) (hw _ (List.mem_of_getElem? (i := 32) rfl)) (notFace_of_selects (args := #[]) (mvT hZ (hw _ (List.mem_of_getElem? (i := 34) rfl)))) (hw _ (List.mem_of_getElem? (i := 34) rfl)) (hw _ (List.mem_of_getElem? (i := 33) rfl)) (hw _ (List.mem_of_getElem? (i := 6) rfl)) (hw _ (List.mem_of_getElem? (i := 35) rfl)) (by decide) (W := 0) (rm6_V l Z a0 hw [] b71 (Int32.ofNat j) ca wa n j (fun z => if z = j then (-9223372036854775808 : Int64) else (fun z => if z = i then (-9223372036854775808 : Int64) else (fun _ => (-9223372036854775808 : Int64)) z) z) (fun z => if z = j then Value.null else (fun z => if z = i then Value.ref r69 else Value.null) z) T74.heap n0 Z74 rfl hjn Fc73_74 Fw73_74 Vc74 (by (try dsimp only); rw [if_pos rfl]) Vw74 (by (try dsimp only); rw [if_pos rfl])) (by decide) (by decide) E_ao_74 (g := (mkF m 120 #[.val (.int pp), .val (.int pq), .val (.long qc1), .second, .val (.long qc2), .second, .val (.int ps1), .val (.int ps2), .val (.int (Int32.ofNat n)), .val (.int kd1), .val (.int kd2), .val (.int (Int32.ofNat i)), .val (.int (Int32.ofNat j)), .val (.int (Int32.ofNat k)), .val (.ref r69), .val .null, .val (.ref b71), .unset] [(.int (Int32.ofNat j)), (.ref b71)])) rfl (by rw [hml]; rfl) (argsL := [(.int (Int32.ofNat j))]) (rest := []) (lenOf pd_0_5 rfl) rfl (by show 2 * 0 + _ ≤ _; exact Nat.le_of_eq rfl) (hb hby at_120) rfl rfl (by decide) (by decide)
    obtain ⟨rfl, Nq75, e75⟩ := hQ75
    have N75 := Fr.app N74 Nq75
    refine own_go st75 ?_
    show OwnFin p e below s _ _ _ (T75.setTop (mkF m 123 #[.val (.int pp), .val (.int pq), .val (.long qc1), .second, .val (.long qc2), .second, .val (.int ps1), .val (.int ps2), .val (.int (Int32.ofNat n)), .val (.int kd1), .val (.int kd2), .val (.int (Int32.ofNat i)), .val (.int (Int32.ofNat j)), .val (.int (Int32.ofNat k)), .val (.ref r69), .val .null, .val (.ref b71), .unset] [.null]))
    refine own_go (fun t_ k_ => XS.aload X75.here hx rfl (hb hby at_123) rfl rfl k_) ?_
    show OwnFin p e below s _ _ _ (T75.setTop (mkF m 125 #[.val (.int pp), .val (.int pq), .val (.long qc1), .second, .val (.long qc2), .second, .val (.int ps1), .val (.int ps2), .val (.int (Int32.ofNat n)), .val (.int kd1), .val (.int kd2), .val (.int (Int32.ofNat i)), .val (.int (Int32.ofNat j)), .val (.int (Int32.ofNat k)), .val (.ref r69), .val .null, .val (.ref b71), .unset] [.null, .null]))
    obtain ⟨v76, T76, L76, X76, hQ76, st76⟩ := own_callS X75 hx hZ (y := (⟨"com/example/nearside/nearside/support/SplitDecimalArraySetPinLaw", "holds", "(Lcom/example/nearside/nearside/support/SplitDecimal;Lcom/example/nearside/nearside/support/SplitDecimal;)Z"⟩ : MethodName)) hown (hw _ (List.mem_of_getElem? (i := 36) rfl)) (hw _ (List.mem_of_getElem? (i := 37) rfl)) (hw _ (List.mem_of_getElem? (i := 2) rfl)) (hw _ (List.mem_of_getElem? (i := 38) rfl)) (by decide) (W := 0) (rm7_N l Z a0 hw []  T74.heap n0 Z74) (by decide) (by decide) (g := (mkF m 125 #[.val (.int pp), .val (.int pq), .val (.long qc1), .second, .val (.long qc2), .second, .val (.int ps1), .val (.int ps2), .val (.int (Int32.ofNat n)), .val (.int kd1), .val (.int kd2), .val (.int (Int32.ofNat i)), .val (.int (Int32.ofNat j)), .val (.int (Int32.ofNat k)), .val (.ref r69), .val .null, .val (.ref b71), .unset] [.null, .null])) rfl (by rw [hml]; rfl) (argsL := [.null, .null]) (rest := []) (lenOf pd_0_6 rfl) rfl (by show 2 * 0 + _ ≤ _; exact Nat.le_of_eq rfl) (hb hby at_125) e75 rfl (by decide) (by decide)
    obtain ⟨rfl, Nq76, e76⟩ := hQ76
    have N76 := Fr.app N75 Nq76
    refine own_go st76 ?_
    show OwnFin p e below s _ _ _ (T76.setTop (mkF m 128 #[.val (.int pp), .val (.int pq), .val (.long qc1), .second, .val (.long qc2), .second, .val (.int ps1), .val (.int ps2), .val (.int (Int32.ofNat n)), .val (.int kd1), .val (.int kd2), .val (.int (Int32.ofNat i)), .val (.int (Int32.ofNat j)), .val (.int (Int32.ofNat k)), .val (.ref r69), .val .null, .val (.ref b71), .unset] [(.int (1 : Int32))]))
    refine own_go (fun t_ k_ => XS.istore X76.here hx rfl (hb hby at_128) rfl (l' := #[.val (.int pp), .val (.int pq), .val (.long qc1), .second, .val (.long qc2), .second, .val (.int ps1), .val (.int ps2), .val (.int (Int32.ofNat n)), .val (.int kd1), .val (.int kd2), .val (.int (Int32.ofNat i)), .val (.int (Int32.ofNat j)), .val (.int (Int32.ofNat k)), .val (.ref r69), .val .null, .val (.ref b71), .val (.int (1 : Int32))]) rfl k_) ?_
    show OwnFin p e below s _ _ _ (T76.setTop (mkF m 130 #[.val (.int pp), .val (.int pq), .val (.long qc1), .second, .val (.long qc2), .second, .val (.int ps1), .val (.int ps2), .val (.int (Int32.ofNat n)), .val (.int kd1), .val (.int kd2), .val (.int (Int32.ofNat i)), .val (.int (Int32.ofNat j)), .val (.int (Int32.ofNat k)), .val (.ref r69), .val .null, .val (.ref b71), .val (.int (1 : Int32))] []))
    by_cases hij : i = j
    · refine own_go (fun t_ k_ => XS.iload X76.here hx rfl (hb hby at_130) rfl k_) ?_
      show OwnFin p e below s _ _ _ (T76.setTop (mkF m 132 #[.val (.int pp), .val (.int pq), .val (.long qc1), .second, .val (.long qc2), .second, .val (.int ps1), .val (.int ps2), .val (.int (Int32.ofNat n)), .val (.int kd1), .val (.int kd2), .val (.int (Int32.ofNat i)), .val (.int (Int32.ofNat j)), .val (.int (Int32.ofNat k)), .val (.ref r69), .val .null, .val (.ref b71), .val (.int (1 : Int32))] [(.int (Int32.ofNat i))]))
      refine own_go (fun t_ k_ => XS.iload X76.here hx rfl (hb hby at_132) rfl k_) ?_
      show OwnFin p e below s _ _ _ (T76.setTop (mkF m 134 #[.val (.int pp), .val (.int pq), .val (.long qc1), .second, .val (.long qc2), .second, .val (.int ps1), .val (.int ps2), .val (.int (Int32.ofNat n)), .val (.int kd1), .val (.int kd2), .val (.int (Int32.ofNat i)), .val (.int (Int32.ofNat j)), .val (.int (Int32.ofNat k)), .val (.ref r69), .val .null, .val (.ref b71), .val (.int (1 : Int32))] [(.int (Int32.ofNat j)), (.int (Int32.ofNat i))]))
      have hc134 : (Int32.ofNat i) = (Int32.ofNat j) := by rw [hij]
      refine own_go (fun t_ k_ => XS.icmpYes X76.here hx rfl (pc0 := 134) (pc' := 164) rfl (hb hby at_134) rfl (teq hc134).1 (by decide) (by decide) k_) ?_
      show OwnFin p e below s _ _ _ (T76.setTop (mkF m 164 #[.val (.int pp), .val (.int pq), .val (.long qc1), .second, .val (.long qc2), .second, .val (.int ps1), .val (.int ps2), .val (.int (Int32.ofNat n)), .val (.int kd1), .val (.int kd2), .val (.int (Int32.ofNat i)), .val (.int (Int32.ofNat j)), .val (.int (Int32.ofNat k)), .val (.ref r69), .val .null, .val (.ref b71), .val (.int (1 : Int32))] []))
      by_cases hki : k = i
      · refine own_go (fun t_ k_ => XS.iload X76.here hx rfl (hb hby at_164) rfl k_) ?_
        show OwnFin p e below s _ _ _ (T76.setTop (mkF m 166 #[.val (.int pp), .val (.int pq), .val (.long qc1), .second, .val (.long qc2), .second, .val (.int ps1), .val (.int ps2), .val (.int (Int32.ofNat n)), .val (.int kd1), .val (.int kd2), .val (.int (Int32.ofNat i)), .val (.int (Int32.ofNat j)), .val (.int (Int32.ofNat k)), .val (.ref r69), .val .null, .val (.ref b71), .val (.int (1 : Int32))] [(.int (Int32.ofNat k))]))
        refine own_go (fun t_ k_ => XS.iload X76.here hx rfl (hb hby at_166) rfl k_) ?_
        show OwnFin p e below s _ _ _ (T76.setTop (mkF m 168 #[.val (.int pp), .val (.int pq), .val (.long qc1), .second, .val (.long qc2), .second, .val (.int ps1), .val (.int ps2), .val (.int (Int32.ofNat n)), .val (.int kd1), .val (.int kd2), .val (.int (Int32.ofNat i)), .val (.int (Int32.ofNat j)), .val (.int (Int32.ofNat k)), .val (.ref r69), .val .null, .val (.ref b71), .val (.int (1 : Int32))] [(.int (Int32.ofNat i)), (.int (Int32.ofNat k))]))
        have hc168 : (Int32.ofNat k) = (Int32.ofNat i) := by rw [hki]
        refine own_go (fun t_ k_ => XS.icmpYes X76.here hx rfl (pc0 := 168) (pc' := 200) rfl (hb hby at_168) rfl (teq hc168).1 (by decide) (by decide) k_) ?_
        show OwnFin p e below s _ _ _ (T76.setTop (mkF m 200 #[.val (.int pp), .val (.int pq), .val (.long qc1), .second, .val (.long qc2), .second, .val (.int ps1), .val (.int ps2), .val (.int (Int32.ofNat n)), .val (.int kd1), .val (.int kd2), .val (.int (Int32.ofNat i)), .val (.int (Int32.ofNat j)), .val (.int (Int32.ofNat k)), .val (.ref r69), .val .null, .val (.ref b71), .val (.int (1 : Int32))] []))
        refine own_go (fun t_ k_ => XS.iload X76.here hx rfl (hb hby at_200) rfl k_) ?_
        show OwnFin p e below s _ _ _ (T76.setTop (mkF m 202 #[.val (.int pp), .val (.int pq), .val (.long qc1), .second, .val (.long qc2), .second, .val (.int ps1), .val (.int ps2), .val (.int (Int32.ofNat n)), .val (.int kd1), .val (.int kd2), .val (.int (Int32.ofNat i)), .val (.int (Int32.ofNat j)), .val (.int (Int32.ofNat k)), .val (.ref r69), .val .null, .val (.ref b71), .val (.int (1 : Int32))] [(.int (1 : Int32))]))
        refine own_ret X76 (v := some (.int (1 : Int32))) hlk (fun hh => by rw [hret] at hh; cases hh) (fun fs hr => retN X76 hx (t := .boolean) hret (by simp) (hb hby at_202) hr) (by decide) (by decide) ?_
        exact ⟨rfl, N76⟩
      · refine own_go (fun t_ k_ => XS.iload X76.here hx rfl (hb hby at_164) rfl k_) ?_
        show OwnFin p e below s _ _ _ (T76.setTop (mkF m 166 #[.val (.int pp), .val (.int pq), .val (.long qc1), .second, .val (.long qc2), .second, .val (.int ps1), .val (.int ps2), .val (.int (Int32.ofNat n)), .val (.int kd1), .val (.int kd2), .val (.int (Int32.ofNat i)), .val (.int (Int32.ofNat j)), .val (.int (Int32.ofNat k)), .val (.ref r69), .val .null, .val (.ref b71), .val (.int (1 : Int32))] [(.int (Int32.ofNat k))]))
        refine own_go (fun t_ k_ => XS.iload X76.here hx rfl (hb hby at_166) rfl k_) ?_
        show OwnFin p e below s _ _ _ (T76.setTop (mkF m 168 #[.val (.int pp), .val (.int pq), .val (.long qc1), .second, .val (.long qc2), .second, .val (.int ps1), .val (.int ps2), .val (.int (Int32.ofNat n)), .val (.int kd1), .val (.int kd2), .val (.int (Int32.ofNat i)), .val (.int (Int32.ofNat j)), .val (.int (Int32.ofNat k)), .val (.ref r69), .val .null, .val (.ref b71), .val (.int (1 : Int32))] [(.int (Int32.ofNat i)), (.int (Int32.ofNat k))]))
        have hc168 : ¬ ((Int32.ofNat k) = (Int32.ofNat i)) := fun q => hki (own_ofNat_inj (by omega) (by omega) q)
        refine own_go (fun t_ k_ => XS.icmpNo X76.here hx rfl (hb hby at_168) rfl (feq hc168).1 k_) ?_
        show OwnFin p e below s _ _ _ (T76.setTop (mkF m 171 #[.val (.int pp), .val (.int pq), .val (.long qc1), .second, .val (.long qc2), .second, .val (.int ps1), .val (.int ps2), .val (.int (Int32.ofNat n)), .val (.int kd1), .val (.int kd2), .val (.int (Int32.ofNat i)), .val (.int (Int32.ofNat j)), .val (.int (Int32.ofNat k)), .val (.ref r69), .val .null, .val (.ref b71), .val (.int (1 : Int32))] []))
        by_cases hkj : k = j
        · refine own_go (fun t_ k_ => XS.iload X76.here hx rfl (hb hby at_171) rfl k_) ?_
          show OwnFin p e below s _ _ _ (T76.setTop (mkF m 173 #[.val (.int pp), .val (.int pq), .val (.long qc1), .second, .val (.long qc2), .second, .val (.int ps1), .val (.int ps2), .val (.int (Int32.ofNat n)), .val (.int kd1), .val (.int kd2), .val (.int (Int32.ofNat i)), .val (.int (Int32.ofNat j)), .val (.int (Int32.ofNat k)), .val (.ref r69), .val .null, .val (.ref b71), .val (.int (1 : Int32))] [(.int (Int32.ofNat k))]))
          refine own_go (fun t_ k_ => XS.iload X76.here hx rfl (hb hby at_173) rfl k_) ?_
          show OwnFin p e below s _ _ _ (T76.setTop (mkF m 175 #[.val (.int pp), .val (.int pq), .val (.long qc1), .second, .val (.long qc2), .second, .val (.int ps1), .val (.int ps2), .val (.int (Int32.ofNat n)), .val (.int kd1), .val (.int kd2), .val (.int (Int32.ofNat i)), .val (.int (Int32.ofNat j)), .val (.int (Int32.ofNat k)), .val (.ref r69), .val .null, .val (.ref b71), .val (.int (1 : Int32))] [(.int (Int32.ofNat j)), (.int (Int32.ofNat k))]))
          have hc175 : (Int32.ofNat k) = (Int32.ofNat j) := by rw [hkj]
          refine own_go (fun t_ k_ => XS.icmpYes X76.here hx rfl (pc0 := 175) (pc' := 200) rfl (hb hby at_175) rfl (teq hc175).1 (by decide) (by decide) k_) ?_
          show OwnFin p e below s _ _ _ (T76.setTop (mkF m 200 #[.val (.int pp), .val (.int pq), .val (.long qc1), .second, .val (.long qc2), .second, .val (.int ps1), .val (.int ps2), .val (.int (Int32.ofNat n)), .val (.int kd1), .val (.int kd2), .val (.int (Int32.ofNat i)), .val (.int (Int32.ofNat j)), .val (.int (Int32.ofNat k)), .val (.ref r69), .val .null, .val (.ref b71), .val (.int (1 : Int32))] []))
          refine own_go (fun t_ k_ => XS.iload X76.here hx rfl (hb hby at_200) rfl k_) ?_
          show OwnFin p e below s _ _ _ (T76.setTop (mkF m 202 #[.val (.int pp), .val (.int pq), .val (.long qc1), .second, .val (.long qc2), .second, .val (.int ps1), .val (.int ps2), .val (.int (Int32.ofNat n)), .val (.int kd1), .val (.int kd2), .val (.int (Int32.ofNat i)), .val (.int (Int32.ofNat j)), .val (.int (Int32.ofNat k)), .val (.ref r69), .val .null, .val (.ref b71), .val (.int (1 : Int32))] [(.int (1 : Int32))]))
          refine own_ret X76 (v := some (.int (1 : Int32))) hlk (fun hh => by rw [hret] at hh; cases hh) (fun fs hr => retN X76 hx (t := .boolean) hret (by simp) (hb hby at_202) hr) (by decide) (by decide) ?_
          exact ⟨rfl, N76⟩
        · refine own_go (fun t_ k_ => XS.iload X76.here hx rfl (hb hby at_171) rfl k_) ?_
          show OwnFin p e below s _ _ _ (T76.setTop (mkF m 173 #[.val (.int pp), .val (.int pq), .val (.long qc1), .second, .val (.long qc2), .second, .val (.int ps1), .val (.int ps2), .val (.int (Int32.ofNat n)), .val (.int kd1), .val (.int kd2), .val (.int (Int32.ofNat i)), .val (.int (Int32.ofNat j)), .val (.int (Int32.ofNat k)), .val (.ref r69), .val .null, .val (.ref b71), .val (.int (1 : Int32))] [(.int (Int32.ofNat k))]))
          refine own_go (fun t_ k_ => XS.iload X76.here hx rfl (hb hby at_173) rfl k_) ?_
          show OwnFin p e below s _ _ _ (T76.setTop (mkF m 175 #[.val (.int pp), .val (.int pq), .val (.long qc1), .second, .val (.long qc2), .second, .val (.int ps1), .val (.int ps2), .val (.int (Int32.ofNat n)), .val (.int kd1), .val (.int kd2), .val (.int (Int32.ofNat i)), .val (.int (Int32.ofNat j)), .val (.int (Int32.ofNat k)), .val (.ref r69), .val .null, .val (.ref b71), .val (.int (1 : Int32))] [(.int (Int32.ofNat j)), (.int (Int32.ofNat k))]))
          have hc175 : ¬ ((Int32.ofNat k) = (Int32.ofNat j)) := fun q => hkj (own_ofNat_inj (by omega) (by omega) q)
          refine own_go (fun t_ k_ => XS.icmpNo X76.here hx rfl (hb hby at_175) rfl (feq hc175).1 k_) ?_
          show OwnFin p e below s _ _ _ (T76.setTop (mkF m 178 #[.val (.int pp), .val (.int pq), .val (.long qc1), .second, .val (.long qc2), .second, .val (.int ps1), .val (.int ps2), .val (.int (Int32.ofNat n)), .val (.int kd1), .val (.int kd2), .val (.int (Int32.ofNat i)), .val (.int (Int32.ofNat j)), .val (.int (Int32.ofNat k)), .val (.ref r69), .val .null, .val (.ref b71), .val (.int (1 : Int32))] []))
          refine own_go (fun t_ k_ => XS.iload X76.here hx rfl (hb hby at_178) rfl k_) ?_
          show OwnFin p e below s _ _ _ (T76.setTop (mkF m 180 #[.val (.int pp), .val (.int pq), .val (.long qc1), .second, .val (.long qc2), .second, .val (.int ps1), .val (.int ps2), .val (.int (Int32.ofNat n)), .val (.int kd1), .val (.int kd2), .val (.int (Int32.ofNat i)), .val (.int (Int32.ofNat j)), .val (.int (Int32.ofNat k)), .val (.ref r69), .val .null, .val (.ref b71), .val (.int (1 : Int32))] [(.int (1 : Int32))]))
          refine own_go (fun t_ k_ => XS.ifNo X76.here hx rfl (hb hby at_180) rfl ((if0 _ _).trans (feq (by decide)).1) k_) ?_
          show OwnFin p e below s _ _ _ (T76.setTop (mkF m 183 #[.val (.int pp), .val (.int pq), .val (.long qc1), .second, .val (.long qc2), .second, .val (.int ps1), .val (.int ps2), .val (.int (Int32.ofNat n)), .val (.int kd1), .val (.int kd2), .val (.int (Int32.ofNat i)), .val (.int (Int32.ofNat j)), .val (.int (Int32.ofNat k)), .val (.ref r69), .val .null, .val (.ref b71), .val (.int (1 : Int32))] []))
          refine own_go (fun t_ k_ => XS.aload X76.here hx rfl (hb hby at_183) rfl rfl k_) ?_
          show OwnFin p e below s _ _ _ (T76.setTop (mkF m 185 #[.val (.int pp), .val (.int pq), .val (.long qc1), .second, .val (.long qc2), .second, .val (.int ps1), .val (.int ps2), .val (.int (Int32.ofNat n)), .val (.int kd1), .val (.int kd2), .val (.int (Int32.ofNat i)), .val (.int (Int32.ofNat j)), .val (.int (Int32.ofNat k)), .val (.ref r69), .val .null, .val (.ref b71), .val (.int (1 : Int32))] [(.ref b71)]))
          refine own_go (fun t_ k_ => XS.iload X76.here hx rfl (hb hby at_185) rfl k_) ?_
          show OwnFin p e below s _ _ _ (T76.setTop (mkF m 187 #[.val (.int pp), .val (.int pq), .val (.long qc1), .second, .val (.long qc2), .second, .val (.int ps1), .val (.int ps2), .val (.int (Int32.ofNat n)), .val (.int kd1), .val (.int kd2), .val (.int (Int32.ofNat i)), .val (.int (Int32.ofNat j)), .val (.int (Int32.ofNat k)), .val (.ref r69), .val .null, .val (.ref b71), .val (.int (1 : Int32))] [(.int (Int32.ofNat k)), (.ref b71)]))
          obtain ⟨v77, T77, L77, X77, hQ77, st77⟩ := own_callV X76 hx hZ (y := (⟨"com/example/nearside/nearside/support/SplitDecimalArray", "get", "(I)Lcom/example/nearside/nearside/support/SplitDecimal;"⟩ : MethodName)) (z := (⟨"com/example/nearside/nearside/support/SplitDecimalArray", "get", "(I)Lcom/example/nearside/nearside/support/SplitDecimal;"⟩ : MethodName)) hown (hw _ (List.mem_of_getElem? (i := 31) rfl)) (hw _ (List.mem_of_getElem? (i := 32) rfl)) (notFace_of_selects (args := #[]) (mvT hZ (hw _ (List.mem_of_getElem? (i := 34) rfl)))) (hw _ (List.mem_of_getElem? (i := 34) rfl)) (hw _ (List.mem_of_getElem? (i := 33) rfl)) (hw _ (List.mem_of_getElem? (i := 6) rfl)) (hw _ (List.mem_of_getElem? (i := 35) rfl)) (by decide) (W := 0) (rm6_V l Z a0 hw [] b71 (Int32.ofNat k) ca wa n k (fun z => if z = j then (-9223372036854775808 : Int64) else (fun z => if z = i then (-9223372036854775808 : Int64) else (fun _ => (-9223372036854775808 : Int64)) z) z) (fun z => if z = j then Value.null else (fun z => if z = i then Value.ref r69 else Value.null) z) T74.heap n0 Z74 rfl hkn Fc73_74 Fw73_74 Vc74 (by (try dsimp only); rw [if_neg hkj, if_neg hki]) Vw74 (by (try dsimp only); rw [if_neg hkj, if_neg hki])) (by decide) (by decide) E_ao_74 (g := (mkF m 187 #[.val (.int pp), .val (.int pq), .val (.long qc1), .second, .val (.long qc2), .second, .val (.int ps1), .val (.int ps2), .val (.int (Int32.ofNat n)), .val (.int kd1), .val (.int kd2), .val (.int (Int32.ofNat i)), .val (.int (Int32.ofNat j)), .val (.int (Int32.ofNat k)), .val (.ref r69), .val .null, .val (.ref b71), .val (.int (1 : Int32))] [(.int (Int32.ofNat k)), (.ref b71)])) rfl (by rw [hml]; rfl) (argsL := [(.int (Int32.ofNat k))]) (rest := []) (lenOf pd_0_5 rfl) rfl (by show 2 * 0 + _ ≤ _; exact Nat.le_of_eq rfl) (hb hby at_187) e76 rfl (by decide) (by decide)
          obtain ⟨rfl, Nq77, e77⟩ := hQ77
          have N77 := Fr.app N76 Nq77
          refine own_go st77 ?_
          show OwnFin p e below s _ _ _ (T77.setTop (mkF m 190 #[.val (.int pp), .val (.int pq), .val (.long qc1), .second, .val (.long qc2), .second, .val (.int ps1), .val (.int ps2), .val (.int (Int32.ofNat n)), .val (.int kd1), .val (.int kd2), .val (.int (Int32.ofNat i)), .val (.int (Int32.ofNat j)), .val (.int (Int32.ofNat k)), .val (.ref r69), .val .null, .val (.ref b71), .val (.int (1 : Int32))] [.null]))
          refine own_go (fun t_ k_ => XS.ifnonnullNo X77.here hx rfl (hb hby at_190) rfl k_) ?_
          show OwnFin p e below s _ _ _ (T77.setTop (mkF m 193 #[.val (.int pp), .val (.int pq), .val (.long qc1), .second, .val (.long qc2), .second, .val (.int ps1), .val (.int ps2), .val (.int (Int32.ofNat n)), .val (.int kd1), .val (.int kd2), .val (.int (Int32.ofNat i)), .val (.int (Int32.ofNat j)), .val (.int (Int32.ofNat k)), .val (.ref r69), .val .null, .val (.ref b71), .val (.int (1 : Int32))] []))
          refine own_go (fun t_ k_ => XS.iconst X77.here hx rfl (hb hby at_193) k_) ?_
          show OwnFin p e below s _ _ _ (T77.setTop (mkF m 194 #[.val (.int pp), .val (.int pq), .val (.long qc1), .second, .val (.long qc2), .second, .val (.int ps1), .val (.int ps2), .val (.int (Int32.ofNat n)), .val (.int kd1), .val (.int kd2), .val (.int (Int32.ofNat i)), .val (.int (Int32.ofNat j)), .val (.int (Int32.ofNat k)), .val (.ref r69), .val .null, .val (.ref b71), .val (.int (1 : Int32))] [(.int (1 : Int32))]))
          refine own_go (fun t_ k_ => XS.goto X77.here hx rfl (pc0 := 194) (pc' := 198) rfl (hb hby at_194) (by decide) (by decide) k_) ?_
          show OwnFin p e below s _ _ _ (T77.setTop (mkF m 198 #[.val (.int pp), .val (.int pq), .val (.long qc1), .second, .val (.long qc2), .second, .val (.int ps1), .val (.int ps2), .val (.int (Int32.ofNat n)), .val (.int kd1), .val (.int kd2), .val (.int (Int32.ofNat i)), .val (.int (Int32.ofNat j)), .val (.int (Int32.ofNat k)), .val (.ref r69), .val .null, .val (.ref b71), .val (.int (1 : Int32))] [(.int (1 : Int32))]))
          refine own_go (fun t_ k_ => XS.istore X77.here hx rfl (hb hby at_198) rfl (l' := #[.val (.int pp), .val (.int pq), .val (.long qc1), .second, .val (.long qc2), .second, .val (.int ps1), .val (.int ps2), .val (.int (Int32.ofNat n)), .val (.int kd1), .val (.int kd2), .val (.int (Int32.ofNat i)), .val (.int (Int32.ofNat j)), .val (.int (Int32.ofNat k)), .val (.ref r69), .val .null, .val (.ref b71), .val (.int (1 : Int32))]) rfl k_) ?_
          show OwnFin p e below s _ _ _ (T77.setTop (mkF m 200 #[.val (.int pp), .val (.int pq), .val (.long qc1), .second, .val (.long qc2), .second, .val (.int ps1), .val (.int ps2), .val (.int (Int32.ofNat n)), .val (.int kd1), .val (.int kd2), .val (.int (Int32.ofNat i)), .val (.int (Int32.ofNat j)), .val (.int (Int32.ofNat k)), .val (.ref r69), .val .null, .val (.ref b71), .val (.int (1 : Int32))] []))
          refine own_go (fun t_ k_ => XS.iload X77.here hx rfl (hb hby at_200) rfl k_) ?_
          show OwnFin p e below s _ _ _ (T77.setTop (mkF m 202 #[.val (.int pp), .val (.int pq), .val (.long qc1), .second, .val (.long qc2), .second, .val (.int ps1), .val (.int ps2), .val (.int (Int32.ofNat n)), .val (.int kd1), .val (.int kd2), .val (.int (Int32.ofNat i)), .val (.int (Int32.ofNat j)), .val (.int (Int32.ofNat k)), .val (.ref r69), .val .null, .val (.ref b71), .val (.int (1 : Int32))] [(.int (1 : Int32))]))
          refine own_ret X77 (v := some (.int (1 : Int32))) hlk (fun hh => by rw [hret] at hh; cases hh) (fun fs hr => retN X77 hx (t := .boolean) hret (by simp) (hb hby at_202) hr) (by decide) (by decide) ?_
          exact ⟨rfl, N77⟩
    · refine own_go (fun t_ k_ => XS.iload X76.here hx rfl (hb hby at_130) rfl k_) ?_
      show OwnFin p e below s _ _ _ (T76.setTop (mkF m 132 #[.val (.int pp), .val (.int pq), .val (.long qc1), .second, .val (.long qc2), .second, .val (.int ps1), .val (.int ps2), .val (.int (Int32.ofNat n)), .val (.int kd1), .val (.int kd2), .val (.int (Int32.ofNat i)), .val (.int (Int32.ofNat j)), .val (.int (Int32.ofNat k)), .val (.ref r69), .val .null, .val (.ref b71), .val (.int (1 : Int32))] [(.int (Int32.ofNat i))]))
      refine own_go (fun t_ k_ => XS.iload X76.here hx rfl (hb hby at_132) rfl k_) ?_
      show OwnFin p e below s _ _ _ (T76.setTop (mkF m 134 #[.val (.int pp), .val (.int pq), .val (.long qc1), .second, .val (.long qc2), .second, .val (.int ps1), .val (.int ps2), .val (.int (Int32.ofNat n)), .val (.int kd1), .val (.int kd2), .val (.int (Int32.ofNat i)), .val (.int (Int32.ofNat j)), .val (.int (Int32.ofNat k)), .val (.ref r69), .val .null, .val (.ref b71), .val (.int (1 : Int32))] [(.int (Int32.ofNat j)), (.int (Int32.ofNat i))]))
      have hc134 : ¬ ((Int32.ofNat i) = (Int32.ofNat j)) := fun q => hij (own_ofNat_inj (by omega) (by omega) q)
      refine own_go (fun t_ k_ => XS.icmpNo X76.here hx rfl (hb hby at_134) rfl (feq hc134).1 k_) ?_
      show OwnFin p e below s _ _ _ (T76.setTop (mkF m 137 #[.val (.int pp), .val (.int pq), .val (.long qc1), .second, .val (.long qc2), .second, .val (.int ps1), .val (.int ps2), .val (.int (Int32.ofNat n)), .val (.int kd1), .val (.int kd2), .val (.int (Int32.ofNat i)), .val (.int (Int32.ofNat j)), .val (.int (Int32.ofNat k)), .val (.ref r69), .val .null, .val (.ref b71), .val (.int (1 : Int32))] []))
      refine own_go (fun t_ k_ => XS.iload X76.here hx rfl (hb hby at_137) rfl k_) ?_
      show OwnFin p e below s _ _ _ (T76.setTop (mkF m 139 #[.val (.int pp), .val (.int pq), .val (.long qc1), .second, .val (.long qc2), .second, .val (.int ps1), .val (.int ps2), .val (.int (Int32.ofNat n)), .val (.int kd1), .val (.int kd2), .val (.int (Int32.ofNat i)), .val (.int (Int32.ofNat j)), .val (.int (Int32.ofNat k)), .val (.ref r69), .val .null, .val (.ref b71), .val (.int (1 : Int32))] [(.int (1 : Int32))]))
      refine own_go (fun t_ k_ => XS.ifNo X76.here hx rfl (hb hby at_139) rfl ((if0 _ _).trans (feq (by decide)).1) k_) ?_
      show OwnFin p e below s _ _ _ (T76.setTop (mkF m 142 #[.val (.int pp), .val (.int pq), .val (.long qc1), .second, .val (.long qc2), .second, .val (.int ps1), .val (.int ps2), .val (.int (Int32.ofNat n)), .val (.int kd1), .val (.int kd2), .val (.int (Int32.ofNat i)), .val (.int (Int32.ofNat j)), .val (.int (Int32.ofNat k)), .val (.ref r69), .val .null, .val (.ref b71), .val (.int (1 : Int32))] []))
      refine own_go (fun t_ k_ => XS.aload X76.here hx rfl (hb hby at_142) rfl rfl k_) ?_
      show OwnFin p e below s _ _ _ (T76.setTop (mkF m 144 #[.val (.int pp), .val (.int pq), .val (.long qc1), .second, .val (.long qc2), .second, .val (.int ps1), .val (.int ps2), .val (.int (Int32.ofNat n)), .val (.int kd1), .val (.int kd2), .val (.int (Int32.ofNat i)), .val (.int (Int32.ofNat j)), .val (.int (Int32.ofNat k)), .val (.ref r69), .val .null, .val (.ref b71), .val (.int (1 : Int32))] [(.ref b71)]))
      refine own_go (fun t_ k_ => XS.iload X76.here hx rfl (hb hby at_144) rfl k_) ?_
      show OwnFin p e below s _ _ _ (T76.setTop (mkF m 146 #[.val (.int pp), .val (.int pq), .val (.long qc1), .second, .val (.long qc2), .second, .val (.int ps1), .val (.int ps2), .val (.int (Int32.ofNat n)), .val (.int kd1), .val (.int kd2), .val (.int (Int32.ofNat i)), .val (.int (Int32.ofNat j)), .val (.int (Int32.ofNat k)), .val (.ref r69), .val .null, .val (.ref b71), .val (.int (1 : Int32))] [(.int (Int32.ofNat i)), (.ref b71)]))
      obtain ⟨v78, T78, L78, X78, hQ78, st78⟩ := own_callV X76 hx hZ (y := (⟨"com/example/nearside/nearside/support/SplitDecimalArray", "get", "(I)Lcom/example/nearside/nearside/support/SplitDecimal;"⟩ : MethodName)) (z := (⟨"com/example/nearside/nearside/support/SplitDecimalArray", "get", "(I)Lcom/example/nearside/nearside/support/SplitDecimal;"⟩ : MethodName)) hown (hw _ (List.mem_of_getElem? (i := 31) rfl)) (hw _ (List.mem_of_getElem? (i := 32) rfl)) (notFace_of_selects (args := #[]) (mvT hZ (hw _ (List.mem_of_getElem? (i := 34) rfl)))) (hw _ (List.mem_of_getElem? (i := 34) rfl)) (hw _ (List.mem_of_getElem? (i := 33) rfl)) (hw _ (List.mem_of_getElem? (i := 6) rfl)) (hw _ (List.mem_of_getElem? (i := 35) rfl)) (by decide) (W := 0) (rm6_W l Z a0 hw [] b71 (Int32.ofNat i) ca wa n i (fun z => if z = j then (-9223372036854775808 : Int64) else (fun z => if z = i then (-9223372036854775808 : Int64) else (fun _ => (-9223372036854775808 : Int64)) z) z) (fun z => if z = j then Value.null else (fun z => if z = i then Value.ref r69 else Value.null) z) r69 T74.heap n0 Z74 rfl hin Fc73_74 Fw73_74 Vc74 (by (try dsimp only); rw [if_neg hij, if_pos rfl]) Vw74 (by (try dsimp only); rw [if_neg hij, if_pos rfl])) (by decide) (by decide) E_ao_74 (g := (mkF m 146 #[.val (.int pp), .val (.int pq), .val (.long qc1), .second, .val (.long qc2), .second, .val (.int ps1), .val (.int ps2), .val (.int (Int32.ofNat n)), .val (.int kd1), .val (.int kd2), .val (.int (Int32.ofNat i)), .val (.int (Int32.ofNat j)), .val (.int (Int32.ofNat k)), .val (.ref r69), .val .null, .val (.ref b71), .val (.int (1 : Int32))] [(.int (Int32.ofNat i)), (.ref b71)])) rfl (by rw [hml]; rfl) (argsL := [(.int (Int32.ofNat i))]) (rest := []) (lenOf pd_0_5 rfl) rfl (by show 2 * 0 + _ ≤ _; exact Nat.le_of_eq rfl) (hb hby at_146) e76 rfl (by decide) (by decide)
      obtain ⟨rfl, Nq78, e78⟩ := hQ78
      have N78 := Fr.app N76 Nq78
      refine own_go st78 ?_
      show OwnFin p e below s _ _ _ (T78.setTop (mkF m 149 #[.val (.int pp), .val (.int pq), .val (.long qc1), .second, .val (.long qc2), .second, .val (.int ps1), .val (.int ps2), .val (.int (Int32.ofNat n)), .val (.int kd1), .val (.int kd2), .val (.int (Int32.ofNat i)), .val (.int (Int32.ofNat j)), .val (.int (Int32.ofNat k)), .val (.ref r69), .val .null, .val (.ref b71), .val (.int (1 : Int32))] [(.ref r69)]))
      refine own_go (fun t_ k_ => XS.aload X78.here hx rfl (hb hby at_149) rfl rfl k_) ?_
      show OwnFin p e below s _ _ _ (T78.setTop (mkF m 151 #[.val (.int pp), .val (.int pq), .val (.long qc1), .second, .val (.long qc2), .second, .val (.int ps1), .val (.int ps2), .val (.int (Int32.ofNat n)), .val (.int kd1), .val (.int kd2), .val (.int (Int32.ofNat i)), .val (.int (Int32.ofNat j)), .val (.int (Int32.ofNat k)), .val (.ref r69), .val .null, .val (.ref b71), .val (.int (1 : Int32))] [(.ref r69), (.ref r69)]))
      obtain ⟨v79, T79, L79, X79, hQ79, st79⟩ := own_callS X78 hx hZ (y := (⟨"com/example/nearside/nearside/support/SplitDecimalArraySetPinLaw", "holds", "(Lcom/example/nearside/nearside/support/SplitDecimal;Lcom/example/nearside/nearside/support/SplitDecimal;)Z"⟩ : MethodName)) hown (hw _ (List.mem_of_getElem? (i := 36) rfl)) (hw _ (List.mem_of_getElem? (i := 37) rfl)) (hw _ (List.mem_of_getElem? (i := 2) rfl)) (hw _ (List.mem_of_getElem? (i := 38) rfl)) (by decide) (W := 0) (rm7_W l Z a0 hw [] r69 T74.heap n0 Z74 F_compact_r69_74) (by decide) (by decide) (g := (mkF m 151 #[.val (.int pp), .val (.int pq), .val (.long qc1), .second, .val (.long qc2), .second, .val (.int ps1), .val (.int ps2), .val (.int (Int32.ofNat n)), .val (.int kd1), .val (.int kd2), .val (.int (Int32.ofNat i)), .val (.int (Int32.ofNat j)), .val (.int (Int32.ofNat k)), .val (.ref r69), .val .null, .val (.ref b71), .val (.int (1 : Int32))] [(.ref r69), (.ref r69)])) rfl (by rw [hml]; rfl) (argsL := [(.ref r69), (.ref r69)]) (rest := []) (lenOf pd_0_6 rfl) rfl (by show 2 * 0 + _ ≤ _; exact Nat.le_of_eq rfl) (hb hby at_151) e78 rfl (by decide) (by decide)
      obtain ⟨rfl, Nq79, e79⟩ := hQ79
      have N79 := Fr.app N78 Nq79
      refine own_go st79 ?_
      show OwnFin p e below s _ _ _ (T79.setTop (mkF m 154 #[.val (.int pp), .val (.int pq), .val (.long qc1), .second, .val (.long qc2), .second, .val (.int ps1), .val (.int ps2), .val (.int (Int32.ofNat n)), .val (.int kd1), .val (.int kd2), .val (.int (Int32.ofNat i)), .val (.int (Int32.ofNat j)), .val (.int (Int32.ofNat k)), .val (.ref r69), .val .null, .val (.ref b71), .val (.int (1 : Int32))] [(.int (1 : Int32))]))
      refine own_go (fun t_ k_ => XS.ifNo X79.here hx rfl (hb hby at_154) rfl ((if0 _ _).trans (feq (by decide)).1) k_) ?_
      show OwnFin p e below s _ _ _ (T79.setTop (mkF m 157 #[.val (.int pp), .val (.int pq), .val (.long qc1), .second, .val (.long qc2), .second, .val (.int ps1), .val (.int ps2), .val (.int (Int32.ofNat n)), .val (.int kd1), .val (.int kd2), .val (.int (Int32.ofNat i)), .val (.int (Int32.ofNat j)), .val (.int (Int32.ofNat k)), .val (.ref r69), .val .null, .val (.ref b71), .val (.int (1 : Int32))] []))
      refine own_go (fun t_ k_ => XS.iconst X79.here hx rfl (hb hby at_157) k_) ?_
      show OwnFin p e below s _ _ _ (T79.setTop (mkF m 158 #[.val (.int pp), .val (.int pq), .val (.long qc1), .second, .val (.long qc2), .second, .val (.int ps1), .val (.int ps2), .val (.int (Int32.ofNat n)), .val (.int kd1), .val (.int kd2), .val (.int (Int32.ofNat i)), .val (.int (Int32.ofNat j)), .val (.int (Int32.ofNat k)), .val (.ref r69), .val .null, .val (.ref b71), .val (.int (1 : Int32))] [(.int (1 : Int32))]))
      refine own_go (fun t_ k_ => XS.goto X79.here hx rfl (pc0 := 158) (pc' := 162) rfl (hb hby at_158) (by decide) (by decide) k_) ?_
      show OwnFin p e below s _ _ _ (T79.setTop (mkF m 162 #[.val (.int pp), .val (.int pq), .val (.long qc1), .second, .val (.long qc2), .second, .val (.int ps1), .val (.int ps2), .val (.int (Int32.ofNat n)), .val (.int kd1), .val (.int kd2), .val (.int (Int32.ofNat i)), .val (.int (Int32.ofNat j)), .val (.int (Int32.ofNat k)), .val (.ref r69), .val .null, .val (.ref b71), .val (.int (1 : Int32))] [(.int (1 : Int32))]))
      refine own_go (fun t_ k_ => XS.istore X79.here hx rfl (hb hby at_162) rfl (l' := #[.val (.int pp), .val (.int pq), .val (.long qc1), .second, .val (.long qc2), .second, .val (.int ps1), .val (.int ps2), .val (.int (Int32.ofNat n)), .val (.int kd1), .val (.int kd2), .val (.int (Int32.ofNat i)), .val (.int (Int32.ofNat j)), .val (.int (Int32.ofNat k)), .val (.ref r69), .val .null, .val (.ref b71), .val (.int (1 : Int32))]) rfl k_) ?_
      show OwnFin p e below s _ _ _ (T79.setTop (mkF m 164 #[.val (.int pp), .val (.int pq), .val (.long qc1), .second, .val (.long qc2), .second, .val (.int ps1), .val (.int ps2), .val (.int (Int32.ofNat n)), .val (.int kd1), .val (.int kd2), .val (.int (Int32.ofNat i)), .val (.int (Int32.ofNat j)), .val (.int (Int32.ofNat k)), .val (.ref r69), .val .null, .val (.ref b71), .val (.int (1 : Int32))] []))
      by_cases hki : k = i
      · refine own_go (fun t_ k_ => XS.iload X79.here hx rfl (hb hby at_164) rfl k_) ?_
        show OwnFin p e below s _ _ _ (T79.setTop (mkF m 166 #[.val (.int pp), .val (.int pq), .val (.long qc1), .second, .val (.long qc2), .second, .val (.int ps1), .val (.int ps2), .val (.int (Int32.ofNat n)), .val (.int kd1), .val (.int kd2), .val (.int (Int32.ofNat i)), .val (.int (Int32.ofNat j)), .val (.int (Int32.ofNat k)), .val (.ref r69), .val .null, .val (.ref b71), .val (.int (1 : Int32))] [(.int (Int32.ofNat k))]))
        refine own_go (fun t_ k_ => XS.iload X79.here hx rfl (hb hby at_166) rfl k_) ?_
        show OwnFin p e below s _ _ _ (T79.setTop (mkF m 168 #[.val (.int pp), .val (.int pq), .val (.long qc1), .second, .val (.long qc2), .second, .val (.int ps1), .val (.int ps2), .val (.int (Int32.ofNat n)), .val (.int kd1), .val (.int kd2), .val (.int (Int32.ofNat i)), .val (.int (Int32.ofNat j)), .val (.int (Int32.ofNat k)), .val (.ref r69), .val .null, .val (.ref b71), .val (.int (1 : Int32))] [(.int (Int32.ofNat i)), (.int (Int32.ofNat k))]))
        have hc168 : (Int32.ofNat k) = (Int32.ofNat i) := by rw [hki]
        refine own_go (fun t_ k_ => XS.icmpYes X79.here hx rfl (pc0 := 168) (pc' := 200) rfl (hb hby at_168) rfl (teq hc168).1 (by decide) (by decide) k_) ?_
        show OwnFin p e below s _ _ _ (T79.setTop (mkF m 200 #[.val (.int pp), .val (.int pq), .val (.long qc1), .second, .val (.long qc2), .second, .val (.int ps1), .val (.int ps2), .val (.int (Int32.ofNat n)), .val (.int kd1), .val (.int kd2), .val (.int (Int32.ofNat i)), .val (.int (Int32.ofNat j)), .val (.int (Int32.ofNat k)), .val (.ref r69), .val .null, .val (.ref b71), .val (.int (1 : Int32))] []))
        refine own_go (fun t_ k_ => XS.iload X79.here hx rfl (hb hby at_200) rfl k_) ?_
        show OwnFin p e below s _ _ _ (T79.setTop (mkF m 202 #[.val (.int pp), .val (.int pq), .val (.long qc1), .second, .val (.long qc2), .second, .val (.int ps1), .val (.int ps2), .val (.int (Int32.ofNat n)), .val (.int kd1), .val (.int kd2), .val (.int (Int32.ofNat i)), .val (.int (Int32.ofNat j)), .val (.int (Int32.ofNat k)), .val (.ref r69), .val .null, .val (.ref b71), .val (.int (1 : Int32))] [(.int (1 : Int32))]))
        refine own_ret X79 (v := some (.int (1 : Int32))) hlk (fun hh => by rw [hret] at hh; cases hh) (fun fs hr => retN X79 hx (t := .boolean) hret (by simp) (hb hby at_202) hr) (by decide) (by decide) ?_
        exact ⟨rfl, N79⟩
      · refine own_go (fun t_ k_ => XS.iload X79.here hx rfl (hb hby at_164) rfl k_) ?_
        show OwnFin p e below s _ _ _ (T79.setTop (mkF m 166 #[.val (.int pp), .val (.int pq), .val (.long qc1), .second, .val (.long qc2), .second, .val (.int ps1), .val (.int ps2), .val (.int (Int32.ofNat n)), .val (.int kd1), .val (.int kd2), .val (.int (Int32.ofNat i)), .val (.int (Int32.ofNat j)), .val (.int (Int32.ofNat k)), .val (.ref r69), .val .null, .val (.ref b71), .val (.int (1 : Int32))] [(.int (Int32.ofNat k))]))
        refine own_go (fun t_ k_ => XS.iload X79.here hx rfl (hb hby at_166) rfl k_) ?_
        show OwnFin p e below s _ _ _ (T79.setTop (mkF m 168 #[.val (.int pp), .val (.int pq), .val (.long qc1), .second, .val (.long qc2), .second, .val (.int ps1), .val (.int ps2), .val (.int (Int32.ofNat n)), .val (.int kd1), .val (.int kd2), .val (.int (Int32.ofNat i)), .val (.int (Int32.ofNat j)), .val (.int (Int32.ofNat k)), .val (.ref r69), .val .null, .val (.ref b71), .val (.int (1 : Int32))] [(.int (Int32.ofNat i)), (.int (Int32.ofNat k))]))
        have hc168 : ¬ ((Int32.ofNat k) = (Int32.ofNat i)) := fun q => hki (own_ofNat_inj (by omega) (by omega) q)
        refine own_go (fun t_ k_ => XS.icmpNo X79.here hx rfl (hb hby at_168) rfl (feq hc168).1 k_) ?_
        show OwnFin p e below s _ _ _ (T79.setTop (mkF m 171 #[.val (.int pp), .val (.int pq), .val (.long qc1), .second, .val (.long qc2), .second, .val (.int ps1), .val (.int ps2), .val (.int (Int32.ofNat n)), .val (.int kd1), .val (.int kd2), .val (.int (Int32.ofNat i)), .val (.int (Int32.ofNat j)), .val (.int (Int32.ofNat k)), .val (.ref r69), .val .null, .val (.ref b71), .val (.int (1 : Int32))] []))
        by_cases hkj : k = j
        · refine own_go (fun t_ k_ => XS.iload X79.here hx rfl (hb hby at_171) rfl k_) ?_
          show OwnFin p e below s _ _ _ (T79.setTop (mkF m 173 #[.val (.int pp), .val (.int pq), .val (.long qc1), .second, .val (.long qc2), .second, .val (.int ps1), .val (.int ps2), .val (.int (Int32.ofNat n)), .val (.int kd1), .val (.int kd2), .val (.int (Int32.ofNat i)), .val (.int (Int32.ofNat j)), .val (.int (Int32.ofNat k)), .val (.ref r69), .val .null, .val (.ref b71), .val (.int (1 : Int32))] [(.int (Int32.ofNat k))]))
          refine own_go (fun t_ k_ => XS.iload X79.here hx rfl (hb hby at_173) rfl k_) ?_
          show OwnFin p e below s _ _ _ (T79.setTop (mkF m 175 #[.val (.int pp), .val (.int pq), .val (.long qc1), .second, .val (.long qc2), .second, .val (.int ps1), .val (.int ps2), .val (.int (Int32.ofNat n)), .val (.int kd1), .val (.int kd2), .val (.int (Int32.ofNat i)), .val (.int (Int32.ofNat j)), .val (.int (Int32.ofNat k)), .val (.ref r69), .val .null, .val (.ref b71), .val (.int (1 : Int32))] [(.int (Int32.ofNat j)), (.int (Int32.ofNat k))]))
          have hc175 : (Int32.ofNat k) = (Int32.ofNat j) := by rw [hkj]
          refine own_go (fun t_ k_ => XS.icmpYes X79.here hx rfl (pc0 := 175) (pc' := 200) rfl (hb hby at_175) rfl (teq hc175).1 (by decide) (by decide) k_) ?_
          show OwnFin p e below s _ _ _ (T79.setTop (mkF m 200 #[.val (.int pp), .val (.int pq), .val (.long qc1), .second, .val (.long qc2), .second, .val (.int ps1), .val (.int ps2), .val (.int (Int32.ofNat n)), .val (.int kd1), .val (.int kd2), .val (.int (Int32.ofNat i)), .val (.int (Int32.ofNat j)), .val (.int (Int32.ofNat k)), .val (.ref r69), .val .null, .val (.ref b71), .val (.int (1 : Int32))] []))
          refine own_go (fun t_ k_ => XS.iload X79.here hx rfl (hb hby at_200) rfl k_) ?_
          show OwnFin p e below s _ _ _ (T79.setTop (mkF m 202 #[.val (.int pp), .val (.int pq), .val (.long qc1), .second, .val (.long qc2), .second, .val (.int ps1), .val (.int ps2), .val (.int (Int32.ofNat n)), .val (.int kd1), .val (.int kd2), .val (.int (Int32.ofNat i)), .val (.int (Int32.ofNat j)), .val (.int (Int32.ofNat k)), .val (.ref r69), .val .null, .val (.ref b71), .val (.int (1 : Int32))] [(.int (1 : Int32))]))
          refine own_ret X79 (v := some (.int (1 : Int32))) hlk (fun hh => by rw [hret] at hh; cases hh) (fun fs hr => retN X79 hx (t := .boolean) hret (by simp) (hb hby at_202) hr) (by decide) (by decide) ?_
          exact ⟨rfl, N79⟩
        · refine own_go (fun t_ k_ => XS.iload X79.here hx rfl (hb hby at_171) rfl k_) ?_
          show OwnFin p e below s _ _ _ (T79.setTop (mkF m 173 #[.val (.int pp), .val (.int pq), .val (.long qc1), .second, .val (.long qc2), .second, .val (.int ps1), .val (.int ps2), .val (.int (Int32.ofNat n)), .val (.int kd1), .val (.int kd2), .val (.int (Int32.ofNat i)), .val (.int (Int32.ofNat j)), .val (.int (Int32.ofNat k)), .val (.ref r69), .val .null, .val (.ref b71), .val (.int (1 : Int32))] [(.int (Int32.ofNat k))]))
          refine own_go (fun t_ k_ => XS.iload X79.here hx rfl (hb hby at_173) rfl k_) ?_
          show OwnFin p e below s _ _ _ (T79.setTop (mkF m 175 #[.val (.int pp), .val (.int pq), .val (.long qc1), .second, .val (.long qc2), .second, .val (.int ps1), .val (.int ps2), .val (.int (Int32.ofNat n)), .val (.int kd1), .val (.int kd2), .val (.int (Int32.ofNat i)), .val (.int (Int32.ofNat j)), .val (.int (Int32.ofNat k)), .val (.ref r69), .val .null, .val (.ref b71), .val (.int (1 : Int32))] [(.int (Int32.ofNat j)), (.int (Int32.ofNat k))]))
          have hc175 : ¬ ((Int32.ofNat k) = (Int32.ofNat j)) := fun q => hkj (own_ofNat_inj (by omega) (by omega) q)
          refine own_go (fun t_ k_ => XS.icmpNo X79.here hx rfl (hb hby at_175) rfl (feq hc175).1 k_) ?_
          show OwnFin p e below s _ _ _ (T79.setTop (mkF m 178 #[.val (.int pp), .val (.int pq), .val (.long qc1), .second, .val (.long qc2), .second, .val (.int ps1), .val (.int ps2), .val (.int (Int32.ofNat n)), .val (.int kd1), .val (.int kd2), .val (.int (Int32.ofNat i)), .val (.int (Int32.ofNat j)), .val (.int (Int32.ofNat k)), .val (.ref r69), .val .null, .val (.ref b71), .val (.int (1 : Int32))] []))
          refine own_go (fun t_ k_ => XS.iload X79.here hx rfl (hb hby at_178) rfl k_) ?_
          show OwnFin p e below s _ _ _ (T79.setTop (mkF m 180 #[.val (.int pp), .val (.int pq), .val (.long qc1), .second, .val (.long qc2), .second, .val (.int ps1), .val (.int ps2), .val (.int (Int32.ofNat n)), .val (.int kd1), .val (.int kd2), .val (.int (Int32.ofNat i)), .val (.int (Int32.ofNat j)), .val (.int (Int32.ofNat k)), .val (.ref r69), .val .null, .val (.ref b71), .val (.int (1 : Int32))] [(.int (1 : Int32))]))
          refine own_go (fun t_ k_ => XS.ifNo X79.here hx rfl (hb hby at_180) rfl ((if0 _ _).trans (feq (by decide)).1) k_) ?_
          show OwnFin p e below s _ _ _ (T79.setTop (mkF m 183 #[.val (.int pp), .val (.int pq), .val (.long qc1), .second, .val (.long qc2), .second, .val (.int ps1), .val (.int ps2), .val (.int (Int32.ofNat n)), .val (.int kd1), .val (.int kd2), .val (.int (Int32.ofNat i)), .val (.int (Int32.ofNat j)), .val (.int (Int32.ofNat k)), .val (.ref r69), .val .null, .val (.ref b71), .val (.int (1 : Int32))] []))
          refine own_go (fun t_ k_ => XS.aload X79.here hx rfl (hb hby at_183) rfl rfl k_) ?_
          show OwnFin p e below s _ _ _ (T79.setTop (mkF m 185 #[.val (.int pp), .val (.int pq), .val (.long qc1), .second, .val (.long qc2), .second, .val (.int ps1), .val (.int ps2), .val (.int (Int32.ofNat n)), .val (.int kd1), .val (.int kd2), .val (.int (Int32.ofNat i)), .val (.int (Int32.ofNat j)), .val (.int (Int32.ofNat k)), .val (.ref r69), .val .null, .val (.ref b71), .val (.int (1 : Int32))] [(.ref b71)]))
          refine own_go (fun t_ k_ => XS.iload X79.here hx rfl (hb hby at_185) rfl k_) ?_
          show OwnFin p e below s _ _ _ (T79.setTop (mkF m 187 #[.val (.int pp), .val (.int pq), .val (.long qc1), .second, .val (.long qc2), .second, .val (.int ps1), .val (.int ps2), .val (.int (Int32.ofNat n)), .val (.int kd1), .val (.int kd2), .val (.int (Int32.ofNat i)), .val (.int (Int32.ofNat j)), .val (.int (Int32.ofNat k)), .val (.ref r69), .val .null, .val (.ref b71), .val (.int (1 : Int32))] [(.int (Int32.ofNat k)), (.ref b71)]))
          obtain ⟨v80, T80, L80, X80, hQ80, st80⟩ := own_callV X79 hx hZ (y := (⟨"com/example/nearside/nearside/support/SplitDecimalArray", "get", "(I)Lcom/example/nearside/nearside/support/SplitDecimal;"⟩ : MethodName)) (z := (⟨"com/example/nearside/nearside/support/SplitDecimalArray", "get", "(I)Lcom/example/nearside/nearside/support/SplitDecimal;"⟩ : MethodName)) hown (hw _ (List.mem_of_getElem? (i := 31) rfl)) (hw _ (List.mem_of_getElem? (i := 32) rfl)) (notFace_of_selects (args := #[]) (mvT hZ (hw _ (List.mem_of_getElem? (i := 34) rfl)))) (hw _ (List.mem_of_getElem? (i := 34) rfl)) (hw _ (List.mem_of_getElem? (i := 33) rfl)) (hw _ (List.mem_of_getElem? (i := 6) rfl)) (hw _ (List.mem_of_getElem? (i := 35) rfl)) (by decide) (W := 0) (rm6_V l Z a0 hw [] b71 (Int32.ofNat k) ca wa n k (fun z => if z = j then (-9223372036854775808 : Int64) else (fun z => if z = i then (-9223372036854775808 : Int64) else (fun _ => (-9223372036854775808 : Int64)) z) z) (fun z => if z = j then Value.null else (fun z => if z = i then Value.ref r69 else Value.null) z) T74.heap n0 Z74 rfl hkn Fc73_74 Fw73_74 Vc74 (by (try dsimp only); rw [if_neg hkj, if_neg hki]) Vw74 (by (try dsimp only); rw [if_neg hkj, if_neg hki])) (by decide) (by decide) E_ao_74 (g := (mkF m 187 #[.val (.int pp), .val (.int pq), .val (.long qc1), .second, .val (.long qc2), .second, .val (.int ps1), .val (.int ps2), .val (.int (Int32.ofNat n)), .val (.int kd1), .val (.int kd2), .val (.int (Int32.ofNat i)), .val (.int (Int32.ofNat j)), .val (.int (Int32.ofNat k)), .val (.ref r69), .val .null, .val (.ref b71), .val (.int (1 : Int32))] [(.int (Int32.ofNat k)), (.ref b71)])) rfl (by rw [hml]; rfl) (argsL := [(.int (Int32.ofNat k))]) (rest := []) (lenOf pd_0_5 rfl) rfl (by show 2 * 0 + _ ≤ _; exact Nat.le_of_eq rfl) (hb hby at_187) e79 rfl (by decide) (by decide)
          obtain ⟨rfl, Nq80, e80⟩ := hQ80
          have N80 := Fr.app N79 Nq80
          refine own_go st80 ?_
          show OwnFin p e below s _ _ _ (T80.setTop (mkF m 190 #[.val (.int pp), .val (.int pq), .val (.long qc1), .second, .val (.long qc2), .second, .val (.int ps1), .val (.int ps2), .val (.int (Int32.ofNat n)), .val (.int kd1), .val (.int kd2), .val (.int (Int32.ofNat i)), .val (.int (Int32.ofNat j)), .val (.int (Int32.ofNat k)), .val (.ref r69), .val .null, .val (.ref b71), .val (.int (1 : Int32))] [.null]))
          refine own_go (fun t_ k_ => XS.ifnonnullNo X80.here hx rfl (hb hby at_190) rfl k_) ?_
          show OwnFin p e below s _ _ _ (T80.setTop (mkF m 193 #[.val (.int pp), .val (.int pq), .val (.long qc1), .second, .val (.long qc2), .second, .val (.int ps1), .val (.int ps2), .val (.int (Int32.ofNat n)), .val (.int kd1), .val (.int kd2), .val (.int (Int32.ofNat i)), .val (.int (Int32.ofNat j)), .val (.int (Int32.ofNat k)), .val (.ref r69), .val .null, .val (.ref b71), .val (.int (1 : Int32))] []))
          refine own_go (fun t_ k_ => XS.iconst X80.here hx rfl (hb hby at_193) k_) ?_
          show OwnFin p e below s _ _ _ (T80.setTop (mkF m 194 #[.val (.int pp), .val (.int pq), .val (.long qc1), .second, .val (.long qc2), .second, .val (.int ps1), .val (.int ps2), .val (.int (Int32.ofNat n)), .val (.int kd1), .val (.int kd2), .val (.int (Int32.ofNat i)), .val (.int (Int32.ofNat j)), .val (.int (Int32.ofNat k)), .val (.ref r69), .val .null, .val (.ref b71), .val (.int (1 : Int32))] [(.int (1 : Int32))]))
          refine own_go (fun t_ k_ => XS.goto X80.here hx rfl (pc0 := 194) (pc' := 198) rfl (hb hby at_194) (by decide) (by decide) k_) ?_
          show OwnFin p e below s _ _ _ (T80.setTop (mkF m 198 #[.val (.int pp), .val (.int pq), .val (.long qc1), .second, .val (.long qc2), .second, .val (.int ps1), .val (.int ps2), .val (.int (Int32.ofNat n)), .val (.int kd1), .val (.int kd2), .val (.int (Int32.ofNat i)), .val (.int (Int32.ofNat j)), .val (.int (Int32.ofNat k)), .val (.ref r69), .val .null, .val (.ref b71), .val (.int (1 : Int32))] [(.int (1 : Int32))]))
          refine own_go (fun t_ k_ => XS.istore X80.here hx rfl (hb hby at_198) rfl (l' := #[.val (.int pp), .val (.int pq), .val (.long qc1), .second, .val (.long qc2), .second, .val (.int ps1), .val (.int ps2), .val (.int (Int32.ofNat n)), .val (.int kd1), .val (.int kd2), .val (.int (Int32.ofNat i)), .val (.int (Int32.ofNat j)), .val (.int (Int32.ofNat k)), .val (.ref r69), .val .null, .val (.ref b71), .val (.int (1 : Int32))]) rfl k_) ?_
          show OwnFin p e below s _ _ _ (T80.setTop (mkF m 200 #[.val (.int pp), .val (.int pq), .val (.long qc1), .second, .val (.long qc2), .second, .val (.int ps1), .val (.int ps2), .val (.int (Int32.ofNat n)), .val (.int kd1), .val (.int kd2), .val (.int (Int32.ofNat i)), .val (.int (Int32.ofNat j)), .val (.int (Int32.ofNat k)), .val (.ref r69), .val .null, .val (.ref b71), .val (.int (1 : Int32))] []))
          refine own_go (fun t_ k_ => XS.iload X80.here hx rfl (hb hby at_200) rfl k_) ?_
          show OwnFin p e below s _ _ _ (T80.setTop (mkF m 202 #[.val (.int pp), .val (.int pq), .val (.long qc1), .second, .val (.long qc2), .second, .val (.int ps1), .val (.int ps2), .val (.int (Int32.ofNat n)), .val (.int kd1), .val (.int kd2), .val (.int (Int32.ofNat i)), .val (.int (Int32.ofNat j)), .val (.int (Int32.ofNat k)), .val (.ref r69), .val .null, .val (.ref b71), .val (.int (1 : Int32))] [(.int (1 : Int32))]))
          refine own_ret X80 (v := some (.int (1 : Int32))) hlk (fun hh => by rw [hret] at hh; cases hh) (fun fs hr => retN X80 hx (t := .boolean) hret (by simp) (hb hby at_202) hr) (by decide) (by decide) ?_
          exact ⟨rfl, N80⟩
  by_cases ho2 : kd2 = (1 : Int32)
  · refine own_go (fun t_ k_ => XS.iload X69.here hx rfl (hb hby at_76) rfl k_) ?_
    show OwnFin p e below s _ _ _ (T69.setTop (mkF m 78 #[.val (.int pp), .val (.int pq), .val (.long qc1), .second, .val (.long qc2), .second, .val (.int ps1), .val (.int ps2), .val (.int (Int32.ofNat n)), .val (.int kd1), .val (.int kd2), .val (.int (Int32.ofNat i)), .val (.int (Int32.ofNat j)), .val (.int (Int32.ofNat k)), .val (.ref r69), .unset, .unset, .unset] [(.int kd2)]))
    refine own_go (fun t_ k_ => XS.lload X69.here hx rfl (hb hby at_78) rfl k_) ?_
    show OwnFin p e below s _ _ _ (T69.setTop (mkF m 80 #[.val (.int pp), .val (.int pq), .val (.long qc1), .second, .val (.long qc2), .second, .val (.int ps1), .val (.int ps2), .val (.int (Int32.ofNat n)), .val (.int kd1), .val (.int kd2), .val (.int (Int32.ofNat i)), .val (.int (Int32.ofNat j)), .val (.int (Int32.ofNat k)), .val (.ref r69), .unset, .unset, .unset] [(.long qc2), (.int kd2)]))
    refine own_go (fun t_ k_ => XS.iload X69.here hx rfl (hb hby at_80) rfl k_) ?_
    show OwnFin p e below s _ _ _ (T69.setTop (mkF m 82 #[.val (.int pp), .val (.int pq), .val (.long qc1), .second, .val (.long qc2), .second, .val (.int ps1), .val (.int ps2), .val (.int (Int32.ofNat n)), .val (.int kd1), .val (.int kd2), .val (.int (Int32.ofNat i)), .val (.int (Int32.ofNat j)), .val (.int (Int32.ofNat k)), .val (.ref r69), .unset, .unset, .unset] [(.int ps2), (.long qc2), (.int kd2)]))
    obtain ⟨v81, T81, L81, X81, hQ81, st81⟩ := own_callS X69 hx hZ (y := (⟨"com/example/nearside/nearside/support/SplitDecimalArraySetPinLaw", "make", "(IJI)Lcom/example/nearside/nearside/support/SplitDecimal;"⟩ : MethodName)) hown (hw _ (List.mem_of_getElem? (i := 0) rfl)) (hw _ (List.mem_of_getElem? (i := 1) rfl)) (hw _ (List.mem_of_getElem? (i := 2) rfl)) (hw _ (List.mem_of_getElem? (i := 3) rfl)) (by decide) (W := 0) (rm1_1 l Z a0 hw [] kd2 qc2 ps2 T69.heap n0 Z69 ho2) (by decide) (by decide) (g := (mkF m 82 #[.val (.int pp), .val (.int pq), .val (.long qc1), .second, .val (.long qc2), .second, .val (.int ps1), .val (.int ps2), .val (.int (Int32.ofNat n)), .val (.int kd1), .val (.int kd2), .val (.int (Int32.ofNat i)), .val (.int (Int32.ofNat j)), .val (.int (Int32.ofNat k)), .val (.ref r69), .unset, .unset, .unset] [(.int ps2), (.long qc2), (.int kd2)])) rfl (by rw [hml]; rfl) (argsL := [(.int kd2), (.long qc2), (.int ps2)]) (rest := []) (lenOf pd_0_0 rfl) rfl (by show 2 * 0 + _ ≤ _; exact Nat.le_of_eq rfl) (hb hby at_82) rfl rfl (by decide) (by decide)
    obtain ⟨r81, rfl, Nq81, Kq81, sq81, Eq81, Fq81_0, Fq81_1⟩ := hQ81
    have N81 := Fr.app N69 Nq81
    have g_r81 : n0 ≤ r81 := Nat.le_trans Z69 sq81
    have ne_r69_r81 : r69 ≠ r81 := Nat.ne_of_lt (Nat.lt_of_lt_of_le Eq69.lt sq81)
    have E_r69_81 := Eq69.keep Kq81
    have F_compact_r69_81 := Fq69_0.keep Kq81 nin0
    have F_scale_r69_81 := Fq69_1.keep Kq81 nin0
    have Z81 : n0 ≤ T81.heap.size := Nat.le_trans Z69 Kq81.1
    refine own_go st81 ?_
    show OwnFin p e below s _ _ _ (T81.setTop (mkF m 85 #[.val (.int pp), .val (.int pq), .val (.long qc1), .second, .val (.long qc2), .second, .val (.int ps1), .val (.int ps2), .val (.int (Int32.ofNat n)), .val (.int kd1), .val (.int kd2), .val (.int (Int32.ofNat i)), .val (.int (Int32.ofNat j)), .val (.int (Int32.ofNat k)), .val (.ref r69), .unset, .unset, .unset] [(.ref r81)]))
    refine own_go (fun t_ k_ => XS.astore X81.here hx rfl (hb hby at_85) rfl rfl (l' := #[.val (.int pp), .val (.int pq), .val (.long qc1), .second, .val (.long qc2), .second, .val (.int ps1), .val (.int ps2), .val (.int (Int32.ofNat n)), .val (.int kd1), .val (.int kd2), .val (.int (Int32.ofNat i)), .val (.int (Int32.ofNat j)), .val (.int (Int32.ofNat k)), .val (.ref r69), .val (.ref r81), .unset, .unset]) rfl k_) ?_
    show OwnFin p e below s _ _ _ (T81.setTop (mkF m 87 #[.val (.int pp), .val (.int pq), .val (.long qc1), .second, .val (.long qc2), .second, .val (.int ps1), .val (.int ps2), .val (.int (Int32.ofNat n)), .val (.int kd1), .val (.int kd2), .val (.int (Int32.ofNat i)), .val (.int (Int32.ofNat j)), .val (.int (Int32.ofNat k)), .val (.ref r69), .val (.ref r81), .unset, .unset] []))
    obtain ⟨T82, h82, X82, e82, E82, A82, D82, -, st82⟩ := newO X81 hx hZ hown (hw _ (List.mem_of_getElem? (i := 4) rfl)) (hw _ (List.mem_of_getElem? (i := 5) rfl)) (hw _ (List.mem_of_getElem? (i := 6) rfl)) rfl (g := (mkF m 87 #[.val (.int pp), .val (.int pq), .val (.long qc1), .second, .val (.long qc2), .second, .val (.int ps1), .val (.int ps2), .val (.int (Int32.ofNat n)), .val (.int kd1), .val (.int kd2), .val (.int (Int32.ofNat i)), .val (.int (Int32.ofNat j)), .val (.int (Int32.ofNat k)), .val (.ref r69), .val (.ref r81), .unset, .unset] [])) rfl (hb hby at_87) (by decide) (by decide)
    obtain ⟨b82, g82⟩ : ∃ z, z = T81.heap.size := ⟨_, rfl⟩
    rw [← g82] at A82 D82 st82
    have g_b82 : n0 ≤ b82 := Nat.le_trans Z81 (Nat.le_of_eq g82.symm)
    have ne_r69_b82 : r69 ≠ b82 := Nat.ne_of_lt (Nat.lt_of_lt_of_le E_r69_81.lt (Nat.le_of_eq g82.symm))
    have ne_r81_b82 : r81 ≠ b82 := Nat.ne_of_lt (Nat.lt_of_lt_of_le Eq81.lt (Nat.le_of_eq g82.symm))
    have E_r69_82 := E_r69_81.ext E82
    have F_compact_r69_82 := F_compact_r69_81.ext E82
    have F_scale_r69_82 := F_scale_r69_81.ext E82
    have E_r81_82 := Eq81.ext E82
    have F_compact_r81_82 := Fq81_0.ext E82
    have F_scale_r81_82 := Fq81_1.ext E82
    have Z82 : n0 ≤ h82.size := Nat.le_trans Z81 E82.1
    have E_b82 := A82
    have F_compact_b82 : Fld Z h82 b82 "com/example/nearside/nearside/support/SplitDecimalArray" "compact" "[J" .null := D82 (Or.inr (hw _ (List.mem_of_getElem? (i := 15) rfl))) (ty := (.array .long)) (by decide)
    have F_scale_b82 : Fld Z h82 b82 "com/example/nearside/nearside/support/SplitDecimalArray" "scale" "[I" .null := D82 (Or.inr (hw _ (List.mem_of_getElem? (i := 18) rfl))) (ty := (.array .int)) (by decide)
    have F_whole_b82 : Fld Z h82 b82 "com/example/nearside/nearside/support/SplitDecimalArray" "whole" "[Lcom/example/nearside/nearside/support/SplitDecimal;" .null := D82 (Or.inl (hw _ (List.mem_of_getElem? (i := 30) rfl))) (ty := (.array (.object "com/example/nearside/nearside/support/SplitDecimal"))) (by decide)
    refine own_go st82 ?_
    show OwnFin p e below s _ _ _ (T82.setTop (mkF m 90 #[.val (.int pp), .val (.int pq), .val (.long qc1), .second, .val (.long qc2), .second, .val (.int ps1), .val (.int ps2), .val (.int (Int32.ofNat n)), .val (.int kd1), .val (.int kd2), .val (.int (Int32.ofNat i)), .val (.int (Int32.ofNat j)), .val (.int (Int32.ofNat k)), .val (.ref r69), .val (.ref r81), .unset, .unset] [(.ref b82)]))
    refine own_go (fun t_ k_ => XS.dup X82.here hx rfl (hb hby at_90) rfl rfl k_) ?_
    show OwnFin p e below s _ _ _ (T82.setTop (mkF m 91 #[.val (.int pp), .val (.int pq), .val (.long qc1), .second, .val (.long qc2), .second, .val (.int ps1), .val (.int ps2), .val (.int (Int32.ofNat n)), .val (.int kd1), .val (.int kd2), .val (.int (Int32.ofNat i)), .val (.int (Int32.ofNat j)), .val (.int (Int32.ofNat k)), .val (.ref r69), .val (.ref r81), .unset, .unset] [(.ref b82), (.ref b82)]))
    refine own_go (fun t_ k_ => XS.iload X82.here hx rfl (hb hby at_91) rfl k_) ?_
    show OwnFin p e below s _ _ _ (T82.setTop (mkF m 93 #[.val (.int pp), .val (.int pq), .val (.long qc1), .second, .val (.long qc2), .second, .val (.int ps1), .val (.int ps2), .val (.int (Int32.ofNat n)), .val (.int kd1), .val (.int kd2), .val (.int (Int32.ofNat i)), .val (.int (Int32.ofNat j)), .val (.int (Int32.ofNat k)), .val (.ref r69), .val (.ref r81), .unset, .unset] [(.int (Int32.ofNat n)), (.ref b82), (.ref b82)]))
    obtain ⟨v83, T83, L83, X83, hQ83, st83⟩ := own_callI X82 hx hZ (y := (⟨"com/example/nearside/nearside/support/SplitDecimalArray", "<init>", "(I)V"⟩ : MethodName)) rfl hown (hw _ (List.mem_of_getElem? (i := 7) rfl)) (hw _ (List.mem_of_getElem? (i := 8) rfl)) (hw _ (List.mem_of_getElem? (i := 6) rfl)) (hw _ (List.mem_of_getElem? (i := 9) rfl)) (by decide) (W := 1) (rm2 l Z a0 hw [] b82 (Int32.ofNat n) n h82 n0 Z82 rfl hn4 E_b82 g_b82 F_compact_b82 F_scale_b82 F_whole_b82) (by decide) (by decide) (g := (mkF m 93 #[.val (.int pp), .val (.int pq), .val (.long qc1), .second, .val (.long qc2), .second, .val (.int ps1), .val (.int ps2), .val (.int (Int32.ofNat n)), .val (.int kd1), .val (.int kd2), .val (.int (Int32.ofNat i)), .val (.int (Int32.ofNat j)), .val (.int (Int32.ofNat k)), .val (.ref r69), .val (.ref r81), .unset, .unset] [(.int (Int32.ofNat n)), (.ref b82), (.ref b82)])) rfl (by rw [hml]; rfl) (a := b82) (argsL := [(.int (Int32.ofNat n))]) (rest := [(.ref b82)]) (lenOf pd_0_1 rfl) rfl (by show 2 * 0 + _ ≤ _; exact Nat.le_of_eq rfl) (hb hby at_93) e82 rfl (by decide) (by decide)
    obtain ⟨rfl, Nq83, Kq83, E_ao, ca, sc, sz1, sz2, ne_ca_sc, F_compact, F_scale, F_whole, V_ca, V_sc⟩ := hQ83
    have N83 := Fr.app N81 Nq83
    have g_ca : n0 ≤ ca := Nat.le_trans Z82 sz1
    have g_sc : n0 ≤ sc := Nat.le_trans Z82 sz2
    have ne_r69_ca : r69 ≠ ca := Nat.ne_of_lt (Nat.lt_of_lt_of_le E_r69_82.lt sz1)
    have ne_r69_sc : r69 ≠ sc := Nat.ne_of_lt (Nat.lt_of_lt_of_le E_r69_82.lt sz2)
    have ne_r81_ca : r81 ≠ ca := Nat.ne_of_lt (Nat.lt_of_lt_of_le E_r81_82.lt sz1)
    have ne_r81_sc : r81 ≠ sc := Nat.ne_of_lt (Nat.lt_of_lt_of_le E_r81_82.lt sz2)
    have ne_b82_ca : b82 ≠ ca := Nat.ne_of_lt (Nat.lt_of_lt_of_le E_b82.lt sz1)
    have ne_b82_sc : b82 ≠ sc := Nat.ne_of_lt (Nat.lt_of_lt_of_le E_b82.lt sz2)
    have E_r69_83 := E_r69_82.keep Kq83
    have F_compact_r69_83 := F_compact_r69_82.keep Kq83 (ninS ne_r69_b82 nin0)
    have F_scale_r69_83 := F_scale_r69_82.keep Kq83 (ninS ne_r69_b82 nin0)
    have E_r81_83 := E_r81_82.keep Kq83
    have F_compact_r81_83 := F_compact_r81_82.keep Kq83 (ninS ne_r81_b82 nin0)
    have F_scale_r81_83 := F_scale_r81_82.keep Kq83 (ninS ne_r81_b82 nin0)
    have E_b82_83 := E_b82.keep Kq83
    have Z83 : n0 ≤ T83.heap.size := Nat.le_trans Z82 Kq83.1
    refine own_go st83 ?_
    show OwnFin p e below s _ _ _ (T83.setTop (mkF m 96 #[.val (.int pp), .val (.int pq), .val (.long qc1), .second, .val (.long qc2), .second, .val (.int ps1), .val (.int ps2), .val (.int (Int32.ofNat n)), .val (.int kd1), .val (.int kd2), .val (.int (Int32.ofNat i)), .val (.int (Int32.ofNat j)), .val (.int (Int32.ofNat k)), .val (.ref r69), .val (.ref r81), .unset, .unset] [(.ref b82)]))
    refine own_go (fun t_ k_ => XS.astore X83.here hx rfl (hb hby at_96) rfl rfl (l' := #[.val (.int pp), .val (.int pq), .val (.long qc1), .second, .val (.long qc2), .second, .val (.int ps1), .val (.int ps2), .val (.int (Int32.ofNat n)), .val (.int kd1), .val (.int kd2), .val (.int (Int32.ofNat i)), .val (.int (Int32.ofNat j)), .val (.int (Int32.ofNat k)), .val (.ref r69), .val (.ref r81), .val (.ref b82), .unset]) rfl k_) ?_
    show OwnFin p e below s _ _ _ (T83.setTop (mkF m 98 #[.val (.int pp), .val (.int pq), .val (.long qc1), .second, .val (.long qc2), .second, .val (.int ps1), .val (.int ps2), .val (.int (Int32.ofNat n)), .val (.int kd1), .val (.int kd2), .val (.int (Int32.ofNat i)), .val (.int (Int32.ofNat j)), .val (.int (Int32.ofNat k)), .val (.ref r69), .val (.ref r81), .val (.ref b82), .unset] []))
    refine own_go (fun t_ k_ => XS.aload X83.here hx rfl (hb hby at_98) rfl rfl k_) ?_
    show OwnFin p e below s _ _ _ (T83.setTop (mkF m 100 #[.val (.int pp), .val (.int pq), .val (.long qc1), .second, .val (.long qc2), .second, .val (.int ps1), .val (.int ps2), .val (.int (Int32.ofNat n)), .val (.int kd1), .val (.int kd2), .val (.int (Int32.ofNat i)), .val (.int (Int32.ofNat j)), .val (.int (Int32.ofNat k)), .val (.ref r69), .val (.ref r81), .val (.ref b82), .unset] [(.ref b82)]))
    refine own_go (fun t_ k_ => XS.iload X83.here hx rfl (hb hby at_100) rfl k_) ?_
    show OwnFin p e below s _ _ _ (T83.setTop (mkF m 102 #[.val (.int pp), .val (.int pq), .val (.long qc1), .second, .val (.long qc2), .second, .val (.int ps1), .val (.int ps2), .val (.int (Int32.ofNat n)), .val (.int kd1), .val (.int kd2), .val (.int (Int32.ofNat i)), .val (.int (Int32.ofNat j)), .val (.int (Int32.ofNat k)), .val (.ref r69), .val (.ref r81), .val (.ref b82), .unset] [(.int (Int32.ofNat i)), (.ref b82)]))
    refine own_go (fun t_ k_ => XS.aload X83.here hx rfl (hb hby at_102) rfl rfl k_) ?_
    show OwnFin p e below s _ _ _ (T83.setTop (mkF m 104 #[.val (.int pp), .val (.int pq), .val (.long qc1), .second, .val (.long qc2), .second, .val (.int ps1), .val (.int ps2), .val (.int (Int32.ofNat n)), .val (.int kd1), .val (.int kd2), .val (.int (Int32.ofNat i)), .val (.int (Int32.ofNat j)), .val (.int (Int32.ofNat k)), .val (.ref r69), .val (.ref r81), .val (.ref b82), .unset] [(.ref r69), (.int (Int32.ofNat i)), (.ref b82)]))
    obtain ⟨v84, T84, L84, X84, hQ84, st84⟩ := own_callV X83 hx hZ (y := (⟨"com/example/nearside/nearside/support/SplitDecimalArray", "set", "(ILcom/example/nearside/nearside/support/SplitDecimal;)V"⟩ : MethodName)) (z := (⟨"com/example/nearside/nearside/support/SplitDecimalArray", "set", "(ILcom/example/nearside/nearside/support/SplitDecimal;)V"⟩ : MethodName)) hown (hw _ (List.mem_of_getElem? (i := 24) rfl)) (hw _ (List.mem_of_getElem? (i := 25) rfl)) (notFace_of_selects (args := #[]) (mvT hZ (hw _ (List.mem_of_getElem? (i := 27) rfl)))) (hw _ (List.mem_of_getElem? (i := 27) rfl)) (hw _ (List.mem_of_getElem? (i := 26) rfl)) (hw _ (List.mem_of_getElem? (i := 6) rfl)) (hw _ (List.mem_of_getElem? (i := 28) rfl)) (by decide) (W := 0) (rm5_W0 l Z a0 hw [] b82 (Int32.ofNat i) r69 ca sc n i (fun _ => (-9223372036854775808 : Int64)) (fun _ => (0 : Int32)) T83.heap n0 Z83 rfl hin hn4 E_ao F_compact F_scale F_whole V_ca V_sc E_r69_83 F_compact_r69_83 ne_b82_ca ne_b82_sc ne_ca_sc ne_r69_ca ne_r69_sc (Ne.symm ne_r69_b82) g_b82 g_ca) (by decide) (by decide) E_ao (g := (mkF m 104 #[.val (.int pp), .val (.int pq), .val (.long qc1), .second, .val (.long qc2), .second, .val (.int ps1), .val (.int ps2), .val (.int (Int32.ofNat n)), .val (.int kd1), .val (.int kd2), .val (.int (Int32.ofNat i)), .val (.int (Int32.ofNat j)), .val (.int (Int32.ofNat k)), .val (.ref r69), .val (.ref r81), .val (.ref b82), .unset] [(.ref r69), (.int (Int32.ofNat i)), (.ref b82)])) rfl (by rw [hml]; rfl) (argsL := [(.int (Int32.ofNat i)), (.ref r69)]) (rest := []) (lenOf pd_0_4 rfl) rfl (by show 2 * 0 + _ ≤ _; exact Nat.le_of_eq rfl) (hb hby at_104) rfl rfl (by decide) (by decide)
    obtain ⟨rfl, Nq84, Kq84, wa, szw, neca, nesc, neao, nevo, Fw84, Vc84, Vw84⟩ := hQ84
    have N84 := Fr.app N83 Nq84
    have g_wa : n0 ≤ wa := Nat.le_trans Z83 szw
    have ne_r69_wa : r69 ≠ wa := Nat.ne_of_lt (Nat.lt_of_lt_of_le E_r69_83.lt szw)
    have ne_r81_wa : r81 ≠ wa := Nat.ne_of_lt (Nat.lt_of_lt_of_le E_r81_83.lt szw)
    have ne_b82_wa : b82 ≠ wa := Nat.ne_of_lt (Nat.lt_of_lt_of_le E_ao.lt szw)
    have ne_ca_wa : ca ≠ wa := Nat.ne_of_lt (Nat.lt_of_lt_of_le V_ca.lt szw)
    have ne_sc_wa : sc ≠ wa := Nat.ne_of_lt (Nat.lt_of_lt_of_le V_sc.lt szw)
    have E_r69_84 := E_r69_83.keep Kq84
    have F_compact_r69_84 := F_compact_r69_83.keep Kq84 (ninS ne_r69_b82 (ninS ne_r69_ca nin0))
    have F_scale_r69_84 := F_scale_r69_83.keep Kq84 (ninS ne_r69_b82 (ninS ne_r69_ca nin0))
    have E_r81_84 := E_r81_83.keep Kq84
    have F_compact_r81_84 := F_compact_r81_83.keep Kq84 (ninS ne_r81_b82 (ninS ne_r81_ca nin0))
    have F_scale_r81_84 := F_scale_r81_83.keep Kq84 (ninS ne_r81_b82 (ninS ne_r81_ca nin0))
    have E_ao_84 := E_ao.keep Kq84
    have V_sc_84 := V_sc.keep Kq84 (ninS (Ne.symm ne_b82_sc) (ninS (Ne.symm ne_ca_sc) nin0))
    have Z84 : n0 ≤ T84.heap.size := Nat.le_trans Z83 Kq84.1
    obtain ⟨Fc84, Fs84, Fw84⟩ := Fw84
    refine own_go st84 ?_
    show OwnFin p e below s _ _ _ (T84.setTop (mkF m 107 #[.val (.int pp), .val (.int pq), .val (.long qc1), .second, .val (.long qc2), .second, .val (.int ps1), .val (.int ps2), .val (.int (Int32.ofNat n)), .val (.int kd1), .val (.int kd2), .val (.int (Int32.ofNat i)), .val (.int (Int32.ofNat j)), .val (.int (Int32.ofNat k)), .val (.ref r69), .val (.ref r81), .val (.ref b82), .unset] []))
    refine own_go (fun t_ k_ => XS.aload X84.here hx rfl (hb hby at_107) rfl rfl k_) ?_
    show OwnFin p e below s _ _ _ (T84.setTop (mkF m 109 #[.val (.int pp), .val (.int pq), .val (.long qc1), .second, .val (.long qc2), .second, .val (.int ps1), .val (.int ps2), .val (.int (Int32.ofNat n)), .val (.int kd1), .val (.int kd2), .val (.int (Int32.ofNat i)), .val (.int (Int32.ofNat j)), .val (.int (Int32.ofNat k)), .val (.ref r69), .val (.ref r81), .val (.ref b82), .unset] [(.ref b82)]))
    refine own_go (fun t_ k_ => XS.iload X84.here hx rfl (hb hby at_109) rfl k_) ?_
    show OwnFin p e below s _ _ _ (T84.setTop (mkF m 111 #[.val (.int pp), .val (.int pq), .val (.long qc1), .second, .val (.long qc2), .second, .val (.int ps1), .val (.int ps2), .val (.int (Int32.ofNat n)), .val (.int kd1), .val (.int kd2), .val (.int (Int32.ofNat i)), .val (.int (Int32.ofNat j)), .val (.int (Int32.ofNat k)), .val (.ref r69), .val (.ref r81), .val (.ref b82), .unset] [(.int (Int32.ofNat j)), (.ref b82)]))
    refine own_go (fun t_ k_ => XS.aload X84.here hx rfl (hb hby at_111) rfl rfl k_) ?_
    show OwnFin p e below s _ _ _ (T84.setTop (mkF m 113 #[.val (.int pp), .val (.int pq), .val (.long qc1), .second, .val (.long qc2), .second, .val (.int ps1), .val (.int ps2), .val (.int (Int32.ofNat n)), .val (.int kd1), .val (.int kd2), .val (.int (Int32.ofNat i)), .val (.int (Int32.ofNat j)), .val (.int (Int32.ofNat k)), .val (.ref r69), .val (.ref r81), .val (.ref b82), .unset] [(.ref r81), (.int (Int32.ofNat j)), (.ref b82)]))
    obtain ⟨v85, T85, L85, X85, hQ85, st85⟩ := own_callV X84 hx hZ (y := (⟨"com/example/nearside/nearside/support/SplitDecimalArray", "set", "(ILcom/example/nearside/nearside/support/SplitDecimal;)V"⟩ : MethodName)) (z := (⟨"com/example/nearside/nearside/support/SplitDecimalArray", "set", "(ILcom/example/nearside/nearside/support/SplitDecimal;)V"⟩ : MethodName)) hown (hw _ (List.mem_of_getElem? (i := 24) rfl)) (hw _ (List.mem_of_getElem? (i := 25) rfl)) (notFace_of_selects (args := #[]) (mvT hZ (hw _ (List.mem_of_getElem? (i := 27) rfl)))) (hw _ (List.mem_of_getElem? (i := 27) rfl)) (hw _ (List.mem_of_getElem? (i := 26) rfl)) (hw _ (List.mem_of_getElem? (i := 6) rfl)) (hw _ (List.mem_of_getElem? (i := 28) rfl)) (by decide) (W := 0) (rm5_C1 l Z a0 hw [] b82 (Int32.ofNat j) r81 ca sc wa n j (fun z => if z = i then (-9223372036854775808 : Int64) else (fun _ => (-9223372036854775808 : Int64)) z) (fun _ => (0 : Int32)) (fun z => if z = i then Value.ref r69 else Value.null) T84.heap n0 Z84 rfl hjn hn4 E_ao_84 Fc84 Fs84 Fw84 Vc84 V_sc_84 Vw84 E_r81_84 F_compact_r81_84 F_scale_r81_84 (own_cw _) ne_b82_ca ne_b82_sc ne_ca_sc ne_b82_wa ne_ca_wa ne_sc_wa ne_r81_ca ne_r81_sc (Ne.symm ne_r81_b82) ne_r81_wa g_ca g_sc) (by decide) (by decide) E_ao_84 (g := (mkF m 113 #[.val (.int pp), .val (.int pq), .val (.long qc1), .second, .val (.long qc2), .second, .val (.int ps1), .val (.int ps2), .val (.int (Int32.ofNat n)), .val (.int kd1), .val (.int kd2), .val (.int (Int32.ofNat i)), .val (.int (Int32.ofNat j)), .val (.int (Int32.ofNat k)), .val (.ref r69), .val (.ref r81), .val (.ref b82), .unset] [(.ref r81), (.int (Int32.ofNat j)), (.ref b82)])) rfl (by rw [hml]; rfl) (argsL := [(.int (Int32.ofNat j)), (.ref r81)]) (rest := []) (lenOf pd_0_4 rfl) rfl (by show 2 * 0 + _ ≤ _; exact Nat.le_of_eq rfl) (hb hby at_113) rfl rfl (by decide) (by decide)
    obtain ⟨rfl, Nq85, Kq85, Vc85, Vs85⟩ := hQ85
    have N85 := Fr.app N84 Nq85
    have E_r69_85 := E_r69_84.keep Kq85
    have F_compact_r69_85 := F_compact_r69_84.keep Kq85 (ninS ne_r69_ca (ninS ne_r69_sc nin0))
    have F_scale_r69_85 := F_scale_r69_84.keep Kq85 (ninS ne_r69_ca (ninS ne_r69_sc nin0))
    have E_r81_85 := E_r81_84.keep Kq85
    have F_compact_r81_85 := F_compact_r81_84.keep Kq85 (ninS ne_r81_ca (ninS ne_r81_sc nin0))
    have F_scale_r81_85 := F_scale_r81_84.keep Kq85 (ninS ne_r81_ca (ninS ne_r81_sc nin0))
    have E_ao_85 := E_ao_84.keep Kq85
    have Fc84_85 := Fc84.keep Kq85 (ninS ne_b82_ca (ninS ne_b82_sc nin0))
    have Fs84_85 := Fs84.keep Kq85 (ninS ne_b82_ca (ninS ne_b82_sc nin0))
    have Fw84_85 := Fw84.keep Kq85 (ninS ne_b82_ca (ninS ne_b82_sc nin0))
    have Vw84_85 := Vw84.keep Kq85 (ninS (Ne.symm ne_ca_wa) (ninS (Ne.symm ne_sc_wa) nin0))
    have Z85 : n0 ≤ T85.heap.size := Nat.le_trans Z84 Kq85.1
    refine own_go st85 ?_
    show OwnFin p e below s _ _ _ (T85.setTop (mkF m 116 #[.val (.int pp), .val (.int pq), .val (.long qc1), .second, .val (.long qc2), .second, .val (.int ps1), .val (.int ps2), .val (.int (Int32.ofNat n)), .val (.int kd1), .val (.int kd2), .val (.int (Int32.ofNat i)), .val (.int (Int32.ofNat j)), .val (.int (Int32.ofNat k)), .val (.ref r69), .val (.ref r81), .val (.ref b82), .unset] []))
    refine own_go (fun t_ k_ => XS.aload X85.here hx rfl (hb hby at_116) rfl rfl k_) ?_
    show OwnFin p e below s _ _ _ (T85.setTop (mkF m 118 #[.val (.int pp), .val (.int pq), .val (.long qc1), .second, .val (.long qc2), .second, .val (.int ps1), .val (.int ps2), .val (.int (Int32.ofNat n)), .val (.int kd1), .val (.int kd2), .val (.int (Int32.ofNat i)), .val (.int (Int32.ofNat j)), .val (.int (Int32.ofNat k)), .val (.ref r69), .val (.ref r81), .val (.ref b82), .unset] [(.ref b82)]))
    refine own_go (fun t_ k_ => XS.iload X85.here hx rfl (hb hby at_118) rfl k_) ?_
    show OwnFin p e below s _ _ _ (T85.setTop (mkF m 120 #[.val (.int pp), .val (.int pq), .val (.long qc1), .second, .val (.long qc2), .second, .val (.int ps1), .val (.int ps2), .val (.int (Int32.ofNat n)), .val (.int kd1), .val (.int kd2), .val (.int (Int32.ofNat i)), .val (.int (Int32.ofNat j)), .val (.int (Int32.ofNat k)), .val (.ref r69), .val (.ref r81), .val (.ref b82), .unset] [(.int (Int32.ofNat j)), (.ref b82)]))
    obtain ⟨v86, T86, L86, X86, hQ86, st86⟩ := own_callV X85 hx hZ (y := (⟨"com/example/nearside/nearside/support/SplitDecimalArray", "get", "(I)Lcom/example/nearside/nearside/support/SplitDecimal;"⟩ : MethodName)) (z := (⟨"com/example/nearside/nearside/support/SplitDecimalArray", "get", "(I)Lcom/example/nearside/nearside/support/SplitDecimal;"⟩ : MethodName)) hown (hw _ (List.mem_of_getElem? (i := 31) rfl)) (hw _ (List.mem_of_getElem? (i := 32) rfl)) (notFace_of_selects (args := #[]) (mvT hZ (hw _ (List.mem_of_getElem? (i := 34) rfl)))) (hw _ (List.mem_of_getElem? (i := 34) rfl)) (hw _ (List.mem_of_getElem? (i := 33) rfl)) (hw _ (List.mem_of_getElem? (i := 6) rfl)) (hw _ (List.mem_of_getElem? (i := 35) rfl)) (by decide) (W := 0) (rm6_C l Z a0 hw [] b82 (Int32.ofNat j) ca sc n j (fun z => if z = j then (own_c qc2) else (fun z => if z = i then (-9223372036854775808 : Int64) else (fun _ => (-9223372036854775808 : Int64)) z) z) (fun z => if z = j then ps2 else (fun _ => (0 : Int32)) z) (own_c qc2) ps2 T85.heap n0 Z85 rfl hjn Fc84_85 Fs84_85 Vc85 Vs85 (by (try dsimp only); rw [if_pos rfl]) (by (try dsimp only); rw [if_pos rfl]) (own_cw _)) (by decide) (by decide) E_ao_85 (g := (mkF m 120 #[.val (.int pp), .val (.int pq), .val (.long qc1), .second, .val (.long qc2), .second, .val (.int ps1), .val (.int ps2), .val (.int (Int32.ofNat n)), .val (.int kd1), .val (.int kd2), .val (.int (Int32.ofNat i)), .val (.int (Int32.ofNat j)), .val (.int (Int32.ofNat k)), .val (.ref r69), .val (.ref r81), .val (.ref b82), .unset] [(.int (Int32.ofNat j)), (.ref b82)])) rfl (by rw [hml]; rfl) (argsL := [(.int (Int32.ofNat j))]) (rest := []) (lenOf pd_0_5 rfl) rfl (by show 2 * 0 + _ ≤ _; exact Nat.le_of_eq rfl) (hb hby at_120) rfl rfl (by decide) (by decide)
    obtain ⟨r86, rfl, Nq86, Kq86, sq86, Eq86, Fq86_0, Fq86_1⟩ := hQ86
    have N86 := Fr.app N85 Nq86
    have g_r86 : n0 ≤ r86 := Nat.le_trans Z85 sq86
    have ne_r69_r86 : r69 ≠ r86 := Nat.ne_of_lt (Nat.lt_of_lt_of_le E_r69_85.lt sq86)
    have ne_r81_r86 : r81 ≠ r86 := Nat.ne_of_lt (Nat.lt_of_lt_of_le E_r81_85.lt sq86)
    have ne_b82_r86 : b82 ≠ r86 := Nat.ne_of_lt (Nat.lt_of_lt_of_le E_ao_85.lt sq86)
    have ne_wa_r86 : wa ≠ r86 := Nat.ne_of_lt (Nat.lt_of_lt_of_le Vw84_85.lt sq86)
    have ne_ca_r86 : ca ≠ r86 := Nat.ne_of_lt (Nat.lt_of_lt_of_le Vc85.lt sq86)
    have ne_sc_r86 : sc ≠ r86 := Nat.ne_of_lt (Nat.lt_of_lt_of_le Vs85.lt sq86)
    have E_r69_86 := E_r69_85.keep Kq86
    have F_compact_r69_86 := F_compact_r69_85.keep Kq86 nin0
    have F_scale_r69_86 := F_scale_r69_85.keep Kq86 nin0
    have E_r81_86 := E_r81_85.keep Kq86
    have F_compact_r81_86 := F_compact_r81_85.keep Kq86 nin0
    have F_scale_r81_86 := F_scale_r81_85.keep Kq86 nin0
    have E_ao_86 := E_ao_85.keep Kq86
    have Fc84_86 := Fc84_85.keep Kq86 nin0
    have Fs84_86 := Fs84_85.keep Kq86 nin0
    have Fw84_86 := Fw84_85.keep Kq86 nin0
    have Vw84_86 := Vw84_85.keep Kq86 nin0
    have Vc85_86 := Vc85.keep Kq86 nin0
    have Vs85_86 := Vs85.keep Kq86 nin0
    have Z86 : n0 ≤ T86.heap.size := Nat.le_trans Z85 Kq86.1
    refine own_go st86 ?_
    show OwnFin p e below s _ _ _ (T86.setTop (mkF m 123 #[.val (.int pp), .val (.int pq), .val (.long qc1), .second, .val (.long qc2), .second, .val (.int ps1), .val (.int ps2), .val (.int (Int32.ofNat n)), .val (.int kd1), .val (.int kd2), .val (.int (Int32.ofNat i)), .val (.int (Int32.ofNat j)), .val (.int (Int32.ofNat k)), .val (.ref r69), .val (.ref r81), .val (.ref b82), .unset] [(.ref r86)]))
    refine own_go (fun t_ k_ => XS.aload X86.here hx rfl (hb hby at_123) rfl rfl k_) ?_
    show OwnFin p e below s _ _ _ (T86.setTop (mkF m 125 #[.val (.int pp), .val (.int pq), .val (.long qc1), .second, .val (.long qc2), .second, .val (.int ps1), .val (.int ps2), .val (.int (Int32.ofNat n)), .val (.int kd1), .val (.int kd2), .val (.int (Int32.ofNat i)), .val (.int (Int32.ofNat j)), .val (.int (Int32.ofNat k)), .val (.ref r69), .val (.ref r81), .val (.ref b82), .unset] [(.ref r81), (.ref r86)]))
    obtain ⟨v87, T87, L87, X87, hQ87, st87⟩ := own_callS X86 hx hZ (y := (⟨"com/example/nearside/nearside/support/SplitDecimalArraySetPinLaw", "holds", "(Lcom/example/nearside/nearside/support/SplitDecimal;Lcom/example/nearside/nearside/support/SplitDecimal;)Z"⟩ : MethodName)) hown (hw _ (List.mem_of_getElem? (i := 36) rfl)) (hw _ (List.mem_of_getElem? (i := 37) rfl)) (hw _ (List.mem_of_getElem? (i := 2) rfl)) (hw _ (List.mem_of_getElem? (i := 38) rfl)) (by decide) (W := 0) (rm7_C l Z a0 hw [] r86 r81 T86.heap n0 Z86 (own_cw _) Fq86_0 Fq86_1 F_compact_r81_86 F_scale_r81_86) (by decide) (by decide) (g := (mkF m 125 #[.val (.int pp), .val (.int pq), .val (.long qc1), .second, .val (.long qc2), .second, .val (.int ps1), .val (.int ps2), .val (.int (Int32.ofNat n)), .val (.int kd1), .val (.int kd2), .val (.int (Int32.ofNat i)), .val (.int (Int32.ofNat j)), .val (.int (Int32.ofNat k)), .val (.ref r69), .val (.ref r81), .val (.ref b82), .unset] [(.ref r81), (.ref r86)])) rfl (by rw [hml]; rfl) (argsL := [(.ref r86), (.ref r81)]) (rest := []) (lenOf pd_0_6 rfl) rfl (by show 2 * 0 + _ ≤ _; exact Nat.le_of_eq rfl) (hb hby at_125) rfl rfl (by decide) (by decide)
    obtain ⟨rfl, Nq87, e87⟩ := hQ87
    have N87 := Fr.app N86 Nq87
    refine own_go st87 ?_
    show OwnFin p e below s _ _ _ (T87.setTop (mkF m 128 #[.val (.int pp), .val (.int pq), .val (.long qc1), .second, .val (.long qc2), .second, .val (.int ps1), .val (.int ps2), .val (.int (Int32.ofNat n)), .val (.int kd1), .val (.int kd2), .val (.int (Int32.ofNat i)), .val (.int (Int32.ofNat j)), .val (.int (Int32.ofNat k)), .val (.ref r69), .val (.ref r81), .val (.ref b82), .unset] [(.int (1 : Int32))]))
    refine own_go (fun t_ k_ => XS.istore X87.here hx rfl (hb hby at_128) rfl (l' := #[.val (.int pp), .val (.int pq), .val (.long qc1), .second, .val (.long qc2), .second, .val (.int ps1), .val (.int ps2), .val (.int (Int32.ofNat n)), .val (.int kd1), .val (.int kd2), .val (.int (Int32.ofNat i)), .val (.int (Int32.ofNat j)), .val (.int (Int32.ofNat k)), .val (.ref r69), .val (.ref r81), .val (.ref b82), .val (.int (1 : Int32))]) rfl k_) ?_
    show OwnFin p e below s _ _ _ (T87.setTop (mkF m 130 #[.val (.int pp), .val (.int pq), .val (.long qc1), .second, .val (.long qc2), .second, .val (.int ps1), .val (.int ps2), .val (.int (Int32.ofNat n)), .val (.int kd1), .val (.int kd2), .val (.int (Int32.ofNat i)), .val (.int (Int32.ofNat j)), .val (.int (Int32.ofNat k)), .val (.ref r69), .val (.ref r81), .val (.ref b82), .val (.int (1 : Int32))] []))
    by_cases hij : i = j
    · refine own_go (fun t_ k_ => XS.iload X87.here hx rfl (hb hby at_130) rfl k_) ?_
      show OwnFin p e below s _ _ _ (T87.setTop (mkF m 132 #[.val (.int pp), .val (.int pq), .val (.long qc1), .second, .val (.long qc2), .second, .val (.int ps1), .val (.int ps2), .val (.int (Int32.ofNat n)), .val (.int kd1), .val (.int kd2), .val (.int (Int32.ofNat i)), .val (.int (Int32.ofNat j)), .val (.int (Int32.ofNat k)), .val (.ref r69), .val (.ref r81), .val (.ref b82), .val (.int (1 : Int32))] [(.int (Int32.ofNat i))]))
      refine own_go (fun t_ k_ => XS.iload X87.here hx rfl (hb hby at_132) rfl k_) ?_
      show OwnFin p e below s _ _ _ (T87.setTop (mkF m 134 #[.val (.int pp), .val (.int pq), .val (.long qc1), .second, .val (.long qc2), .second, .val (.int ps1), .val (.int ps2), .val (.int (Int32.ofNat n)), .val (.int kd1), .val (.int kd2), .val (.int (Int32.ofNat i)), .val (.int (Int32.ofNat j)), .val (.int (Int32.ofNat k)), .val (.ref r69), .val (.ref r81), .val (.ref b82), .val (.int (1 : Int32))] [(.int (Int32.ofNat j)), (.int (Int32.ofNat i))]))
      have hc134 : (Int32.ofNat i) = (Int32.ofNat j) := by rw [hij]
      refine own_go (fun t_ k_ => XS.icmpYes X87.here hx rfl (pc0 := 134) (pc' := 164) rfl (hb hby at_134) rfl (teq hc134).1 (by decide) (by decide) k_) ?_
      show OwnFin p e below s _ _ _ (T87.setTop (mkF m 164 #[.val (.int pp), .val (.int pq), .val (.long qc1), .second, .val (.long qc2), .second, .val (.int ps1), .val (.int ps2), .val (.int (Int32.ofNat n)), .val (.int kd1), .val (.int kd2), .val (.int (Int32.ofNat i)), .val (.int (Int32.ofNat j)), .val (.int (Int32.ofNat k)), .val (.ref r69), .val (.ref r81), .val (.ref b82), .val (.int (1 : Int32))] []))
      by_cases hki : k = i
      · refine own_go (fun t_ k_ => XS.iload X87.here hx rfl (hb hby at_164) rfl k_) ?_
        show OwnFin p e below s _ _ _ (T87.setTop (mkF m 166 #[.val (.int pp), .val (.int pq), .val (.long qc1), .second, .val (.long qc2), .second, .val (.int ps1), .val (.int ps2), .val (.int (Int32.ofNat n)), .val (.int kd1), .val (.int kd2), .val (.int (Int32.ofNat i)), .val (.int (Int32.ofNat j)), .val (.int (Int32.ofNat k)), .val (.ref r69), .val (.ref r81), .val (.ref b82), .val (.int (1 : Int32))] [(.int (Int32.ofNat k))]))
        refine own_go (fun t_ k_ => XS.iload X87.here hx rfl (hb hby at_166) rfl k_) ?_
        show OwnFin p e below s _ _ _ (T87.setTop (mkF m 168 #[.val (.int pp), .val (.int pq), .val (.long qc1), .second, .val (.long qc2), .second, .val (.int ps1), .val (.int ps2), .val (.int (Int32.ofNat n)), .val (.int kd1), .val (.int kd2), .val (.int (Int32.ofNat i)), .val (.int (Int32.ofNat j)), .val (.int (Int32.ofNat k)), .val (.ref r69), .val (.ref r81), .val (.ref b82), .val (.int (1 : Int32))] [(.int (Int32.ofNat i)), (.int (Int32.ofNat k))]))
        have hc168 : (Int32.ofNat k) = (Int32.ofNat i) := by rw [hki]
        refine own_go (fun t_ k_ => XS.icmpYes X87.here hx rfl (pc0 := 168) (pc' := 200) rfl (hb hby at_168) rfl (teq hc168).1 (by decide) (by decide) k_) ?_
        show OwnFin p e below s _ _ _ (T87.setTop (mkF m 200 #[.val (.int pp), .val (.int pq), .val (.long qc1), .second, .val (.long qc2), .second, .val (.int ps1), .val (.int ps2), .val (.int (Int32.ofNat n)), .val (.int kd1), .val (.int kd2), .val (.int (Int32.ofNat i)), .val (.int (Int32.ofNat j)), .val (.int (Int32.ofNat k)), .val (.ref r69), .val (.ref r81), .val (.ref b82), .val (.int (1 : Int32))] []))
        refine own_go (fun t_ k_ => XS.iload X87.here hx rfl (hb hby at_200) rfl k_) ?_
        show OwnFin p e below s _ _ _ (T87.setTop (mkF m 202 #[.val (.int pp), .val (.int pq), .val (.long qc1), .second, .val (.long qc2), .second, .val (.int ps1), .val (.int ps2), .val (.int (Int32.ofNat n)), .val (.int kd1), .val (.int kd2), .val (.int (Int32.ofNat i)), .val (.int (Int32.ofNat j)), .val (.int (Int32.ofNat k)), .val (.ref r69), .val (.ref r81), .val (.ref b82), .val (.int (1 : Int32))] [(.int (1 : Int32))]))
        refine own_ret X87 (v := some (.int (1 : Int32))) hlk (fun hh => by rw [hret] at hh; cases hh) (fun fs hr => retN X87 hx (t := .boolean) hret (by simp) (hb hby at_202) hr) (by decide) (by decide) ?_
        exact ⟨rfl, N87⟩
      · refine own_go (fun t_ k_ => XS.iload X87.here hx rfl (hb hby at_164) rfl k_) ?_
        show OwnFin p e below s _ _ _ (T87.setTop (mkF m 166 #[.val (.int pp), .val (.int pq), .val (.long qc1), .second, .val (.long qc2), .second, .val (.int ps1), .val (.int ps2), .val (.int (Int32.ofNat n)), .val (.int kd1), .val (.int kd2), .val (.int (Int32.ofNat i)), .val (.int (Int32.ofNat j)), .val (.int (Int32.ofNat k)), .val (.ref r69), .val (.ref r81), .val (.ref b82), .val (.int (1 : Int32))] [(.int (Int32.ofNat k))]))
        refine own_go (fun t_ k_ => XS.iload X87.here hx rfl (hb hby at_166) rfl k_) ?_
        show OwnFin p e below s _ _ _ (T87.setTop (mkF m 168 #[.val (.int pp), .val (.int pq), .val (.long qc1), .second, .val (.long qc2), .second, .val (.int ps1), .val (.int ps2), .val (.int (Int32.ofNat n)), .val (.int kd1), .val (.int kd2), .val (.int (Int32.ofNat i)), .val (.int (Int32.ofNat j)), .val (.int (Int32.ofNat k)), .val (.ref r69), .val (.ref r81), .val (.ref b82), .val (.int (1 : Int32))] [(.int (Int32.ofNat i)), (.int (Int32.ofNat k))]))
        have hc168 : ¬ ((Int32.ofNat k) = (Int32.ofNat i)) := fun q => hki (own_ofNat_inj (by omega) (by omega) q)
        refine own_go (fun t_ k_ => XS.icmpNo X87.here hx rfl (hb hby at_168) rfl (feq hc168).1 k_) ?_
        show OwnFin p e below s _ _ _ (T87.setTop (mkF m 171 #[.val (.int pp), .val (.int pq), .val (.long qc1), .second, .val (.long qc2), .second, .val (.int ps1), .val (.int ps2), .val (.int (Int32.ofNat n)), .val (.int kd1), .val (.int kd2), .val (.int (Int32.ofNat i)), .val (.int (Int32.ofNat j)), .val (.int (Int32.ofNat k)), .val (.ref r69), .val (.ref r81), .val (.ref b82), .val (.int (1 : Int32))] []))
        by_cases hkj : k = j
        · refine own_go (fun t_ k_ => XS.iload X87.here hx rfl (hb hby at_171) rfl k_) ?_
          show OwnFin p e below s _ _ _ (T87.setTop (mkF m 173 #[.val (.int pp), .val (.int pq), .val (.long qc1), .second, .val (.long qc2), .second, .val (.int ps1), .val (.int ps2), .val (.int (Int32.ofNat n)), .val (.int kd1), .val (.int kd2), .val (.int (Int32.ofNat i)), .val (.int (Int32.ofNat j)), .val (.int (Int32.ofNat k)), .val (.ref r69), .val (.ref r81), .val (.ref b82), .val (.int (1 : Int32))] [(.int (Int32.ofNat k))]))
          refine own_go (fun t_ k_ => XS.iload X87.here hx rfl (hb hby at_173) rfl k_) ?_
          show OwnFin p e below s _ _ _ (T87.setTop (mkF m 175 #[.val (.int pp), .val (.int pq), .val (.long qc1), .second, .val (.long qc2), .second, .val (.int ps1), .val (.int ps2), .val (.int (Int32.ofNat n)), .val (.int kd1), .val (.int kd2), .val (.int (Int32.ofNat i)), .val (.int (Int32.ofNat j)), .val (.int (Int32.ofNat k)), .val (.ref r69), .val (.ref r81), .val (.ref b82), .val (.int (1 : Int32))] [(.int (Int32.ofNat j)), (.int (Int32.ofNat k))]))
          have hc175 : (Int32.ofNat k) = (Int32.ofNat j) := by rw [hkj]
          refine own_go (fun t_ k_ => XS.icmpYes X87.here hx rfl (pc0 := 175) (pc' := 200) rfl (hb hby at_175) rfl (teq hc175).1 (by decide) (by decide) k_) ?_
          show OwnFin p e below s _ _ _ (T87.setTop (mkF m 200 #[.val (.int pp), .val (.int pq), .val (.long qc1), .second, .val (.long qc2), .second, .val (.int ps1), .val (.int ps2), .val (.int (Int32.ofNat n)), .val (.int kd1), .val (.int kd2), .val (.int (Int32.ofNat i)), .val (.int (Int32.ofNat j)), .val (.int (Int32.ofNat k)), .val (.ref r69), .val (.ref r81), .val (.ref b82), .val (.int (1 : Int32))] []))
          refine own_go (fun t_ k_ => XS.iload X87.here hx rfl (hb hby at_200) rfl k_) ?_
          show OwnFin p e below s _ _ _ (T87.setTop (mkF m 202 #[.val (.int pp), .val (.int pq), .val (.long qc1), .second, .val (.long qc2), .second, .val (.int ps1), .val (.int ps2), .val (.int (Int32.ofNat n)), .val (.int kd1), .val (.int kd2), .val (.int (Int32.ofNat i)), .val (.int (Int32.ofNat j)), .val (.int (Int32.ofNat k)), .val (.ref r69), .val (.ref r81), .val (.ref b82), .val (.int (1 : Int32))] [(.int (1 : Int32))]))
          refine own_ret X87 (v := some (.int (1 : Int32))) hlk (fun hh => by rw [hret] at hh; cases hh) (fun fs hr => retN X87 hx (t := .boolean) hret (by simp) (hb hby at_202) hr) (by decide) (by decide) ?_
          exact ⟨rfl, N87⟩
        · refine own_go (fun t_ k_ => XS.iload X87.here hx rfl (hb hby at_171) rfl k_) ?_
          show OwnFin p e below s _ _ _ (T87.setTop (mkF m 173 #[.val (.int pp), .val (.int pq), .val (.long qc1), .second, .val (.long qc2), .second, .val (.int ps1), .val (.int ps2), .val (.int (Int32.ofNat n)), .val (.int kd1), .val (.int kd2), .val (.int (Int32.ofNat i)), .val (.int (Int32.ofNat j)), .val (.int (Int32.ofNat k)), .val (.ref r69), .val (.ref r81), .val (.ref b82), .val (.int (1 : Int32))] [(.int (Int32.ofNat k))]))
          refine own_go (fun t_ k_ => XS.iload X87.here hx rfl (hb hby at_173) rfl k_) ?_
          show OwnFin p e below s _ _ _ (T87.setTop (mkF m 175 #[.val (.int pp), .val (.int pq), .val (.long qc1), .second, .val (.long qc2), .second, .val (.int ps1), .val (.int ps2), .val (.int (Int32.ofNat n)), .val (.int kd1), .val (.int kd2), .val (.int (Int32.ofNat i)), .val (.int (Int32.ofNat j)), .val (.int (Int32.ofNat k)), .val (.ref r69), .val (.ref r81), .val (.ref b82), .val (.int (1 : Int32))] [(.int (Int32.ofNat j)), (.int (Int32.ofNat k))]))
          have hc175 : ¬ ((Int32.ofNat k) = (Int32.ofNat j)) := fun q => hkj (own_ofNat_inj (by omega) (by omega) q)
          refine own_go (fun t_ k_ => XS.icmpNo X87.here hx rfl (hb hby at_175) rfl (feq hc175).1 k_) ?_
          show OwnFin p e below s _ _ _ (T87.setTop (mkF m 178 #[.val (.int pp), .val (.int pq), .val (.long qc1), .second, .val (.long qc2), .second, .val (.int ps1), .val (.int ps2), .val (.int (Int32.ofNat n)), .val (.int kd1), .val (.int kd2), .val (.int (Int32.ofNat i)), .val (.int (Int32.ofNat j)), .val (.int (Int32.ofNat k)), .val (.ref r69), .val (.ref r81), .val (.ref b82), .val (.int (1 : Int32))] []))
          refine own_go (fun t_ k_ => XS.iload X87.here hx rfl (hb hby at_178) rfl k_) ?_
          show OwnFin p e below s _ _ _ (T87.setTop (mkF m 180 #[.val (.int pp), .val (.int pq), .val (.long qc1), .second, .val (.long qc2), .second, .val (.int ps1), .val (.int ps2), .val (.int (Int32.ofNat n)), .val (.int kd1), .val (.int kd2), .val (.int (Int32.ofNat i)), .val (.int (Int32.ofNat j)), .val (.int (Int32.ofNat k)), .val (.ref r69), .val (.ref r81), .val (.ref b82), .val (.int (1 : Int32))] [(.int (1 : Int32))]))
          refine own_go (fun t_ k_ => XS.ifNo X87.here hx rfl (hb hby at_180) rfl ((if0 _ _).trans (feq (by decide)).1) k_) ?_
          show OwnFin p e below s _ _ _ (T87.setTop (mkF m 183 #[.val (.int pp), .val (.int pq), .val (.long qc1), .second, .val (.long qc2), .second, .val (.int ps1), .val (.int ps2), .val (.int (Int32.ofNat n)), .val (.int kd1), .val (.int kd2), .val (.int (Int32.ofNat i)), .val (.int (Int32.ofNat j)), .val (.int (Int32.ofNat k)), .val (.ref r69), .val (.ref r81), .val (.ref b82), .val (.int (1 : Int32))] []))
          refine own_go (fun t_ k_ => XS.aload X87.here hx rfl (hb hby at_183) rfl rfl k_) ?_
          show OwnFin p e below s _ _ _ (T87.setTop (mkF m 185 #[.val (.int pp), .val (.int pq), .val (.long qc1), .second, .val (.long qc2), .second, .val (.int ps1), .val (.int ps2), .val (.int (Int32.ofNat n)), .val (.int kd1), .val (.int kd2), .val (.int (Int32.ofNat i)), .val (.int (Int32.ofNat j)), .val (.int (Int32.ofNat k)), .val (.ref r69), .val (.ref r81), .val (.ref b82), .val (.int (1 : Int32))] [(.ref b82)]))
          refine own_go (fun t_ k_ => XS.iload X87.here hx rfl (hb hby at_185) rfl k_) ?_
          show OwnFin p e below s _ _ _ (T87.setTop (mkF m 187 #[.val (.int pp), .val (.int pq), .val (.long qc1), .second, .val (.long qc2), .second, .val (.int ps1), .val (.int ps2), .val (.int (Int32.ofNat n)), .val (.int kd1), .val (.int kd2), .val (.int (Int32.ofNat i)), .val (.int (Int32.ofNat j)), .val (.int (Int32.ofNat k)), .val (.ref r69), .val (.ref r81), .val (.ref b82), .val (.int (1 : Int32))] [(.int (Int32.ofNat k)), (.ref b82)]))
          obtain ⟨v88, T88, L88, X88, hQ88, st88⟩ := own_callV X87 hx hZ (y := (⟨"com/example/nearside/nearside/support/SplitDecimalArray", "get", "(I)Lcom/example/nearside/nearside/support/SplitDecimal;"⟩ : MethodName)) (z := (⟨"com/example/nearside/nearside/support/SplitDecimalArray", "get", "(I)Lcom/example/nearside/nearside/support/SplitDecimal;"⟩ : MethodName)) hown (hw _ (List.mem_of_getElem? (i := 31) rfl)) (hw _ (List.mem_of_getElem? (i := 32) rfl)) (notFace_of_selects (args := #[]) (mvT hZ (hw _ (List.mem_of_getElem? (i := 34) rfl)))) (hw _ (List.mem_of_getElem? (i := 34) rfl)) (hw _ (List.mem_of_getElem? (i := 33) rfl)) (hw _ (List.mem_of_getElem? (i := 6) rfl)) (hw _ (List.mem_of_getElem? (i := 35) rfl)) (by decide) (W := 0) (rm6_V l Z a0 hw [] b82 (Int32.ofNat k) ca wa n k (fun z => if z = j then (own_c qc2) else (fun z => if z = i then (-9223372036854775808 : Int64) else (fun _ => (-9223372036854775808 : Int64)) z) z) (fun z => if z = i then Value.ref r69 else Value.null) T86.heap n0 Z86 rfl hkn Fc84_86 Fw84_86 Vc85_86 (by (try dsimp only); rw [if_neg hkj, if_neg hki]) Vw84_86 (by (try dsimp only); rw [if_neg hki])) (by decide) (by decide) E_ao_86 (g := (mkF m 187 #[.val (.int pp), .val (.int pq), .val (.long qc1), .second, .val (.long qc2), .second, .val (.int ps1), .val (.int ps2), .val (.int (Int32.ofNat n)), .val (.int kd1), .val (.int kd2), .val (.int (Int32.ofNat i)), .val (.int (Int32.ofNat j)), .val (.int (Int32.ofNat k)), .val (.ref r69), .val (.ref r81), .val (.ref b82), .val (.int (1 : Int32))] [(.int (Int32.ofNat k)), (.ref b82)])) rfl (by rw [hml]; rfl) (argsL := [(.int (Int32.ofNat k))]) (rest := []) (lenOf pd_0_5 rfl) rfl (by show 2 * 0 + _ ≤ _; exact Nat.le_of_eq rfl) (hb hby at_187) e87 rfl (by decide) (by decide)
          obtain ⟨rfl, Nq88, e88⟩ := hQ88
          have N88 := Fr.app N87 Nq88
          refine own_go st88 ?_
          show OwnFin p e below s _ _ _ (T88.setTop (mkF m 190 #[.val (.int pp), .val (.int pq), .val (.long qc1), .second, .val (.long qc2), .second, .val (.int ps1), .val (.int ps2), .val (.int (Int32.ofNat n)), .val (.int kd1), .val (.int kd2), .val (.int (Int32.ofNat i)), .val (.int (Int32.ofNat j)), .val (.int (Int32.ofNat k)), .val (.ref r69), .val (.ref r81), .val (.ref b82), .val (.int (1 : Int32))] [.null]))
          refine own_go (fun t_ k_ => XS.ifnonnullNo X88.here hx rfl (hb hby at_190) rfl k_) ?_
          show OwnFin p e below s _ _ _ (T88.setTop (mkF m 193 #[.val (.int pp), .val (.int pq), .val (.long qc1), .second, .val (.long qc2), .second, .val (.int ps1), .val (.int ps2), .val (.int (Int32.ofNat n)), .val (.int kd1), .val (.int kd2), .val (.int (Int32.ofNat i)), .val (.int (Int32.ofNat j)), .val (.int (Int32.ofNat k)), .val (.ref r69), .val (.ref r81), .val (.ref b82), .val (.int (1 : Int32))] []))
          refine own_go (fun t_ k_ => XS.iconst X88.here hx rfl (hb hby at_193) k_) ?_
          show OwnFin p e below s _ _ _ (T88.setTop (mkF m 194 #[.val (.int pp), .val (.int pq), .val (.long qc1), .second, .val (.long qc2), .second, .val (.int ps1), .val (.int ps2), .val (.int (Int32.ofNat n)), .val (.int kd1), .val (.int kd2), .val (.int (Int32.ofNat i)), .val (.int (Int32.ofNat j)), .val (.int (Int32.ofNat k)), .val (.ref r69), .val (.ref r81), .val (.ref b82), .val (.int (1 : Int32))] [(.int (1 : Int32))]))
          refine own_go (fun t_ k_ => XS.goto X88.here hx rfl (pc0 := 194) (pc' := 198) rfl (hb hby at_194) (by decide) (by decide) k_) ?_
          show OwnFin p e below s _ _ _ (T88.setTop (mkF m 198 #[.val (.int pp), .val (.int pq), .val (.long qc1), .second, .val (.long qc2), .second, .val (.int ps1), .val (.int ps2), .val (.int (Int32.ofNat n)), .val (.int kd1), .val (.int kd2), .val (.int (Int32.ofNat i)), .val (.int (Int32.ofNat j)), .val (.int (Int32.ofNat k)), .val (.ref r69), .val (.ref r81), .val (.ref b82), .val (.int (1 : Int32))] [(.int (1 : Int32))]))
          refine own_go (fun t_ k_ => XS.istore X88.here hx rfl (hb hby at_198) rfl (l' := #[.val (.int pp), .val (.int pq), .val (.long qc1), .second, .val (.long qc2), .second, .val (.int ps1), .val (.int ps2), .val (.int (Int32.ofNat n)), .val (.int kd1), .val (.int kd2), .val (.int (Int32.ofNat i)), .val (.int (Int32.ofNat j)), .val (.int (Int32.ofNat k)), .val (.ref r69), .val (.ref r81), .val (.ref b82), .val (.int (1 : Int32))]) rfl k_) ?_
          show OwnFin p e below s _ _ _ (T88.setTop (mkF m 200 #[.val (.int pp), .val (.int pq), .val (.long qc1), .second, .val (.long qc2), .second, .val (.int ps1), .val (.int ps2), .val (.int (Int32.ofNat n)), .val (.int kd1), .val (.int kd2), .val (.int (Int32.ofNat i)), .val (.int (Int32.ofNat j)), .val (.int (Int32.ofNat k)), .val (.ref r69), .val (.ref r81), .val (.ref b82), .val (.int (1 : Int32))] []))
          refine own_go (fun t_ k_ => XS.iload X88.here hx rfl (hb hby at_200) rfl k_) ?_
          show OwnFin p e below s _ _ _ (T88.setTop (mkF m 202 #[.val (.int pp), .val (.int pq), .val (.long qc1), .second, .val (.long qc2), .second, .val (.int ps1), .val (.int ps2), .val (.int (Int32.ofNat n)), .val (.int kd1), .val (.int kd2), .val (.int (Int32.ofNat i)), .val (.int (Int32.ofNat j)), .val (.int (Int32.ofNat k)), .val (.ref r69), .val (.ref r81), .val (.ref b82), .val (.int (1 : Int32))] [(.int (1 : Int32))]))
          refine own_ret X88 (v := some (.int (1 : Int32))) hlk (fun hh => by rw [hret] at hh; cases hh) (fun fs hr => retN X88 hx (t := .boolean) hret (by simp) (hb hby at_202) hr) (by decide) (by decide) ?_
          exact ⟨rfl, N88⟩
    · refine own_go (fun t_ k_ => XS.iload X87.here hx rfl (hb hby at_130) rfl k_) ?_
      show OwnFin p e below s _ _ _ (T87.setTop (mkF m 132 #[.val (.int pp), .val (.int pq), .val (.long qc1), .second, .val (.long qc2), .second, .val (.int ps1), .val (.int ps2), .val (.int (Int32.ofNat n)), .val (.int kd1), .val (.int kd2), .val (.int (Int32.ofNat i)), .val (.int (Int32.ofNat j)), .val (.int (Int32.ofNat k)), .val (.ref r69), .val (.ref r81), .val (.ref b82), .val (.int (1 : Int32))] [(.int (Int32.ofNat i))]))
      refine own_go (fun t_ k_ => XS.iload X87.here hx rfl (hb hby at_132) rfl k_) ?_
      show OwnFin p e below s _ _ _ (T87.setTop (mkF m 134 #[.val (.int pp), .val (.int pq), .val (.long qc1), .second, .val (.long qc2), .second, .val (.int ps1), .val (.int ps2), .val (.int (Int32.ofNat n)), .val (.int kd1), .val (.int kd2), .val (.int (Int32.ofNat i)), .val (.int (Int32.ofNat j)), .val (.int (Int32.ofNat k)), .val (.ref r69), .val (.ref r81), .val (.ref b82), .val (.int (1 : Int32))] [(.int (Int32.ofNat j)), (.int (Int32.ofNat i))]))
      have hc134 : ¬ ((Int32.ofNat i) = (Int32.ofNat j)) := fun q => hij (own_ofNat_inj (by omega) (by omega) q)
      refine own_go (fun t_ k_ => XS.icmpNo X87.here hx rfl (hb hby at_134) rfl (feq hc134).1 k_) ?_
      show OwnFin p e below s _ _ _ (T87.setTop (mkF m 137 #[.val (.int pp), .val (.int pq), .val (.long qc1), .second, .val (.long qc2), .second, .val (.int ps1), .val (.int ps2), .val (.int (Int32.ofNat n)), .val (.int kd1), .val (.int kd2), .val (.int (Int32.ofNat i)), .val (.int (Int32.ofNat j)), .val (.int (Int32.ofNat k)), .val (.ref r69), .val (.ref r81), .val (.ref b82), .val (.int (1 : Int32))] []))
      refine own_go (fun t_ k_ => XS.iload X87.here hx rfl (hb hby at_137) rfl k_) ?_
      show OwnFin p e below s _ _ _ (T87.setTop (mkF m 139 #[.val (.int pp), .val (.int pq), .val (.long qc1), .second, .val (.long qc2), .second, .val (.int ps1), .val (.int ps2), .val (.int (Int32.ofNat n)), .val (.int kd1), .val (.int kd2), .val (.int (Int32.ofNat i)), .val (.int (Int32.ofNat j)), .val (.int (Int32.ofNat k)), .val (.ref r69), .val (.ref r81), .val (.ref b82), .val (.int (1 : Int32))] [(.int (1 : Int32))]))
      refine own_go (fun t_ k_ => XS.ifNo X87.here hx rfl (hb hby at_139) rfl ((if0 _ _).trans (feq (by decide)).1) k_) ?_
      show OwnFin p e below s _ _ _ (T87.setTop (mkF m 142 #[.val (.int pp), .val (.int pq), .val (.long qc1), .second, .val (.long qc2), .second, .val (.int ps1), .val (.int ps2), .val (.int (Int32.ofNat n)), .val (.int kd1), .val (.int kd2), .val (.int (Int32.ofNat i)), .val (.int (Int32.ofNat j)), .val (.int (Int32.ofNat k)), .val (.ref r69), .val (.ref r81), .val (.ref b82), .val (.int (1 : Int32))] []))
      refine own_go (fun t_ k_ => XS.aload X87.here hx rfl (hb hby at_142) rfl rfl k_) ?_
      show OwnFin p e below s _ _ _ (T87.setTop (mkF m 144 #[.val (.int pp), .val (.int pq), .val (.long qc1), .second, .val (.long qc2), .second, .val (.int ps1), .val (.int ps2), .val (.int (Int32.ofNat n)), .val (.int kd1), .val (.int kd2), .val (.int (Int32.ofNat i)), .val (.int (Int32.ofNat j)), .val (.int (Int32.ofNat k)), .val (.ref r69), .val (.ref r81), .val (.ref b82), .val (.int (1 : Int32))] [(.ref b82)]))
      refine own_go (fun t_ k_ => XS.iload X87.here hx rfl (hb hby at_144) rfl k_) ?_
      show OwnFin p e below s _ _ _ (T87.setTop (mkF m 146 #[.val (.int pp), .val (.int pq), .val (.long qc1), .second, .val (.long qc2), .second, .val (.int ps1), .val (.int ps2), .val (.int (Int32.ofNat n)), .val (.int kd1), .val (.int kd2), .val (.int (Int32.ofNat i)), .val (.int (Int32.ofNat j)), .val (.int (Int32.ofNat k)), .val (.ref r69), .val (.ref r81), .val (.ref b82), .val (.int (1 : Int32))] [(.int (Int32.ofNat i)), (.ref b82)]))
      obtain ⟨v89, T89, L89, X89, hQ89, st89⟩ := own_callV X87 hx hZ (y := (⟨"com/example/nearside/nearside/support/SplitDecimalArray", "get", "(I)Lcom/example/nearside/nearside/support/SplitDecimal;"⟩ : MethodName)) (z := (⟨"com/example/nearside/nearside/support/SplitDecimalArray", "get", "(I)Lcom/example/nearside/nearside/support/SplitDecimal;"⟩ : MethodName)) hown (hw _ (List.mem_of_getElem? (i := 31) rfl)) (hw _ (List.mem_of_getElem? (i := 32) rfl)) (notFace_of_selects (args := #[]) (mvT hZ (hw _ (List.mem_of_getElem? (i := 34) rfl)))) (hw _ (List.mem_of_getElem? (i := 34) rfl)) (hw _ (List.mem_of_getElem? (i := 33) rfl)) (hw _ (List.mem_of_getElem? (i := 6) rfl)) (hw _ (List.mem_of_getElem? (i := 35) rfl)) (by decide) (W := 0) (rm6_W l Z a0 hw [] b82 (Int32.ofNat i) ca wa n i (fun z => if z = j then (own_c qc2) else (fun z => if z = i then (-9223372036854775808 : Int64) else (fun _ => (-9223372036854775808 : Int64)) z) z) (fun z => if z = i then Value.ref r69 else Value.null) r69 T86.heap n0 Z86 rfl hin Fc84_86 Fw84_86 Vc85_86 (by (try dsimp only); rw [if_neg hij, if_pos rfl]) Vw84_86 (by (try dsimp only); rw [if_pos rfl])) (by decide) (by decide) E_ao_86 (g := (mkF m 146 #[.val (.int pp), .val (.int pq), .val (.long qc1), .second, .val (.long qc2), .second, .val (.int ps1), .val (.int ps2), .val (.int (Int32.ofNat n)), .val (.int kd1), .val (.int kd2), .val (.int (Int32.ofNat i)), .val (.int (Int32.ofNat j)), .val (.int (Int32.ofNat k)), .val (.ref r69), .val (.ref r81), .val (.ref b82), .val (.int (1 : Int32))] [(.int (Int32.ofNat i)), (.ref b82)])) rfl (by rw [hml]; rfl) (argsL := [(.int (Int32.ofNat i))]) (rest := []) (lenOf pd_0_5 rfl) rfl (by show 2 * 0 + _ ≤ _; exact Nat.le_of_eq rfl) (hb hby at_146) e87 rfl (by decide) (by decide)
      obtain ⟨rfl, Nq89, e89⟩ := hQ89
      have N89 := Fr.app N87 Nq89
      refine own_go st89 ?_
      show OwnFin p e below s _ _ _ (T89.setTop (mkF m 149 #[.val (.int pp), .val (.int pq), .val (.long qc1), .second, .val (.long qc2), .second, .val (.int ps1), .val (.int ps2), .val (.int (Int32.ofNat n)), .val (.int kd1), .val (.int kd2), .val (.int (Int32.ofNat i)), .val (.int (Int32.ofNat j)), .val (.int (Int32.ofNat k)), .val (.ref r69), .val (.ref r81), .val (.ref b82), .val (.int (1 : Int32))] [(.ref r69)]))
      refine own_go (fun t_ k_ => XS.aload X89.here hx rfl (hb hby at_149) rfl rfl k_) ?_
      show OwnFin p e below s _ _ _ (T89.setTop (mkF m 151 #[.val (.int pp), .val (.int pq), .val (.long qc1), .second, .val (.long qc2), .second, .val (.int ps1), .val (.int ps2), .val (.int (Int32.ofNat n)), .val (.int kd1), .val (.int kd2), .val (.int (Int32.ofNat i)), .val (.int (Int32.ofNat j)), .val (.int (Int32.ofNat k)), .val (.ref r69), .val (.ref r81), .val (.ref b82), .val (.int (1 : Int32))] [(.ref r69), (.ref r69)]))
      obtain ⟨v90, T90, L90, X90, hQ90, st90⟩ := own_callS X89 hx hZ (y := (⟨"com/example/nearside/nearside/support/SplitDecimalArraySetPinLaw", "holds", "(Lcom/example/nearside/nearside/support/SplitDecimal;Lcom/example/nearside/nearside/support/SplitDecimal;)Z"⟩ : MethodName)) hown (hw _ (List.mem_of_getElem? (i := 36) rfl)) (hw _ (List.mem_of_getElem? (i := 37) rfl)) (hw _ (List.mem_of_getElem? (i := 2) rfl)) (hw _ (List.mem_of_getElem? (i := 38) rfl)) (by decide) (W := 0) (rm7_W l Z a0 hw [] r69 T86.heap n0 Z86 F_compact_r69_86) (by decide) (by decide) (g := (mkF m 151 #[.val (.int pp), .val (.int pq), .val (.long qc1), .second, .val (.long qc2), .second, .val (.int ps1), .val (.int ps2), .val (.int (Int32.ofNat n)), .val (.int kd1), .val (.int kd2), .val (.int (Int32.ofNat i)), .val (.int (Int32.ofNat j)), .val (.int (Int32.ofNat k)), .val (.ref r69), .val (.ref r81), .val (.ref b82), .val (.int (1 : Int32))] [(.ref r69), (.ref r69)])) rfl (by rw [hml]; rfl) (argsL := [(.ref r69), (.ref r69)]) (rest := []) (lenOf pd_0_6 rfl) rfl (by show 2 * 0 + _ ≤ _; exact Nat.le_of_eq rfl) (hb hby at_151) e89 rfl (by decide) (by decide)
      obtain ⟨rfl, Nq90, e90⟩ := hQ90
      have N90 := Fr.app N89 Nq90
      refine own_go st90 ?_
      show OwnFin p e below s _ _ _ (T90.setTop (mkF m 154 #[.val (.int pp), .val (.int pq), .val (.long qc1), .second, .val (.long qc2), .second, .val (.int ps1), .val (.int ps2), .val (.int (Int32.ofNat n)), .val (.int kd1), .val (.int kd2), .val (.int (Int32.ofNat i)), .val (.int (Int32.ofNat j)), .val (.int (Int32.ofNat k)), .val (.ref r69), .val (.ref r81), .val (.ref b82), .val (.int (1 : Int32))] [(.int (1 : Int32))]))
      refine own_go (fun t_ k_ => XS.ifNo X90.here hx rfl (hb hby at_154) rfl ((if0 _ _).trans (feq (by decide)).1) k_) ?_
      show OwnFin p e below s _ _ _ (T90.setTop (mkF m 157 #[.val (.int pp), .val (.int pq), .val (.long qc1), .second, .val (.long qc2), .second, .val (.int ps1), .val (.int ps2), .val (.int (Int32.ofNat n)), .val (.int kd1), .val (.int kd2), .val (.int (Int32.ofNat i)), .val (.int (Int32.ofNat j)), .val (.int (Int32.ofNat k)), .val (.ref r69), .val (.ref r81), .val (.ref b82), .val (.int (1 : Int32))] []))
      refine own_go (fun t_ k_ => XS.iconst X90.here hx rfl (hb hby at_157) k_) ?_
      show OwnFin p e below s _ _ _ (T90.setTop (mkF m 158 #[.val (.int pp), .val (.int pq), .val (.long qc1), .second, .val (.long qc2), .second, .val (.int ps1), .val (.int ps2), .val (.int (Int32.ofNat n)), .val (.int kd1), .val (.int kd2), .val (.int (Int32.ofNat i)), .val (.int (Int32.ofNat j)), .val (.int (Int32.ofNat k)), .val (.ref r69), .val (.ref r81), .val (.ref b82), .val (.int (1 : Int32))] [(.int (1 : Int32))]))
      refine own_go (fun t_ k_ => XS.goto X90.here hx rfl (pc0 := 158) (pc' := 162) rfl (hb hby at_158) (by decide) (by decide) k_) ?_
      show OwnFin p e below s _ _ _ (T90.setTop (mkF m 162 #[.val (.int pp), .val (.int pq), .val (.long qc1), .second, .val (.long qc2), .second, .val (.int ps1), .val (.int ps2), .val (.int (Int32.ofNat n)), .val (.int kd1), .val (.int kd2), .val (.int (Int32.ofNat i)), .val (.int (Int32.ofNat j)), .val (.int (Int32.ofNat k)), .val (.ref r69), .val (.ref r81), .val (.ref b82), .val (.int (1 : Int32))] [(.int (1 : Int32))]))
      refine own_go (fun t_ k_ => XS.istore X90.here hx rfl (hb hby at_162) rfl (l' := #[.val (.int pp), .val (.int pq), .val (.long qc1), .second, .val (.long qc2), .second, .val (.int ps1), .val (.int ps2), .val (.int (Int32.ofNat n)), .val (.int kd1), .val (.int kd2), .val (.int (Int32.ofNat i)), .val (.int (Int32.ofNat j)), .val (.int (Int32.ofNat k)), .val (.ref r69), .val (.ref r81), .val (.ref b82), .val (.int (1 : Int32))]) rfl k_) ?_
      show OwnFin p e below s _ _ _ (T90.setTop (mkF m 164 #[.val (.int pp), .val (.int pq), .val (.long qc1), .second, .val (.long qc2), .second, .val (.int ps1), .val (.int ps2), .val (.int (Int32.ofNat n)), .val (.int kd1), .val (.int kd2), .val (.int (Int32.ofNat i)), .val (.int (Int32.ofNat j)), .val (.int (Int32.ofNat k)), .val (.ref r69), .val (.ref r81), .val (.ref b82), .val (.int (1 : Int32))] []))
      by_cases hki : k = i
      · refine own_go (fun t_ k_ => XS.iload X90.here hx rfl (hb hby at_164) rfl k_) ?_
        show OwnFin p e below s _ _ _ (T90.setTop (mkF m 166 #[.val (.int pp), .val (.int pq), .val (.long qc1), .second, .val (.long qc2), .second, .val (.int ps1), .val (.int ps2), .val (.int (Int32.ofNat n)), .val (.int kd1), .val (.int kd2), .val (.int (Int32.ofNat i)), .val (.int (Int32.ofNat j)), .val (.int (Int32.ofNat k)), .val (.ref r69), .val (.ref r81), .val (.ref b82), .val (.int (1 : Int32))] [(.int (Int32.ofNat k))]))
        refine own_go (fun t_ k_ => XS.iload X90.here hx rfl (hb hby at_166) rfl k_) ?_
        show OwnFin p e below s _ _ _ (T90.setTop (mkF m 168 #[.val (.int pp), .val (.int pq), .val (.long qc1), .second, .val (.long qc2), .second, .val (.int ps1), .val (.int ps2), .val (.int (Int32.ofNat n)), .val (.int kd1), .val (.int kd2), .val (.int (Int32.ofNat i)), .val (.int (Int32.ofNat j)), .val (.int (Int32.ofNat k)), .val (.ref r69), .val (.ref r81), .val (.ref b82), .val (.int (1 : Int32))] [(.int (Int32.ofNat i)), (.int (Int32.ofNat k))]))
        have hc168 : (Int32.ofNat k) = (Int32.ofNat i) := by rw [hki]
        refine own_go (fun t_ k_ => XS.icmpYes X90.here hx rfl (pc0 := 168) (pc' := 200) rfl (hb hby at_168) rfl (teq hc168).1 (by decide) (by decide) k_) ?_
        show OwnFin p e below s _ _ _ (T90.setTop (mkF m 200 #[.val (.int pp), .val (.int pq), .val (.long qc1), .second, .val (.long qc2), .second, .val (.int ps1), .val (.int ps2), .val (.int (Int32.ofNat n)), .val (.int kd1), .val (.int kd2), .val (.int (Int32.ofNat i)), .val (.int (Int32.ofNat j)), .val (.int (Int32.ofNat k)), .val (.ref r69), .val (.ref r81), .val (.ref b82), .val (.int (1 : Int32))] []))
        refine own_go (fun t_ k_ => XS.iload X90.here hx rfl (hb hby at_200) rfl k_) ?_
        show OwnFin p e below s _ _ _ (T90.setTop (mkF m 202 #[.val (.int pp), .val (.int pq), .val (.long qc1), .second, .val (.long qc2), .second, .val (.int ps1), .val (.int ps2), .val (.int (Int32.ofNat n)), .val (.int kd1), .val (.int kd2), .val (.int (Int32.ofNat i)), .val (.int (Int32.ofNat j)), .val (.int (Int32.ofNat k)), .val (.ref r69), .val (.ref r81), .val (.ref b82), .val (.int (1 : Int32))] [(.int (1 : Int32))]))
        refine own_ret X90 (v := some (.int (1 : Int32))) hlk (fun hh => by rw [hret] at hh; cases hh) (fun fs hr => retN X90 hx (t := .boolean) hret (by simp) (hb hby at_202) hr) (by decide) (by decide) ?_
        exact ⟨rfl, N90⟩
      · refine own_go (fun t_ k_ => XS.iload X90.here hx rfl (hb hby at_164) rfl k_) ?_
        show OwnFin p e below s _ _ _ (T90.setTop (mkF m 166 #[.val (.int pp), .val (.int pq), .val (.long qc1), .second, .val (.long qc2), .second, .val (.int ps1), .val (.int ps2), .val (.int (Int32.ofNat n)), .val (.int kd1), .val (.int kd2), .val (.int (Int32.ofNat i)), .val (.int (Int32.ofNat j)), .val (.int (Int32.ofNat k)), .val (.ref r69), .val (.ref r81), .val (.ref b82), .val (.int (1 : Int32))] [(.int (Int32.ofNat k))]))
        refine own_go (fun t_ k_ => XS.iload X90.here hx rfl (hb hby at_166) rfl k_) ?_
        show OwnFin p e below s _ _ _ (T90.setTop (mkF m 168 #[.val (.int pp), .val (.int pq), .val (.long qc1), .second, .val (.long qc2), .second, .val (.int ps1), .val (.int ps2), .val (.int (Int32.ofNat n)), .val (.int kd1), .val (.int kd2), .val (.int (Int32.ofNat i)), .val (.int (Int32.ofNat j)), .val (.int (Int32.ofNat k)), .val (.ref r69), .val (.ref r81), .val (.ref b82), .val (.int (1 : Int32))] [(.int (Int32.ofNat i)), (.int (Int32.ofNat k))]))
        have hc168 : ¬ ((Int32.ofNat k) = (Int32.ofNat i)) := fun q => hki (own_ofNat_inj (by omega) (by omega) q)
        refine own_go (fun t_ k_ => XS.icmpNo X90.here hx rfl (hb hby at_168) rfl (feq hc168).1 k_) ?_
        show OwnFin p e below s _ _ _ (T90.setTop (mkF m 171 #[.val (.int pp), .val (.int pq), .val (.long qc1), .second, .val (.long qc2), .second, .val (.int ps1), .val (.int ps2), .val (.int (Int32.ofNat n)), .val (.int kd1), .val (.int kd2), .val (.int (Int32.ofNat i)), .val (.int (Int32.ofNat j)), .val (.int (Int32.ofNat k)), .val (.ref r69), .val (.ref r81), .val (.ref b82), .val (.int (1 : Int32))] []))
        by_cases hkj : k = j
        · refine own_go (fun t_ k_ => XS.iload X90.here hx rfl (hb hby at_171) rfl k_) ?_
          show OwnFin p e below s _ _ _ (T90.setTop (mkF m 173 #[.val (.int pp), .val (.int pq), .val (.long qc1), .second, .val (.long qc2), .second, .val (.int ps1), .val (.int ps2), .val (.int (Int32.ofNat n)), .val (.int kd1), .val (.int kd2), .val (.int (Int32.ofNat i)), .val (.int (Int32.ofNat j)), .val (.int (Int32.ofNat k)), .val (.ref r69), .val (.ref r81), .val (.ref b82), .val (.int (1 : Int32))] [(.int (Int32.ofNat k))]))
          refine own_go (fun t_ k_ => XS.iload X90.here hx rfl (hb hby at_173) rfl k_) ?_
          show OwnFin p e below s _ _ _ (T90.setTop (mkF m 175 #[.val (.int pp), .val (.int pq), .val (.long qc1), .second, .val (.long qc2), .second, .val (.int ps1), .val (.int ps2), .val (.int (Int32.ofNat n)), .val (.int kd1), .val (.int kd2), .val (.int (Int32.ofNat i)), .val (.int (Int32.ofNat j)), .val (.int (Int32.ofNat k)), .val (.ref r69), .val (.ref r81), .val (.ref b82), .val (.int (1 : Int32))] [(.int (Int32.ofNat j)), (.int (Int32.ofNat k))]))
          have hc175 : (Int32.ofNat k) = (Int32.ofNat j) := by rw [hkj]
          refine own_go (fun t_ k_ => XS.icmpYes X90.here hx rfl (pc0 := 175) (pc' := 200) rfl (hb hby at_175) rfl (teq hc175).1 (by decide) (by decide) k_) ?_
          show OwnFin p e below s _ _ _ (T90.setTop (mkF m 200 #[.val (.int pp), .val (.int pq), .val (.long qc1), .second, .val (.long qc2), .second, .val (.int ps1), .val (.int ps2), .val (.int (Int32.ofNat n)), .val (.int kd1), .val (.int kd2), .val (.int (Int32.ofNat i)), .val (.int (Int32.ofNat j)), .val (.int (Int32.ofNat k)), .val (.ref r69), .val (.ref r81), .val (.ref b82), .val (.int (1 : Int32))] []))
          refine own_go (fun t_ k_ => XS.iload X90.here hx rfl (hb hby at_200) rfl k_) ?_
          show OwnFin p e below s _ _ _ (T90.setTop (mkF m 202 #[.val (.int pp), .val (.int pq), .val (.long qc1), .second, .val (.long qc2), .second, .val (.int ps1), .val (.int ps2), .val (.int (Int32.ofNat n)), .val (.int kd1), .val (.int kd2), .val (.int (Int32.ofNat i)), .val (.int (Int32.ofNat j)), .val (.int (Int32.ofNat k)), .val (.ref r69), .val (.ref r81), .val (.ref b82), .val (.int (1 : Int32))] [(.int (1 : Int32))]))
          refine own_ret X90 (v := some (.int (1 : Int32))) hlk (fun hh => by rw [hret] at hh; cases hh) (fun fs hr => retN X90 hx (t := .boolean) hret (by simp) (hb hby at_202) hr) (by decide) (by decide) ?_
          exact ⟨rfl, N90⟩
        · refine own_go (fun t_ k_ => XS.iload X90.here hx rfl (hb hby at_171) rfl k_) ?_
          show OwnFin p e below s _ _ _ (T90.setTop (mkF m 173 #[.val (.int pp), .val (.int pq), .val (.long qc1), .second, .val (.long qc2), .second, .val (.int ps1), .val (.int ps2), .val (.int (Int32.ofNat n)), .val (.int kd1), .val (.int kd2), .val (.int (Int32.ofNat i)), .val (.int (Int32.ofNat j)), .val (.int (Int32.ofNat k)), .val (.ref r69), .val (.ref r81), .val (.ref b82), .val (.int (1 : Int32))] [(.int (Int32.ofNat k))]))
          refine own_go (fun t_ k_ => XS.iload X90.here hx rfl (hb hby at_173) rfl k_) ?_
          show OwnFin p e below s _ _ _ (T90.setTop (mkF m 175 #[.val (.int pp), .val (.int pq), .val (.long qc1), .second, .val (.long qc2), .second, .val (.int ps1), .val (.int ps2), .val (.int (Int32.ofNat n)), .val (.int kd1), .val (.int kd2), .val (.int (Int32.ofNat i)), .val (.int (Int32.ofNat j)), .val (.int (Int32.ofNat k)), .val (.ref r69), .val (.ref r81), .val (.ref b82), .val (.int (1 : Int32))] [(.int (Int32.ofNat j)), (.int (Int32.ofNat k))]))
          have hc175 : ¬ ((Int32.ofNat k) = (Int32.ofNat j)) := fun q => hkj (own_ofNat_inj (by omega) (by omega) q)
          refine own_go (fun t_ k_ => XS.icmpNo X90.here hx rfl (hb hby at_175) rfl (feq hc175).1 k_) ?_
          show OwnFin p e below s _ _ _ (T90.setTop (mkF m 178 #[.val (.int pp), .val (.int pq), .val (.long qc1), .second, .val (.long qc2), .second, .val (.int ps1), .val (.int ps2), .val (.int (Int32.ofNat n)), .val (.int kd1), .val (.int kd2), .val (.int (Int32.ofNat i)), .val (.int (Int32.ofNat j)), .val (.int (Int32.ofNat k)), .val (.ref r69), .val (.ref r81), .val (.ref b82), .val (.int (1 : Int32))] []))
          refine own_go (fun t_ k_ => XS.iload X90.here hx rfl (hb hby at_178) rfl k_) ?_
          show OwnFin p e below s _ _ _ (T90.setTop (mkF m 180 #[.val (.int pp), .val (.int pq), .val (.long qc1), .second, .val (.long qc2), .second, .val (.int ps1), .val (.int ps2), .val (.int (Int32.ofNat n)), .val (.int kd1), .val (.int kd2), .val (.int (Int32.ofNat i)), .val (.int (Int32.ofNat j)), .val (.int (Int32.ofNat k)), .val (.ref r69), .val (.ref r81), .val (.ref b82), .val (.int (1 : Int32))] [(.int (1 : Int32))]))
          refine own_go (fun t_ k_ => XS.ifNo X90.here hx rfl (hb hby at_180) rfl ((if0 _ _).trans (feq (by decide)).1) k_) ?_
          show OwnFin p e below s _ _ _ (T90.setTop (mkF m 183 #[.val (.int pp), .val (.int pq), .val (.long qc1), .second, .val (.long qc2), .second, .val (.int ps1), .val (.int ps2), .val (.int (Int32.ofNat n)), .val (.int kd1), .val (.int kd2), .val (.int (Int32.ofNat i)), .val (.int (Int32.ofNat j)), .val (.int (Int32.ofNat k)), .val (.ref r69), .val (.ref r81), .val (.ref b82), .val (.int (1 : Int32))] []))
          refine own_go (fun t_ k_ => XS.aload X90.here hx rfl (hb hby at_183) rfl rfl k_) ?_
          show OwnFin p e below s _ _ _ (T90.setTop (mkF m 185 #[.val (.int pp), .val (.int pq), .val (.long qc1), .second, .val (.long qc2), .second, .val (.int ps1), .val (.int ps2), .val (.int (Int32.ofNat n)), .val (.int kd1), .val (.int kd2), .val (.int (Int32.ofNat i)), .val (.int (Int32.ofNat j)), .val (.int (Int32.ofNat k)), .val (.ref r69), .val (.ref r81), .val (.ref b82), .val (.int (1 : Int32))] [(.ref b82)]))
          refine own_go (fun t_ k_ => XS.iload X90.here hx rfl (hb hby at_185) rfl k_) ?_
          show OwnFin p e below s _ _ _ (T90.setTop (mkF m 187 #[.val (.int pp), .val (.int pq), .val (.long qc1), .second, .val (.long qc2), .second, .val (.int ps1), .val (.int ps2), .val (.int (Int32.ofNat n)), .val (.int kd1), .val (.int kd2), .val (.int (Int32.ofNat i)), .val (.int (Int32.ofNat j)), .val (.int (Int32.ofNat k)), .val (.ref r69), .val (.ref r81), .val (.ref b82), .val (.int (1 : Int32))] [(.int (Int32.ofNat k)), (.ref b82)]))
          obtain ⟨v91, T91, L91, X91, hQ91, st91⟩ := own_callV X90 hx hZ (y := (⟨"com/example/nearside/nearside/support/SplitDecimalArray", "get", "(I)Lcom/example/nearside/nearside/support/SplitDecimal;"⟩ : MethodName)) (z := (⟨"com/example/nearside/nearside/support/SplitDecimalArray", "get", "(I)Lcom/example/nearside/nearside/support/SplitDecimal;"⟩ : MethodName)) hown (hw _ (List.mem_of_getElem? (i := 31) rfl)) (hw _ (List.mem_of_getElem? (i := 32) rfl)) (notFace_of_selects (args := #[]) (mvT hZ (hw _ (List.mem_of_getElem? (i := 34) rfl)))) (hw _ (List.mem_of_getElem? (i := 34) rfl)) (hw _ (List.mem_of_getElem? (i := 33) rfl)) (hw _ (List.mem_of_getElem? (i := 6) rfl)) (hw _ (List.mem_of_getElem? (i := 35) rfl)) (by decide) (W := 0) (rm6_V l Z a0 hw [] b82 (Int32.ofNat k) ca wa n k (fun z => if z = j then (own_c qc2) else (fun z => if z = i then (-9223372036854775808 : Int64) else (fun _ => (-9223372036854775808 : Int64)) z) z) (fun z => if z = i then Value.ref r69 else Value.null) T86.heap n0 Z86 rfl hkn Fc84_86 Fw84_86 Vc85_86 (by (try dsimp only); rw [if_neg hkj, if_neg hki]) Vw84_86 (by (try dsimp only); rw [if_neg hki])) (by decide) (by decide) E_ao_86 (g := (mkF m 187 #[.val (.int pp), .val (.int pq), .val (.long qc1), .second, .val (.long qc2), .second, .val (.int ps1), .val (.int ps2), .val (.int (Int32.ofNat n)), .val (.int kd1), .val (.int kd2), .val (.int (Int32.ofNat i)), .val (.int (Int32.ofNat j)), .val (.int (Int32.ofNat k)), .val (.ref r69), .val (.ref r81), .val (.ref b82), .val (.int (1 : Int32))] [(.int (Int32.ofNat k)), (.ref b82)])) rfl (by rw [hml]; rfl) (argsL := [(.int (Int32.ofNat k))]) (rest := []) (lenOf pd_0_5 rfl) rfl (by show 2 * 0 + _ ≤ _; exact Nat.le_of_eq rfl) (hb hby at_187) e90 rfl (by decide) (by decide)
          obtain ⟨rfl, Nq91, e91⟩ := hQ91
          have N91 := Fr.app N90 Nq91
          refine own_go st91 ?_
          show OwnFin p e below s _ _ _ (T91.setTop (mkF m 190 #[.val (.int pp), .val (.int pq), .val (.long qc1), .second, .val (.long qc2), .second, .val (.int ps1), .val (.int ps2), .val (.int (Int32.ofNat n)), .val (.int kd1), .val (.int kd2), .val (.int (Int32.ofNat i)), .val (.int (Int32.ofNat j)), .val (.int (Int32.ofNat k)), .val (.ref r69), .val (.ref r81), .val (.ref b82), .val (.int (1 : Int32))] [.null]))
          refine own_go (fun t_ k_ => XS.ifnonnullNo X91.here hx rfl (hb hby at_190) rfl k_) ?_
          show OwnFin p e below s _ _ _ (T91.setTop (mkF m 193 #[.val (.int pp), .val (.int pq), .val (.long qc1), .second, .val (.long qc2), .second, .val (.int ps1), .val (.int ps2), .val (.int (Int32.ofNat n)), .val (.int kd1), .val (.int kd2), .val (.int (Int32.ofNat i)), .val (.int (Int32.ofNat j)), .val (.int (Int32.ofNat k)), .val (.ref r69), .val (.ref r81), .val (.ref b82), .val (.int (1 : Int32))] []))
          refine own_go (fun t_ k_ => XS.iconst X91.here hx rfl (hb hby at_193) k_) ?_
          show OwnFin p e below s _ _ _ (T91.setTop (mkF m 194 #[.val (.int pp), .val (.int pq), .val (.long qc1), .second, .val (.long qc2), .second, .val (.int ps1), .val (.int ps2), .val (.int (Int32.ofNat n)), .val (.int kd1), .val (.int kd2), .val (.int (Int32.ofNat i)), .val (.int (Int32.ofNat j)), .val (.int (Int32.ofNat k)), .val (.ref r69), .val (.ref r81), .val (.ref b82), .val (.int (1 : Int32))] [(.int (1 : Int32))]))
          refine own_go (fun t_ k_ => XS.goto X91.here hx rfl (pc0 := 194) (pc' := 198) rfl (hb hby at_194) (by decide) (by decide) k_) ?_
          show OwnFin p e below s _ _ _ (T91.setTop (mkF m 198 #[.val (.int pp), .val (.int pq), .val (.long qc1), .second, .val (.long qc2), .second, .val (.int ps1), .val (.int ps2), .val (.int (Int32.ofNat n)), .val (.int kd1), .val (.int kd2), .val (.int (Int32.ofNat i)), .val (.int (Int32.ofNat j)), .val (.int (Int32.ofNat k)), .val (.ref r69), .val (.ref r81), .val (.ref b82), .val (.int (1 : Int32))] [(.int (1 : Int32))]))
          refine own_go (fun t_ k_ => XS.istore X91.here hx rfl (hb hby at_198) rfl (l' := #[.val (.int pp), .val (.int pq), .val (.long qc1), .second, .val (.long qc2), .second, .val (.int ps1), .val (.int ps2), .val (.int (Int32.ofNat n)), .val (.int kd1), .val (.int kd2), .val (.int (Int32.ofNat i)), .val (.int (Int32.ofNat j)), .val (.int (Int32.ofNat k)), .val (.ref r69), .val (.ref r81), .val (.ref b82), .val (.int (1 : Int32))]) rfl k_) ?_
          show OwnFin p e below s _ _ _ (T91.setTop (mkF m 200 #[.val (.int pp), .val (.int pq), .val (.long qc1), .second, .val (.long qc2), .second, .val (.int ps1), .val (.int ps2), .val (.int (Int32.ofNat n)), .val (.int kd1), .val (.int kd2), .val (.int (Int32.ofNat i)), .val (.int (Int32.ofNat j)), .val (.int (Int32.ofNat k)), .val (.ref r69), .val (.ref r81), .val (.ref b82), .val (.int (1 : Int32))] []))
          refine own_go (fun t_ k_ => XS.iload X91.here hx rfl (hb hby at_200) rfl k_) ?_
          show OwnFin p e below s _ _ _ (T91.setTop (mkF m 202 #[.val (.int pp), .val (.int pq), .val (.long qc1), .second, .val (.long qc2), .second, .val (.int ps1), .val (.int ps2), .val (.int (Int32.ofNat n)), .val (.int kd1), .val (.int kd2), .val (.int (Int32.ofNat i)), .val (.int (Int32.ofNat j)), .val (.int (Int32.ofNat k)), .val (.ref r69), .val (.ref r81), .val (.ref b82), .val (.int (1 : Int32))] [(.int (1 : Int32))]))
          refine own_ret X91 (v := some (.int (1 : Int32))) hlk (fun hh => by rw [hret] at hh; cases hh) (fun fs hr => retN X91 hx (t := .boolean) hret (by simp) (hb hby at_202) hr) (by decide) (by decide) ?_
          exact ⟨rfl, N91⟩
  refine own_go (fun t_ k_ => XS.iload X69.here hx rfl (hb hby at_76) rfl k_) ?_
  show OwnFin p e below s _ _ _ (T69.setTop (mkF m 78 #[.val (.int pp), .val (.int pq), .val (.long qc1), .second, .val (.long qc2), .second, .val (.int ps1), .val (.int ps2), .val (.int (Int32.ofNat n)), .val (.int kd1), .val (.int kd2), .val (.int (Int32.ofNat i)), .val (.int (Int32.ofNat j)), .val (.int (Int32.ofNat k)), .val (.ref r69), .unset, .unset, .unset] [(.int kd2)]))
  refine own_go (fun t_ k_ => XS.lload X69.here hx rfl (hb hby at_78) rfl k_) ?_
  show OwnFin p e below s _ _ _ (T69.setTop (mkF m 80 #[.val (.int pp), .val (.int pq), .val (.long qc1), .second, .val (.long qc2), .second, .val (.int ps1), .val (.int ps2), .val (.int (Int32.ofNat n)), .val (.int kd1), .val (.int kd2), .val (.int (Int32.ofNat i)), .val (.int (Int32.ofNat j)), .val (.int (Int32.ofNat k)), .val (.ref r69), .unset, .unset, .unset] [(.long qc2), (.int kd2)]))
  refine own_go (fun t_ k_ => XS.iload X69.here hx rfl (hb hby at_80) rfl k_) ?_
  show OwnFin p e below s _ _ _ (T69.setTop (mkF m 82 #[.val (.int pp), .val (.int pq), .val (.long qc1), .second, .val (.long qc2), .second, .val (.int ps1), .val (.int ps2), .val (.int (Int32.ofNat n)), .val (.int kd1), .val (.int kd2), .val (.int (Int32.ofNat i)), .val (.int (Int32.ofNat j)), .val (.int (Int32.ofNat k)), .val (.ref r69), .unset, .unset, .unset] [(.int ps2), (.long qc2), (.int kd2)]))
  obtain ⟨v92, T92, L92, X92, hQ92, st92⟩ := own_callS X69 hx hZ (y := (⟨"com/example/nearside/nearside/support/SplitDecimalArraySetPinLaw", "make", "(IJI)Lcom/example/nearside/nearside/support/SplitDecimal;"⟩ : MethodName)) hown (hw _ (List.mem_of_getElem? (i := 0) rfl)) (hw _ (List.mem_of_getElem? (i := 1) rfl)) (hw _ (List.mem_of_getElem? (i := 2) rfl)) (hw _ (List.mem_of_getElem? (i := 3) rfl)) (by decide) (W := 0) (rm1_2 l Z a0 hw [] kd2 qc2 ps2 T69.heap n0 Z69 hz2 ho2) (by decide) (by decide) (g := (mkF m 82 #[.val (.int pp), .val (.int pq), .val (.long qc1), .second, .val (.long qc2), .second, .val (.int ps1), .val (.int ps2), .val (.int (Int32.ofNat n)), .val (.int kd1), .val (.int kd2), .val (.int (Int32.ofNat i)), .val (.int (Int32.ofNat j)), .val (.int (Int32.ofNat k)), .val (.ref r69), .unset, .unset, .unset] [(.int ps2), (.long qc2), (.int kd2)])) rfl (by rw [hml]; rfl) (argsL := [(.int kd2), (.long qc2), (.int ps2)]) (rest := []) (lenOf pd_0_0 rfl) rfl (by show 2 * 0 + _ ≤ _; exact Nat.le_of_eq rfl) (hb hby at_82) rfl rfl (by decide) (by decide)
  obtain ⟨r92, rfl, Nq92, Kq92, sq92, Eq92, Fq92_0, Fq92_1⟩ := hQ92
  have N92 := Fr.app N69 Nq92
  have g_r92 : n0 ≤ r92 := Nat.le_trans Z69 sq92
  have ne_r69_r92 : r69 ≠ r92 := Nat.ne_of_lt (Nat.lt_of_lt_of_le Eq69.lt sq92)
  have E_r69_92 := Eq69.keep Kq92
  have F_compact_r69_92 := Fq69_0.keep Kq92 nin0
  have F_scale_r69_92 := Fq69_1.keep Kq92 nin0
  have Z92 : n0 ≤ T92.heap.size := Nat.le_trans Z69 Kq92.1
  refine own_go st92 ?_
  show OwnFin p e below s _ _ _ (T92.setTop (mkF m 85 #[.val (.int pp), .val (.int pq), .val (.long qc1), .second, .val (.long qc2), .second, .val (.int ps1), .val (.int ps2), .val (.int (Int32.ofNat n)), .val (.int kd1), .val (.int kd2), .val (.int (Int32.ofNat i)), .val (.int (Int32.ofNat j)), .val (.int (Int32.ofNat k)), .val (.ref r69), .unset, .unset, .unset] [(.ref r92)]))
  refine own_go (fun t_ k_ => XS.astore X92.here hx rfl (hb hby at_85) rfl rfl (l' := #[.val (.int pp), .val (.int pq), .val (.long qc1), .second, .val (.long qc2), .second, .val (.int ps1), .val (.int ps2), .val (.int (Int32.ofNat n)), .val (.int kd1), .val (.int kd2), .val (.int (Int32.ofNat i)), .val (.int (Int32.ofNat j)), .val (.int (Int32.ofNat k)), .val (.ref r69), .val (.ref r92), .unset, .unset]) rfl k_) ?_
  show OwnFin p e below s _ _ _ (T92.setTop (mkF m 87 #[.val (.int pp), .val (.int pq), .val (.long qc1), .second, .val (.long qc2), .second, .val (.int ps1), .val (.int ps2), .val (.int (Int32.ofNat n)), .val (.int kd1), .val (.int kd2), .val (.int (Int32.ofNat i)), .val (.int (Int32.ofNat j)), .val (.int (Int32.ofNat k)), .val (.ref r69), .val (.ref r92), .unset, .unset] []))
  obtain ⟨T93, h93, X93, e93, E93, A93, D93, -, st93⟩ := newO X92 hx hZ hown (hw _ (List.mem_of_getElem? (i := 4) rfl)) (hw _ (List.mem_of_getElem? (i := 5) rfl)) (hw _ (List.mem_of_getElem? (i := 6) rfl)) rfl (g := (mkF m 87 #[.val (.int pp), .val (.int pq), .val (.long qc1), .second, .val (.long qc2), .second, .val (.int ps1), .val (.int ps2), .val (.int (Int32.ofNat n)), .val (.int kd1), .val (.int kd2), .val (.int (Int32.ofNat i)), .val (.int (Int32.ofNat j)), .val (.int (Int32.ofNat k)), .val (.ref r69), .val (.ref r92), .unset, .unset] [])) rfl (hb hby at_87) (by decide) (by decide)
  obtain ⟨b93, g93⟩ : ∃ z, z = T92.heap.size := ⟨_, rfl⟩
  rw [← g93] at A93 D93 st93
  have g_b93 : n0 ≤ b93 := Nat.le_trans Z92 (Nat.le_of_eq g93.symm)
  have ne_r69_b93 : r69 ≠ b93 := Nat.ne_of_lt (Nat.lt_of_lt_of_le E_r69_92.lt (Nat.le_of_eq g93.symm))
  have ne_r92_b93 : r92 ≠ b93 := Nat.ne_of_lt (Nat.lt_of_lt_of_le Eq92.lt (Nat.le_of_eq g93.symm))
  have E_r69_93 := E_r69_92.ext E93
  have F_compact_r69_93 := F_compact_r69_92.ext E93
  have F_scale_r69_93 := F_scale_r69_92.ext E93
  have E_r92_93 := Eq92.ext E93
  have F_compact_r92_93 := Fq92_0.ext E93
  have F_scale_r92_93 := Fq92_1.ext E93
  have Z93 : n0 ≤ h93.size := Nat.le_trans Z92 E93.1
  have E_b93 := A93
  have F_compact_b93 : Fld Z h93 b93 "com/example/nearside/nearside/support/SplitDecimalArray" "compact" "[J" .null := D93 (Or.inr (hw _ (List.mem_of_getElem? (i := 15) rfl))) (ty := (.array .long)) (by decide)
  have F_scale_b93 : Fld Z h93 b93 "com/example/nearside/nearside/support/SplitDecimalArray" "scale" "[I" .null := D93 (Or.inr (hw _ (List.mem_of_getElem? (i := 18) rfl))) (ty := (.array .int)) (by decide)
  have F_whole_b93 : Fld Z h93 b93 "com/example/nearside/nearside/support/SplitDecimalArray" "whole" "[Lcom/example/nearside/nearside/support/SplitDecimal;" .null := D93 (Or.inl (hw _ (List.mem_of_getElem? (i := 30) rfl))) (ty := (.array (.object "com/example/nearside/nearside/support/SplitDecimal"))) (by decide)
  refine own_go st93 ?_
  show OwnFin p e below s _ _ _ (T93.setTop (mkF m 90 #[.val (.int pp), .val (.int pq), .val (.long qc1), .second, .val (.long qc2), .second, .val (.int ps1), .val (.int ps2), .val (.int (Int32.ofNat n)), .val (.int kd1), .val (.int kd2), .val (.int (Int32.ofNat i)), .val (.int (Int32.ofNat j)), .val (.int (Int32.ofNat k)), .val (.ref r69), .val (.ref r92), .unset, .unset] [(.ref b93)]))
  refine own_go (fun t_ k_ => XS.dup X93.here hx rfl (hb hby at_90) rfl rfl k_) ?_
  show OwnFin p e below s _ _ _ (T93.setTop (mkF m 91 #[.val (.int pp), .val (.int pq), .val (.long qc1), .second, .val (.long qc2), .second, .val (.int ps1), .val (.int ps2), .val (.int (Int32.ofNat n)), .val (.int kd1), .val (.int kd2), .val (.int (Int32.ofNat i)), .val (.int (Int32.ofNat j)), .val (.int (Int32.ofNat k)), .val (.ref r69), .val (.ref r92), .unset, .unset] [(.ref b93), (.ref b93)]))
  refine own_go (fun t_ k_ => XS.iload X93.here hx rfl (hb hby at_91) rfl k_) ?_
  show OwnFin p e below s _ _ _ (T93.setTop (mkF m 93 #[.val (.int pp), .val (.int pq), .val (.long qc1), .second, .val (.long qc2), .second, .val (.int ps1), .val (.int ps2), .val (.int (Int32.ofNat n)), .val (.int kd1), .val (.int kd2), .val (.int (Int32.ofNat i)), .val (.int (Int32.ofNat j)), .val (.int (Int32.ofNat k)), .val (.ref r69), .val (.ref r92), .unset, .unset] [(.int (Int32.ofNat n)), (.ref b93), (.ref b93)]))
  obtain ⟨v94, T94, L94, X94, hQ94, st94⟩ := own_callI X93 hx hZ (y := (⟨"com/example/nearside/nearside/support/SplitDecimalArray", "<init>", "(I)V"⟩ : MethodName)) rfl hown (hw _ (List.mem_of_getElem? (i := 7) rfl)) (hw _ (List.mem_of_getElem? (i := 8) rfl)) (hw _ (List.mem_of_getElem? (i := 6) rfl)) (hw _ (List.mem_of_getElem? (i := 9) rfl)) (by decide) (W := 1) (rm2 l Z a0 hw [] b93 (Int32.ofNat n) n h93 n0 Z93 rfl hn4 E_b93 g_b93 F_compact_b93 F_scale_b93 F_whole_b93) (by decide) (by decide) (g := (mkF m 93 #[.val (.int pp), .val (.int pq), .val (.long qc1), .second, .val (.long qc2), .second, .val (.int ps1), .val (.int ps2), .val (.int (Int32.ofNat n)), .val (.int kd1), .val (.int kd2), .val (.int (Int32.ofNat i)), .val (.int (Int32.ofNat j)), .val (.int (Int32.ofNat k)), .val (.ref r69), .val (.ref r92), .unset, .unset] [(.int (Int32.ofNat n)), (.ref b93), (.ref b93)])) rfl (by rw [hml]; rfl) (a := b93) (argsL := [(.int (Int32.ofNat n))]) (rest := [(.ref b93)]) (lenOf pd_0_1 rfl) rfl (by show 2 * 0 + _ ≤ _; exact Nat.le_of_eq rfl) (hb hby at_93) e93 rfl (by decide) (by decide)
  obtain ⟨rfl, Nq94, Kq94, E_ao, ca, sc, sz1, sz2, ne_ca_sc, F_compact, F_scale, F_whole, V_ca, V_sc⟩ := hQ94
  have N94 := Fr.app N92 Nq94
  have g_ca : n0 ≤ ca := Nat.le_trans Z93 sz1
  have g_sc : n0 ≤ sc := Nat.le_trans Z93 sz2
  have ne_r69_ca : r69 ≠ ca := Nat.ne_of_lt (Nat.lt_of_lt_of_le E_r69_93.lt sz1)
  have ne_r69_sc : r69 ≠ sc := Nat.ne_of_lt (Nat.lt_of_lt_of_le E_r69_93.lt sz2)
  have ne_r92_ca : r92 ≠ ca := Nat.ne_of_lt (Nat.lt_of_lt_of_le E_r92_93.lt sz1)
  have ne_r92_sc : r92 ≠ sc := Nat.ne_of_lt (Nat.lt_of_lt_of_le E_r92_93.lt sz2)
  have ne_b93_ca : b93 ≠ ca := Nat.ne_of_lt (Nat.lt_of_lt_of_le E_b93.lt sz1)
  have ne_b93_sc : b93 ≠ sc := Nat.ne_of_lt (Nat.lt_of_lt_of_le E_b93.lt sz2)
  have E_r69_94 := E_r69_93.keep Kq94
  have F_compact_r69_94 := F_compact_r69_93.keep Kq94 (ninS ne_r69_b93 nin0)
  have F_scale_r69_94 := F_scale_r69_93.keep Kq94 (ninS ne_r69_b93 nin0)
  have E_r92_94 := E_r92_93.keep Kq94
  have F_compact_r92_94 := F_compact_r92_93.keep Kq94 (ninS ne_r92_b93 nin0)
  have F_scale_r92_94 := F_scale_r92_93.keep Kq94 (ninS ne_r92_b93 nin0)
  have E_b93_94 := E_b93.keep Kq94
  have Z94 : n0 ≤ T94.heap.size := Nat.le_trans Z93 Kq94.1
  refine own_go st94 ?_
  show OwnFin p e below s _ _ _ (T94.setTop (mkF m 96 #[.val (.int pp), .val (.int pq), .val (.long qc1), .second, .val (.long qc2), .second, .val (.int ps1), .val (.int ps2), .val (.int (Int32.ofNat n)), .val (.int kd1), .val (.int kd2), .val (.int (Int32.ofNat i)), .val (.int (Int32.ofNat j)), .val (.int (Int32.ofNat k)), .val (.ref r69), .val (.ref r92), .unset, .unset] [(.ref b93)]))
  refine own_go (fun t_ k_ => XS.astore X94.here hx rfl (hb hby at_96) rfl rfl (l' := #[.val (.int pp), .val (.int pq), .val (.long qc1), .second, .val (.long qc2), .second, .val (.int ps1), .val (.int ps2), .val (.int (Int32.ofNat n)), .val (.int kd1), .val (.int kd2), .val (.int (Int32.ofNat i)), .val (.int (Int32.ofNat j)), .val (.int (Int32.ofNat k)), .val (.ref r69), .val (.ref r92), .val (.ref b93), .unset]) rfl k_) ?_
  show OwnFin p e below s _ _ _ (T94.setTop (mkF m 98 #[.val (.int pp), .val (.int pq), .val (.long qc1), .second, .val (.long qc2), .second, .val (.int ps1), .val (.int ps2), .val (.int (Int32.ofNat n)), .val (.int kd1), .val (.int kd2), .val (.int (Int32.ofNat i)), .val (.int (Int32.ofNat j)), .val (.int (Int32.ofNat k)), .val (.ref r69), .val (.ref r92), .val (.ref b93), .unset] []))
  refine own_go (fun t_ k_ => XS.aload X94.here hx rfl (hb hby at_98) rfl rfl k_) ?_
  show OwnFin p e below s _ _ _ (T94.setTop (mkF m 100 #[.val (.int pp), .val (.int pq), .val (.long qc1), .second, .val (.long qc2), .second, .val (.int ps1), .val (.int ps2), .val (.int (Int32.ofNat n)), .val (.int kd1), .val (.int kd2), .val (.int (Int32.ofNat i)), .val (.int (Int32.ofNat j)), .val (.int (Int32.ofNat k)), .val (.ref r69), .val (.ref r92), .val (.ref b93), .unset] [(.ref b93)]))
  refine own_go (fun t_ k_ => XS.iload X94.here hx rfl (hb hby at_100) rfl k_) ?_
  show OwnFin p e below s _ _ _ (T94.setTop (mkF m 102 #[.val (.int pp), .val (.int pq), .val (.long qc1), .second, .val (.long qc2), .second, .val (.int ps1), .val (.int ps2), .val (.int (Int32.ofNat n)), .val (.int kd1), .val (.int kd2), .val (.int (Int32.ofNat i)), .val (.int (Int32.ofNat j)), .val (.int (Int32.ofNat k)), .val (.ref r69), .val (.ref r92), .val (.ref b93), .unset] [(.int (Int32.ofNat i)), (.ref b93)]))
  refine own_go (fun t_ k_ => XS.aload X94.here hx rfl (hb hby at_102) rfl rfl k_) ?_
  show OwnFin p e below s _ _ _ (T94.setTop (mkF m 104 #[.val (.int pp), .val (.int pq), .val (.long qc1), .second, .val (.long qc2), .second, .val (.int ps1), .val (.int ps2), .val (.int (Int32.ofNat n)), .val (.int kd1), .val (.int kd2), .val (.int (Int32.ofNat i)), .val (.int (Int32.ofNat j)), .val (.int (Int32.ofNat k)), .val (.ref r69), .val (.ref r92), .val (.ref b93), .unset] [(.ref r69), (.int (Int32.ofNat i)), (.ref b93)]))
  obtain ⟨v95, T95, L95, X95, hQ95, st95⟩ := own_callV X94 hx hZ (y := (⟨"com/example/nearside/nearside/support/SplitDecimalArray", "set", "(ILcom/example/nearside/nearside/support/SplitDecimal;)V"⟩ : MethodName)) (z := (⟨"com/example/nearside/nearside/support/SplitDecimalArray", "set", "(ILcom/example/nearside/nearside/support/SplitDecimal;)V"⟩ : MethodName)) hown (hw _ (List.mem_of_getElem? (i := 24) rfl)) (hw _ (List.mem_of_getElem? (i := 25) rfl)) (notFace_of_selects (args := #[]) (mvT hZ (hw _ (List.mem_of_getElem? (i := 27) rfl)))) (hw _ (List.mem_of_getElem? (i := 27) rfl)) (hw _ (List.mem_of_getElem? (i := 26) rfl)) (hw _ (List.mem_of_getElem? (i := 6) rfl)) (hw _ (List.mem_of_getElem? (i := 28) rfl)) (by decide) (W := 0) (rm5_W0 l Z a0 hw [] b93 (Int32.ofNat i) r69 ca sc n i (fun _ => (-9223372036854775808 : Int64)) (fun _ => (0 : Int32)) T94.heap n0 Z94 rfl hin hn4 E_ao F_compact F_scale F_whole V_ca V_sc E_r69_94 F_compact_r69_94 ne_b93_ca ne_b93_sc ne_ca_sc ne_r69_ca ne_r69_sc (Ne.symm ne_r69_b93) g_b93 g_ca) (by decide) (by decide) E_ao (g := (mkF m 104 #[.val (.int pp), .val (.int pq), .val (.long qc1), .second, .val (.long qc2), .second, .val (.int ps1), .val (.int ps2), .val (.int (Int32.ofNat n)), .val (.int kd1), .val (.int kd2), .val (.int (Int32.ofNat i)), .val (.int (Int32.ofNat j)), .val (.int (Int32.ofNat k)), .val (.ref r69), .val (.ref r92), .val (.ref b93), .unset] [(.ref r69), (.int (Int32.ofNat i)), (.ref b93)])) rfl (by rw [hml]; rfl) (argsL := [(.int (Int32.ofNat i)), (.ref r69)]) (rest := []) (lenOf pd_0_4 rfl) rfl (by show 2 * 0 + _ ≤ _; exact Nat.le_of_eq rfl) (hb hby at_104) rfl rfl (by decide) (by decide)
  obtain ⟨rfl, Nq95, Kq95, wa, szw, neca, nesc, neao, nevo, Fw95, Vc95, Vw95⟩ := hQ95
  have N95 := Fr.app N94 Nq95
  have g_wa : n0 ≤ wa := Nat.le_trans Z94 szw
  have ne_r69_wa : r69 ≠ wa := Nat.ne_of_lt (Nat.lt_of_lt_of_le E_r69_94.lt szw)
  have ne_r92_wa : r92 ≠ wa := Nat.ne_of_lt (Nat.lt_of_lt_of_le E_r92_94.lt szw)
  have ne_b93_wa : b93 ≠ wa := Nat.ne_of_lt (Nat.lt_of_lt_of_le E_ao.lt szw)
  have ne_ca_wa : ca ≠ wa := Nat.ne_of_lt (Nat.lt_of_lt_of_le V_ca.lt szw)
  have ne_sc_wa : sc ≠ wa := Nat.ne_of_lt (Nat.lt_of_lt_of_le V_sc.lt szw)
  have E_r69_95 := E_r69_94.keep Kq95
  have F_compact_r69_95 := F_compact_r69_94.keep Kq95 (ninS ne_r69_b93 (ninS ne_r69_ca nin0))
  have F_scale_r69_95 := F_scale_r69_94.keep Kq95 (ninS ne_r69_b93 (ninS ne_r69_ca nin0))
  have E_r92_95 := E_r92_94.keep Kq95
  have F_compact_r92_95 := F_compact_r92_94.keep Kq95 (ninS ne_r92_b93 (ninS ne_r92_ca nin0))
  have F_scale_r92_95 := F_scale_r92_94.keep Kq95 (ninS ne_r92_b93 (ninS ne_r92_ca nin0))
  have E_ao_95 := E_ao.keep Kq95
  have V_sc_95 := V_sc.keep Kq95 (ninS (Ne.symm ne_b93_sc) (ninS (Ne.symm ne_ca_sc) nin0))
  have Z95 : n0 ≤ T95.heap.size := Nat.le_trans Z94 Kq95.1
  obtain ⟨Fc95, Fs95, Fw95⟩ := Fw95
  refine own_go st95 ?_
  show OwnFin p e below s _ _ _ (T95.setTop (mkF m 107 #[.val (.int pp), .val (.int pq), .val (.long qc1), .second, .val (.long qc2), .second, .val (.int ps1), .val (.int ps2), .val (.int (Int32.ofNat n)), .val (.int kd1), .val (.int kd2), .val (.int (Int32.ofNat i)), .val (.int (Int32.ofNat j)), .val (.int (Int32.ofNat k)), .val (.ref r69), .val (.ref r92), .val (.ref b93), .unset] []))
  refine own_go (fun t_ k_ => XS.aload X95.here hx rfl (hb hby at_107) rfl rfl k_) ?_
  show OwnFin p e below s _ _ _ (T95.setTop (mkF m 109 #[.val (.int pp), .val (.int pq), .val (.long qc1), .second, .val (.long qc2), .second, .val (.int ps1), .val (.int ps2), .val (.int (Int32.ofNat n)), .val (.int kd1), .val (.int kd2), .val (.int (Int32.ofNat i)), .val (.int (Int32.ofNat j)), .val (.int (Int32.ofNat k)), .val (.ref r69), .val (.ref r92), .val (.ref b93), .unset] [(.ref b93)]))
  refine own_go (fun t_ k_ => XS.iload X95.here hx rfl (hb hby at_109) rfl k_) ?_
  show OwnFin p e below s _ _ _ (T95.setTop (mkF m 111 #[.val (.int pp), .val (.int pq), .val (.long qc1), .second, .val (.long qc2), .second, .val (.int ps1), .val (.int ps2), .val (.int (Int32.ofNat n)), .val (.int kd1), .val (.int kd2), .val (.int (Int32.ofNat i)), .val (.int (Int32.ofNat j)), .val (.int (Int32.ofNat k)), .val (.ref r69), .val (.ref r92), .val (.ref b93), .unset] [(.int (Int32.ofNat j)), (.ref b93)]))
  refine own_go (fun t_ k_ => XS.aload X95.here hx rfl (hb hby at_111) rfl rfl k_) ?_
  show OwnFin p e below s _ _ _ (T95.setTop (mkF m 113 #[.val (.int pp), .val (.int pq), .val (.long qc1), .second, .val (.long qc2), .second, .val (.int ps1), .val (.int ps2), .val (.int (Int32.ofNat n)), .val (.int kd1), .val (.int kd2), .val (.int (Int32.ofNat i)), .val (.int (Int32.ofNat j)), .val (.int (Int32.ofNat k)), .val (.ref r69), .val (.ref r92), .val (.ref b93), .unset] [(.ref r92), (.int (Int32.ofNat j)), (.ref b93)]))
  obtain ⟨v96, T96, L96, X96, hQ96, st96⟩ := own_callV X95 hx hZ (y := (⟨"com/example/nearside/nearside/support/SplitDecimalArray", "set", "(ILcom/example/nearside/nearside/support/SplitDecimal;)V"⟩ : MethodName)) (z := (⟨"com/example/nearside/nearside/support/SplitDecimalArray", "set", "(ILcom/example/nearside/nearside/support/SplitDecimal;)V"⟩ : MethodName)) hown (hw _ (List.mem_of_getElem? (i := 24) rfl)) (hw _ (List.mem_of_getElem? (i := 25) rfl)) (notFace_of_selects (args := #[]) (mvT hZ (hw _ (List.mem_of_getElem? (i := 27) rfl)))) (hw _ (List.mem_of_getElem? (i := 27) rfl)) (hw _ (List.mem_of_getElem? (i := 26) rfl)) (hw _ (List.mem_of_getElem? (i := 6) rfl)) (hw _ (List.mem_of_getElem? (i := 28) rfl)) (by decide) (W := 0) (rm5_W1 l Z a0 hw [] b93 (Int32.ofNat j) r92 ca sc wa n j (fun z => if z = i then (-9223372036854775808 : Int64) else (fun _ => (-9223372036854775808 : Int64)) z) (fun _ => (0 : Int32)) (fun z => if z = i then Value.ref r69 else Value.null) T95.heap n0 Z95 rfl hjn hn4 E_ao_95 Fc95 Fs95 Fw95 Vc95 V_sc_95 Vw95 E_r92_95 F_compact_r92_95 ne_b93_ca ne_b93_sc ne_ca_sc ne_b93_wa ne_ca_wa ne_sc_wa ne_r92_ca ne_r92_sc (Ne.symm ne_r92_b93) ne_r92_wa g_ca g_wa) (by decide) (by decide) E_ao_95 (g := (mkF m 113 #[.val (.int pp), .val (.int pq), .val (.long qc1), .second, .val (.long qc2), .second, .val (.int ps1), .val (.int ps2), .val (.int (Int32.ofNat n)), .val (.int kd1), .val (.int kd2), .val (.int (Int32.ofNat i)), .val (.int (Int32.ofNat j)), .val (.int (Int32.ofNat k)), .val (.ref r69), .val (.ref r92), .val (.ref b93), .unset] [(.ref r92), (.int (Int32.ofNat j)), (.ref b93)])) rfl (by rw [hml]; rfl) (argsL := [(.int (Int32.ofNat j)), (.ref r92)]) (rest := []) (lenOf pd_0_4 rfl) rfl (by show 2 * 0 + _ ≤ _; exact Nat.le_of_eq rfl) (hb hby at_113) rfl rfl (by decide) (by decide)
  obtain ⟨rfl, Nq96, Kq96, Vc96, Vw96⟩ := hQ96
  have N96 := Fr.app N95 Nq96
  have E_r69_96 := E_r69_95.keep Kq96
  have F_compact_r69_96 := F_compact_r69_95.keep Kq96 (ninS ne_r69_ca (ninS ne_r69_wa nin0))
  have F_scale_r69_96 := F_scale_r69_95.keep Kq96 (ninS ne_r69_ca (ninS ne_r69_wa nin0))
  have E_r92_96 := E_r92_95.keep Kq96
  have F_compact_r92_96 := F_compact_r92_95.keep Kq96 (ninS ne_r92_ca (ninS ne_r92_wa nin0))
  have F_scale_r92_96 := F_scale_r92_95.keep Kq96 (ninS ne_r92_ca (ninS ne_r92_wa nin0))
  have E_ao_96 := E_ao_95.keep Kq96
  have V_sc_96 := V_sc_95.keep Kq96 (ninS (Ne.symm ne_ca_sc) (ninS ne_sc_wa nin0))
  have Fc95_96 := Fc95.keep Kq96 (ninS ne_b93_ca (ninS ne_b93_wa nin0))
  have Fs95_96 := Fs95.keep Kq96 (ninS ne_b93_ca (ninS ne_b93_wa nin0))
  have Fw95_96 := Fw95.keep Kq96 (ninS ne_b93_ca (ninS ne_b93_wa nin0))
  have Z96 : n0 ≤ T96.heap.size := Nat.le_trans Z95 Kq96.1
  refine own_go st96 ?_
  show OwnFin p e below s _ _ _ (T96.setTop (mkF m 116 #[.val (.int pp), .val (.int pq), .val (.long qc1), .second, .val (.long qc2), .second, .val (.int ps1), .val (.int ps2), .val (.int (Int32.ofNat n)), .val (.int kd1), .val (.int kd2), .val (.int (Int32.ofNat i)), .val (.int (Int32.ofNat j)), .val (.int (Int32.ofNat k)), .val (.ref r69), .val (.ref r92), .val (.ref b93), .unset] []))
  refine own_go (fun t_ k_ => XS.aload X96.here hx rfl (hb hby at_116) rfl rfl k_) ?_
  show OwnFin p e below s _ _ _ (T96.setTop (mkF m 118 #[.val (.int pp), .val (.int pq), .val (.long qc1), .second, .val (.long qc2), .second, .val (.int ps1), .val (.int ps2), .val (.int (Int32.ofNat n)), .val (.int kd1), .val (.int kd2), .val (.int (Int32.ofNat i)), .val (.int (Int32.ofNat j)), .val (.int (Int32.ofNat k)), .val (.ref r69), .val (.ref r92), .val (.ref b93), .unset] [(.ref b93)]))
  refine own_go (fun t_ k_ => XS.iload X96.here hx rfl (hb hby at_118) rfl k_) ?_
  show OwnFin p e below s _ _ _ (T96.setTop (mkF m 120 #[.val (.int pp), .val (.int pq), .val (.long qc1), .second, .val (.long qc2), .second, .val (.int ps1), .val (.int ps2), .val (.int (Int32.ofNat n)), .val (.int kd1), .val (.int kd2), .val (.int (Int32.ofNat i)), .val (.int (Int32.ofNat j)), .val (.int (Int32.ofNat k)), .val (.ref r69), .val (.ref r92), .val (.ref b93), .unset] [(.int (Int32.ofNat j)), (.ref b93)]))
  obtain ⟨v97, T97, L97, X97, hQ97, st97⟩ := own_callV X96 hx hZ (y := (⟨"com/example/nearside/nearside/support/SplitDecimalArray", "get", "(I)Lcom/example/nearside/nearside/support/SplitDecimal;"⟩ : MethodName)) (z := (⟨"com/example/nearside/nearside/support/SplitDecimalArray", "get", "(I)Lcom/example/nearside/nearside/support/SplitDecimal;"⟩ : MethodName)) hown (hw _ (List.mem_of_getElem? (i := 31) rfl)) (hw _ (List.mem_of_getElem? (i := 32) rfl)) (notFace_of_selects (args := #[]) (mvT hZ (hw _ (List.mem_of_getElem? (i := 34) rfl)))) (hw _ (List.mem_of_getElem? (i := 34) rfl)) (hw _ (List.mem_of_getElem? (i := 33) rfl)) (hw _ (List.mem_of_getElem? (i := 6) rfl)) (hw _ (List.mem_of_getElem? (i := 35) rfl)) (by decide) (W := 0) (rm6_W l Z a0 hw [] b93 (Int32.ofNat j) ca wa n j (fun z => if z = j then (-9223372036854775808 : Int64) else (fun z => if z = i then (-9223372036854775808 : Int64) else (fun _ => (-9223372036854775808 : Int64)) z) z) (fun z => if z = j then Value.ref r92 else (fun z => if z = i then Value.ref r69 else Value.null) z) r92 T96.heap n0 Z96 rfl hjn Fc95_96 Fw95_96 Vc96 (by (try dsimp only); rw [if_pos rfl]) Vw96 (by (try dsimp only); rw [if_pos rfl])) (by decide) (by decide) E_ao_96 (g := (mkF m 120 #[.val (.int pp), .val (.int pq), .val (.long qc1), .second, .val (.long qc2), .second, .val (.int ps1), .val (.int ps2), .val (.int (Int32.ofNat n)), .val (.int kd1), .val (.int kd2), .val (.int (Int32.ofNat i)), .val (.int (Int32.ofNat j)), .val (.int (Int32.ofNat k)), .val (.ref r69), .val (.ref r92), .val (.ref b93), .unset] [(.int (Int32.ofNat j)), (.ref b93)])) rfl (by rw [hml]; rfl) (argsL := [(.int (Int32.ofNat j))]) (rest := []) (lenOf pd_0_5 rfl) rfl (by show 2 * 0 + _ ≤ _; exact Nat.le_of_eq rfl) (hb hby at_120) rfl rfl (by decide) (by decide)
  obtain ⟨rfl, Nq97, e97⟩ := hQ97
  have N97 := Fr.app N96 Nq97
  refine own_go st97 ?_
  show OwnFin p e below s _ _ _ (T97.setTop (mkF m 123 #[.val (.int pp), .val (.int pq), .val (.long qc1), .second, .val (.long qc2), .second, .val (.int ps1), .val (.int ps2), .val (.int (Int32.ofNat n)), .val (.int kd1), .val (.int kd2), .val (.int (Int32.ofNat i)), .val (.int (Int32.ofNat j)), .val (.int (Int32.ofNat k)), .val (.ref r69), .val (.ref r92), .val (.ref b93), .unset] [(.ref r92)]))
  refine own_go (fun t_ k_ => XS.aload X97.here hx rfl (hb hby at_123) rfl rfl k_) ?_
  show OwnFin p e below s _ _ _ (T97.setTop (mkF m 125 #[.val (.int pp), .val (.int pq), .val (.long qc1), .second, .val (.long qc2), .second, .val (.int ps1), .val (.int ps2), .val (.int (Int32.ofNat n)), .val (.int kd1), .val (.int kd2), .val (.int (Int32.ofNat i)), .val (.int (Int32.ofNat j)), .val (.int (Int32.ofNat k)), .val (.ref r69), .val (.ref r92), .val (.ref b93), .unset] [(.ref r92), (.ref r92)]))
  obtain ⟨v98, T98, L98, X98, hQ98, st98⟩ := own_callS X97 hx hZ (y := (⟨"com/example/nearside/nearside/support/SplitDecimalArraySetPinLaw", "holds", "(Lcom/example/nearside/nearside/support/SplitDecimal;Lcom/example/nearside/nearside/support/SplitDecimal;)Z"⟩ : MethodName)) hown (hw _ (List.mem_of_getElem? (i := 36) rfl)) (hw _ (List.mem_of_getElem? (i := 37) rfl)) (hw _ (List.mem_of_getElem? (i := 2) rfl)) (hw _ (List.mem_of_getElem? (i := 38) rfl)) (by decide) (W := 0) (rm7_W l Z a0 hw [] r92 T96.heap n0 Z96 F_compact_r92_96) (by decide) (by decide) (g := (mkF m 125 #[.val (.int pp), .val (.int pq), .val (.long qc1), .second, .val (.long qc2), .second, .val (.int ps1), .val (.int ps2), .val (.int (Int32.ofNat n)), .val (.int kd1), .val (.int kd2), .val (.int (Int32.ofNat i)), .val (.int (Int32.ofNat j)), .val (.int (Int32.ofNat k)), .val (.ref r69), .val (.ref r92), .val (.ref b93), .unset] [(.ref r92), (.ref r92)])) rfl (by rw [hml]; rfl) (argsL := [(.ref r92), (.ref r92)]) (rest := []) (lenOf pd_0_6 rfl) rfl (by show 2 * 0 + _ ≤ _; exact Nat.le_of_eq rfl) (hb hby at_125) e97 rfl (by decide) (by decide)
  obtain ⟨rfl, Nq98, e98⟩ := hQ98
  have N98 := Fr.app N97 Nq98
  refine own_go st98 ?_
  show OwnFin p e below s _ _ _ (T98.setTop (mkF m 128 #[.val (.int pp), .val (.int pq), .val (.long qc1), .second, .val (.long qc2), .second, .val (.int ps1), .val (.int ps2), .val (.int (Int32.ofNat n)), .val (.int kd1), .val (.int kd2), .val (.int (Int32.ofNat i)), .val (.int (Int32.ofNat j)), .val (.int (Int32.ofNat k)), .val (.ref r69), .val (.ref r92), .val (.ref b93), .unset] [(.int (1 : Int32))]))
  refine own_go (fun t_ k_ => XS.istore X98.here hx rfl (hb hby at_128) rfl (l' := #[.val (.int pp), .val (.int pq), .val (.long qc1), .second, .val (.long qc2), .second, .val (.int ps1), .val (.int ps2), .val (.int (Int32.ofNat n)), .val (.int kd1), .val (.int kd2), .val (.int (Int32.ofNat i)), .val (.int (Int32.ofNat j)), .val (.int (Int32.ofNat k)), .val (.ref r69), .val (.ref r92), .val (.ref b93), .val (.int (1 : Int32))]) rfl k_) ?_
  show OwnFin p e below s _ _ _ (T98.setTop (mkF m 130 #[.val (.int pp), .val (.int pq), .val (.long qc1), .second, .val (.long qc2), .second, .val (.int ps1), .val (.int ps2), .val (.int (Int32.ofNat n)), .val (.int kd1), .val (.int kd2), .val (.int (Int32.ofNat i)), .val (.int (Int32.ofNat j)), .val (.int (Int32.ofNat k)), .val (.ref r69), .val (.ref r92), .val (.ref b93), .val (.int (1 : Int32))] []))
  by_cases hij : i = j
  · refine own_go (fun t_ k_ => XS.iload X98.here hx rfl (hb hby at_130) rfl k_) ?_
    show OwnFin p e below s _ _ _ (T98.setTop (mkF m 132 #[.val (.int pp), .val (.int pq), .val (.long qc1), .second, .val (.long qc2), .second, .val (.int ps1), .val (.int ps2), .val (.int (Int32.ofNat n)), .val (.int kd1), .val (.int kd2), .val (.int (Int32.ofNat i)), .val (.int (Int32.ofNat j)), .val (.int (Int32.ofNat k)), .val (.ref r69), .val (.ref r92), .val (.ref b93), .val (.int (1 : Int32))] [(.int (Int32.ofNat i))]))
    refine own_go (fun t_ k_ => XS.iload X98.here hx rfl (hb hby at_132) rfl k_) ?_
    show OwnFin p e below s _ _ _ (T98.setTop (mkF m 134 #[.val (.int pp), .val (.int pq), .val (.long qc1), .second, .val (.long qc2), .second, .val (.int ps1), .val (.int ps2), .val (.int (Int32.ofNat n)), .val (.int kd1), .val (.int kd2), .val (.int (Int32.ofNat i)), .val (.int (Int32.ofNat j)), .val (.int (Int32.ofNat k)), .val (.ref r69), .val (.ref r92), .val (.ref b93), .val (.int (1 : Int32))] [(.int (Int32.ofNat j)), (.int (Int32.ofNat i))]))
    have hc134 : (Int32.ofNat i) = (Int32.ofNat j) := by rw [hij]
    refine own_go (fun t_ k_ => XS.icmpYes X98.here hx rfl (pc0 := 134) (pc' := 164) rfl (hb hby at_134) rfl (teq hc134).1 (by decide) (by decide) k_) ?_
    show OwnFin p e below s _ _ _ (T98.setTop (mkF m 164 #[.val (.int pp), .val (.int pq), .val (.long qc1), .second, .val (.long qc2), .second, .val (.int ps1), .val (.int ps2), .val (.int (Int32.ofNat n)), .val (.int kd1), .val (.int kd2), .val (.int (Int32.ofNat i)), .val (.int (Int32.ofNat j)), .val (.int (Int32.ofNat k)), .val (.ref r69), .val (.ref r92), .val (.ref b93), .val (.int (1 : Int32))] []))
    by_cases hki : k = i
    · refine own_go (fun t_ k_ => XS.iload X98.here hx rfl (hb hby at_164) rfl k_) ?_
      show OwnFin p e below s _ _ _ (T98.setTop (mkF m 166 #[.val (.int pp), .val (.int pq), .val (.long qc1), .second, .val (.long qc2), .second, .val (.int ps1), .val (.int ps2), .val (.int (Int32.ofNat n)), .val (.int kd1), .val (.int kd2), .val (.int (Int32.ofNat i)), .val (.int (Int32.ofNat j)), .val (.int (Int32.ofNat k)), .val (.ref r69), .val (.ref r92), .val (.ref b93), .val (.int (1 : Int32))] [(.int (Int32.ofNat k))]))
      refine own_go (fun t_ k_ => XS.iload X98.here hx rfl (hb hby at_166) rfl k_) ?_
      show OwnFin p e below s _ _ _ (T98.setTop (mkF m 168 #[.val (.int pp), .val (.int pq), .val (.long qc1), .second, .val (.long qc2), .second, .val (.int ps1), .val (.int ps2), .val (.int (Int32.ofNat n)), .val (.int kd1), .val (.int kd2), .val (.int (Int32.ofNat i)), .val (.int (Int32.ofNat j)), .val (.int (Int32.ofNat k)), .val (.ref r69), .val (.ref r92), .val (.ref b93), .val (.int (1 : Int32))] [(.int (Int32.ofNat i)), (.int (Int32.ofNat k))]))
      have hc168 : (Int32.ofNat k) = (Int32.ofNat i) := by rw [hki]
      refine own_go (fun t_ k_ => XS.icmpYes X98.here hx rfl (pc0 := 168) (pc' := 200) rfl (hb hby at_168) rfl (teq hc168).1 (by decide) (by decide) k_) ?_
      show OwnFin p e below s _ _ _ (T98.setTop (mkF m 200 #[.val (.int pp), .val (.int pq), .val (.long qc1), .second, .val (.long qc2), .second, .val (.int ps1), .val (.int ps2), .val (.int (Int32.ofNat n)), .val (.int kd1), .val (.int kd2), .val (.int (Int32.ofNat i)), .val (.int (Int32.ofNat j)), .val (.int (Int32.ofNat k)), .val (.ref r69), .val (.ref r92), .val (.ref b93), .val (.int (1 : Int32))] []))
      refine own_go (fun t_ k_ => XS.iload X98.here hx rfl (hb hby at_200) rfl k_) ?_
      show OwnFin p e below s _ _ _ (T98.setTop (mkF m 202 #[.val (.int pp), .val (.int pq), .val (.long qc1), .second, .val (.long qc2), .second, .val (.int ps1), .val (.int ps2), .val (.int (Int32.ofNat n)), .val (.int kd1), .val (.int kd2), .val (.int (Int32.ofNat i)), .val (.int (Int32.ofNat j)), .val (.int (Int32.ofNat k)), .val (.ref r69), .val (.ref r92), .val (.ref b93), .val (.int (1 : Int32))] [(.int (1 : Int32))]))
      refine own_ret X98 (v := some (.int (1 : Int32))) hlk (fun hh => by rw [hret] at hh; cases hh) (fun fs hr => retN X98 hx (t := .boolean) hret (by simp) (hb hby at_202) hr) (by decide) (by decide) ?_
      exact ⟨rfl, N98⟩
    · refine own_go (fun t_ k_ => XS.iload X98.here hx rfl (hb hby at_164) rfl k_) ?_
      show OwnFin p e below s _ _ _ (T98.setTop (mkF m 166 #[.val (.int pp), .val (.int pq), .val (.long qc1), .second, .val (.long qc2), .second, .val (.int ps1), .val (.int ps2), .val (.int (Int32.ofNat n)), .val (.int kd1), .val (.int kd2), .val (.int (Int32.ofNat i)), .val (.int (Int32.ofNat j)), .val (.int (Int32.ofNat k)), .val (.ref r69), .val (.ref r92), .val (.ref b93), .val (.int (1 : Int32))] [(.int (Int32.ofNat k))]))
      refine own_go (fun t_ k_ => XS.iload X98.here hx rfl (hb hby at_166) rfl k_) ?_
      show OwnFin p e below s _ _ _ (T98.setTop (mkF m 168 #[.val (.int pp), .val (.int pq), .val (.long qc1), .second, .val (.long qc2), .second, .val (.int ps1), .val (.int ps2), .val (.int (Int32.ofNat n)), .val (.int kd1), .val (.int kd2), .val (.int (Int32.ofNat i)), .val (.int (Int32.ofNat j)), .val (.int (Int32.ofNat k)), .val (.ref r69), .val (.ref r92), .val (.ref b93), .val (.int (1 : Int32))] [(.int (Int32.ofNat i)), (.int (Int32.ofNat k))]))
      have hc168 : ¬ ((Int32.ofNat k) = (Int32.ofNat i)) := fun q => hki (own_ofNat_inj (by omega) (by omega) q)
      refine own_go (fun t_ k_ => XS.icmpNo X98.here hx rfl (hb hby at_168) rfl (feq hc168).1 k_) ?_
      show OwnFin p e below s _ _ _ (T98.setTop (mkF m 171 #[.val (.int pp), .val (.int pq), .val (.long qc1), .second, .val (.long qc2), .second, .val (.int ps1), .val (.int ps2), .val (.int (Int32.ofNat n)), .val (.int kd1), .val (.int kd2), .val (.int (Int32.ofNat i)), .val (.int (Int32.ofNat j)), .val (.int (Int32.ofNat k)), .val (.ref r69), .val (.ref r92), .val (.ref b93), .val (.int (1 : Int32))] []))
      by_cases hkj : k = j
      · refine own_go (fun t_ k_ => XS.iload X98.here hx rfl (hb hby at_171) rfl k_) ?_
        show OwnFin p e below s _ _ _ (T98.setTop (mkF m 173 #[.val (.int pp), .val (.int pq), .val (.long qc1), .second, .val (.long qc2), .second, .val (.int ps1), .val (.int ps2), .val (.int (Int32.ofNat n)), .val (.int kd1), .val (.int kd2), .val (.int (Int32.ofNat i)), .val (.int (Int32.ofNat j)), .val (.int (Int32.ofNat k)), .val (.ref r69), .val (.ref r92), .val (.ref b93), .val (.int (1 : Int32))] [(.int (Int32.ofNat k))]))
        refine own_go (fun t_ k_ => XS.iload X98.here hx rfl (hb hby at_173) rfl k_) ?_
        show OwnFin p e below s _ _ _ (T98.setTop (mkF m 175 #[.val (.int pp), .val (.int pq), .val (.long qc1), .second, .val (.long qc2), .second, .val (.int ps1), .val (.int ps2), .val (.int (Int32.ofNat n)), .val (.int kd1), .val (.int kd2), .val (.int (Int32.ofNat i)), .val (.int (Int32.ofNat j)), .val (.int (Int32.ofNat k)), .val (.ref r69), .val (.ref r92), .val (.ref b93), .val (.int (1 : Int32))] [(.int (Int32.ofNat j)), (.int (Int32.ofNat k))]))
        have hc175 : (Int32.ofNat k) = (Int32.ofNat j) := by rw [hkj]
        refine own_go (fun t_ k_ => XS.icmpYes X98.here hx rfl (pc0 := 175) (pc' := 200) rfl (hb hby at_175) rfl (teq hc175).1 (by decide) (by decide) k_) ?_
        show OwnFin p e below s _ _ _ (T98.setTop (mkF m 200 #[.val (.int pp), .val (.int pq), .val (.long qc1), .second, .val (.long qc2), .second, .val (.int ps1), .val (.int ps2), .val (.int (Int32.ofNat n)), .val (.int kd1), .val (.int kd2), .val (.int (Int32.ofNat i)), .val (.int (Int32.ofNat j)), .val (.int (Int32.ofNat k)), .val (.ref r69), .val (.ref r92), .val (.ref b93), .val (.int (1 : Int32))] []))
        refine own_go (fun t_ k_ => XS.iload X98.here hx rfl (hb hby at_200) rfl k_) ?_
        show OwnFin p e below s _ _ _ (T98.setTop (mkF m 202 #[.val (.int pp), .val (.int pq), .val (.long qc1), .second, .val (.long qc2), .second, .val (.int ps1), .val (.int ps2), .val (.int (Int32.ofNat n)), .val (.int kd1), .val (.int kd2), .val (.int (Int32.ofNat i)), .val (.int (Int32.ofNat j)), .val (.int (Int32.ofNat k)), .val (.ref r69), .val (.ref r92), .val (.ref b93), .val (.int (1 : Int32))] [(.int (1 : Int32))]))
        refine own_ret X98 (v := some (.int (1 : Int32))) hlk (fun hh => by rw [hret] at hh; cases hh) (fun fs hr => retN X98 hx (t := .boolean) hret (by simp) (hb hby at_202) hr) (by decide) (by decide) ?_
        exact ⟨rfl, N98⟩
      · refine own_go (fun t_ k_ => XS.iload X98.here hx rfl (hb hby at_171) rfl k_) ?_
        show OwnFin p e below s _ _ _ (T98.setTop (mkF m 173 #[.val (.int pp), .val (.int pq), .val (.long qc1), .second, .val (.long qc2), .second, .val (.int ps1), .val (.int ps2), .val (.int (Int32.ofNat n)), .val (.int kd1), .val (.int kd2), .val (.int (Int32.ofNat i)), .val (.int (Int32.ofNat j)), .val (.int (Int32.ofNat k)), .val (.ref r69), .val (.ref r92), .val (.ref b93), .val (.int (1 : Int32))] [(.int (Int32.ofNat k))]))
        refine own_go (fun t_ k_ => XS.iload X98.here hx rfl (hb hby at_173) rfl k_) ?_
        show OwnFin p e below s _ _ _ (T98.setTop (mkF m 175 #[.val (.int pp), .val (.int pq), .val (.long qc1), .second, .val (.long qc2), .second, .val (.int ps1), .val (.int ps2), .val (.int (Int32.ofNat n)), .val (.int kd1), .val (.int kd2), .val (.int (Int32.ofNat i)), .val (.int (Int32.ofNat j)), .val (.int (Int32.ofNat k)), .val (.ref r69), .val (.ref r92), .val (.ref b93), .val (.int (1 : Int32))] [(.int (Int32.ofNat j)), (.int (Int32.ofNat k))]))
        have hc175 : ¬ ((Int32.ofNat k) = (Int32.ofNat j)) := fun q => hkj (own_ofNat_inj (by omega) (by omega) q)
        refine own_go (fun t_ k_ => XS.icmpNo X98.here hx rfl (hb hby at_175) rfl (feq hc175).1 k_) ?_
        show OwnFin p e below s _ _ _ (T98.setTop (mkF m 178 #[.val (.int pp), .val (.int pq), .val (.long qc1), .second, .val (.long qc2), .second, .val (.int ps1), .val (.int ps2), .val (.int (Int32.ofNat n)), .val (.int kd1), .val (.int kd2), .val (.int (Int32.ofNat i)), .val (.int (Int32.ofNat j)), .val (.int (Int32.ofNat k)), .val (.ref r69), .val (.ref r92), .val (.ref b93), .val (.int (1 : Int32))] []))
        refine own_go (fun t_ k_ => XS.iload X98.here hx rfl (hb hby at_178) rfl k_) ?_
        show OwnFin p e below s _ _ _ (T98.setTop (mkF m 180 #[.val (.int pp), .val (.int pq), .val (.long qc1), .second, .val (.long qc2), .second, .val (.int ps1), .val (.int ps2), .val (.int (Int32.ofNat n)), .val (.int kd1), .val (.int kd2), .val (.int (Int32.ofNat i)), .val (.int (Int32.ofNat j)), .val (.int (Int32.ofNat k)), .val (.ref r69), .val (.ref r92), .val (.ref b93), .val (.int (1 : Int32))] [(.int (1 : Int32))]))
        refine own_go (fun t_ k_ => XS.ifNo X98.here hx rfl (hb hby at_180) rfl ((if0 _ _).trans (feq (by decide)).1) k_) ?_
        show OwnFin p e below s _ _ _ (T98.setTop (mkF m 183 #[.val (.int pp), .val (.int pq), .val (.long qc1), .second, .val (.long qc2), .second, .val (.int ps1), .val (.int ps2), .val (.int (Int32.ofNat n)), .val (.int kd1), .val (.int kd2), .val (.int (Int32.ofNat i)), .val (.int (Int32.ofNat j)), .val (.int (Int32.ofNat k)), .val (.ref r69), .val (.ref r92), .val (.ref b93), .val (.int (1 : Int32))] []))
        refine own_go (fun t_ k_ => XS.aload X98.here hx rfl (hb hby at_183) rfl rfl k_) ?_
        show OwnFin p e below s _ _ _ (T98.setTop (mkF m 185 #[.val (.int pp), .val (.int pq), .val (.long qc1), .second, .val (.long qc2), .second, .val (.int ps1), .val (.int ps2), .val (.int (Int32.ofNat n)), .val (.int kd1), .val (.int kd2), .val (.int (Int32.ofNat i)), .val (.int (Int32.ofNat j)), .val (.int (Int32.ofNat k)), .val (.ref r69), .val (.ref r92), .val (.ref b93), .val (.int (1 : Int32))] [(.ref b93)]))
        refine own_go (fun t_ k_ => XS.iload X98.here hx rfl (hb hby at_185) rfl k_) ?_
        show OwnFin p e below s _ _ _ (T98.setTop (mkF m 187 #[.val (.int pp), .val (.int pq), .val (.long qc1), .second, .val (.long qc2), .second, .val (.int ps1), .val (.int ps2), .val (.int (Int32.ofNat n)), .val (.int kd1), .val (.int kd2), .val (.int (Int32.ofNat i)), .val (.int (Int32.ofNat j)), .val (.int (Int32.ofNat k)), .val (.ref r69), .val (.ref r92), .val (.ref b93), .val (.int (1 : Int32))] [(.int (Int32.ofNat k)), (.ref b93)]))
        obtain ⟨v99, T99, L99, X99, hQ99, st99⟩ := own_callV X98 hx hZ (y := (⟨"com/example/nearside/nearside/support/SplitDecimalArray", "get", "(I)Lcom/example/nearside/nearside/support/SplitDecimal;"⟩ : MethodName)) (z := (⟨"com/example/nearside/nearside/support/SplitDecimalArray", "get", "(I)Lcom/example/nearside/nearside/support/SplitDecimal;"⟩ : MethodName)) hown (hw _ (List.mem_of_getElem? (i := 31) rfl)) (hw _ (List.mem_of_getElem? (i := 32) rfl)) (notFace_of_selects (args := #[]) (mvT hZ (hw _ (List.mem_of_getElem? (i := 34) rfl)))) (hw _ (List.mem_of_getElem? (i := 34) rfl)) (hw _ (List.mem_of_getElem? (i := 33) rfl)) (hw _ (List.mem_of_getElem? (i := 6) rfl)) (hw _ (List.mem_of_getElem? (i := 35) rfl)) (by decide) (W := 0) (rm6_V l Z a0 hw [] b93 (Int32.ofNat k) ca wa n k (fun z => if z = j then (-9223372036854775808 : Int64) else (fun z => if z = i then (-9223372036854775808 : Int64) else (fun _ => (-9223372036854775808 : Int64)) z) z) (fun z => if z = j then Value.ref r92 else (fun z => if z = i then Value.ref r69 else Value.null) z) T96.heap n0 Z96 rfl hkn Fc95_96 Fw95_96 Vc96 (by (try dsimp only); rw [if_neg hkj, if_neg hki]) Vw96 (by (try dsimp only); rw [if_neg hkj, if_neg hki])) (by decide) (by decide) E_ao_96 (g := (mkF m 187 #[.val (.int pp), .val (.int pq), .val (.long qc1), .second, .val (.long qc2), .second, .val (.int ps1), .val (.int ps2), .val (.int (Int32.ofNat n)), .val (.int kd1), .val (.int kd2), .val (.int (Int32.ofNat i)), .val (.int (Int32.ofNat j)), .val (.int (Int32.ofNat k)), .val (.ref r69), .val (.ref r92), .val (.ref b93), .val (.int (1 : Int32))] [(.int (Int32.ofNat k)), (.ref b93)])) rfl (by rw [hml]; rfl) (argsL := [(.int (Int32.ofNat k))]) (rest := []) (lenOf pd_0_5 rfl) rfl (by show 2 * 0 + _ ≤ _; exact Nat.le_of_eq rfl) (hb hby at_187) e98 rfl (by decide) (by decide)
        obtain ⟨rfl, Nq99, e99⟩ := hQ99
        have N99 := Fr.app N98 Nq99
        refine own_go st99 ?_
        show OwnFin p e below s _ _ _ (T99.setTop (mkF m 190 #[.val (.int pp), .val (.int pq), .val (.long qc1), .second, .val (.long qc2), .second, .val (.int ps1), .val (.int ps2), .val (.int (Int32.ofNat n)), .val (.int kd1), .val (.int kd2), .val (.int (Int32.ofNat i)), .val (.int (Int32.ofNat j)), .val (.int (Int32.ofNat k)), .val (.ref r69), .val (.ref r92), .val (.ref b93), .val (.int (1 : Int32))] [.null]))
        refine own_go (fun t_ k_ => XS.ifnonnullNo X99.here hx rfl (hb hby at_190) rfl k_) ?_
        show OwnFin p e below s _ _ _ (T99.setTop (mkF m 193 #[.val (.int pp), .val (.int pq), .val (.long qc1), .second, .val (.long qc2), .second, .val (.int ps1), .val (.int ps2), .val (.int (Int32.ofNat n)), .val (.int kd1), .val (.int kd2), .val (.int (Int32.ofNat i)), .val (.int (Int32.ofNat j)), .val (.int (Int32.ofNat k)), .val (.ref r69), .val (.ref r92), .val (.ref b93), .val (.int (1 : Int32))] []))
        refine own_go (fun t_ k_ => XS.iconst X99.here hx rfl (hb hby at_193) k_) ?_
        show OwnFin p e below s _ _ _ (T99.setTop (mkF m 194 #[.val (.int pp), .val (.int pq), .val (.long qc1), .second, .val (.long qc2), .second, .val (.int ps1), .val (.int ps2), .val (.int (Int32.ofNat n)), .val (.int kd1), .val (.int kd2), .val (.int (Int32.ofNat i)), .val (.int (Int32.ofNat j)), .val (.int (Int32.ofNat k)), .val (.ref r69), .val (.ref r92), .val (.ref b93), .val (.int (1 : Int32))] [(.int (1 : Int32))]))
        refine own_go (fun t_ k_ => XS.goto X99.here hx rfl (pc0 := 194) (pc' := 198) rfl (hb hby at_194) (by decide) (by decide) k_) ?_
        show OwnFin p e below s _ _ _ (T99.setTop (mkF m 198 #[.val (.int pp), .val (.int pq), .val (.long qc1), .second, .val (.long qc2), .second, .val (.int ps1), .val (.int ps2), .val (.int (Int32.ofNat n)), .val (.int kd1), .val (.int kd2), .val (.int (Int32.ofNat i)), .val (.int (Int32.ofNat j)), .val (.int (Int32.ofNat k)), .val (.ref r69), .val (.ref r92), .val (.ref b93), .val (.int (1 : Int32))] [(.int (1 : Int32))]))
        refine own_go (fun t_ k_ => XS.istore X99.here hx rfl (hb hby at_198) rfl (l' := #[.val (.int pp), .val (.int pq), .val (.long qc1), .second, .val (.long qc2), .second, .val (.int ps1), .val (.int ps2), .val (.int (Int32.ofNat n)), .val (.int kd1), .val (.int kd2), .val (.int (Int32.ofNat i)), .val (.int (Int32.ofNat j)), .val (.int (Int32.ofNat k)), .val (.ref r69), .val (.ref r92), .val (.ref b93), .val (.int (1 : Int32))]) rfl k_) ?_
        show OwnFin p e below s _ _ _ (T99.setTop (mkF m 200 #[.val (.int pp), .val (.int pq), .val (.long qc1), .second, .val (.long qc2), .second, .val (.int ps1), .val (.int ps2), .val (.int (Int32.ofNat n)), .val (.int kd1), .val (.int kd2), .val (.int (Int32.ofNat i)), .val (.int (Int32.ofNat j)), .val (.int (Int32.ofNat k)), .val (.ref r69), .val (.ref r92), .val (.ref b93), .val (.int (1 : Int32))] []))
        refine own_go (fun t_ k_ => XS.iload X99.here hx rfl (hb hby at_200) rfl k_) ?_
        show OwnFin p e below s _ _ _ (T99.setTop (mkF m 202 #[.val (.int pp), .val (.int pq), .val (.long qc1), .second, .val (.long qc2), .second, .val (.int ps1), .val (.int ps2), .val (.int (Int32.ofNat n)), .val (.int kd1), .val (.int kd2), .val (.int (Int32.ofNat i)), .val (.int (Int32.ofNat j)), .val (.int (Int32.ofNat k)), .val (.ref r69), .val (.ref r92), .val (.ref b93), .val (.int (1 : Int32))] [(.int (1 : Int32))]))
        refine own_ret X99 (v := some (.int (1 : Int32))) hlk (fun hh => by rw [hret] at hh; cases hh) (fun fs hr => retN X99 hx (t := .boolean) hret (by simp) (hb hby at_202) hr) (by decide) (by decide) ?_
        exact ⟨rfl, N99⟩
  · refine own_go (fun t_ k_ => XS.iload X98.here hx rfl (hb hby at_130) rfl k_) ?_
    show OwnFin p e below s _ _ _ (T98.setTop (mkF m 132 #[.val (.int pp), .val (.int pq), .val (.long qc1), .second, .val (.long qc2), .second, .val (.int ps1), .val (.int ps2), .val (.int (Int32.ofNat n)), .val (.int kd1), .val (.int kd2), .val (.int (Int32.ofNat i)), .val (.int (Int32.ofNat j)), .val (.int (Int32.ofNat k)), .val (.ref r69), .val (.ref r92), .val (.ref b93), .val (.int (1 : Int32))] [(.int (Int32.ofNat i))]))
    refine own_go (fun t_ k_ => XS.iload X98.here hx rfl (hb hby at_132) rfl k_) ?_
    show OwnFin p e below s _ _ _ (T98.setTop (mkF m 134 #[.val (.int pp), .val (.int pq), .val (.long qc1), .second, .val (.long qc2), .second, .val (.int ps1), .val (.int ps2), .val (.int (Int32.ofNat n)), .val (.int kd1), .val (.int kd2), .val (.int (Int32.ofNat i)), .val (.int (Int32.ofNat j)), .val (.int (Int32.ofNat k)), .val (.ref r69), .val (.ref r92), .val (.ref b93), .val (.int (1 : Int32))] [(.int (Int32.ofNat j)), (.int (Int32.ofNat i))]))
    have hc134 : ¬ ((Int32.ofNat i) = (Int32.ofNat j)) := fun q => hij (own_ofNat_inj (by omega) (by omega) q)
    refine own_go (fun t_ k_ => XS.icmpNo X98.here hx rfl (hb hby at_134) rfl (feq hc134).1 k_) ?_
    show OwnFin p e below s _ _ _ (T98.setTop (mkF m 137 #[.val (.int pp), .val (.int pq), .val (.long qc1), .second, .val (.long qc2), .second, .val (.int ps1), .val (.int ps2), .val (.int (Int32.ofNat n)), .val (.int kd1), .val (.int kd2), .val (.int (Int32.ofNat i)), .val (.int (Int32.ofNat j)), .val (.int (Int32.ofNat k)), .val (.ref r69), .val (.ref r92), .val (.ref b93), .val (.int (1 : Int32))] []))
    refine own_go (fun t_ k_ => XS.iload X98.here hx rfl (hb hby at_137) rfl k_) ?_
    show OwnFin p e below s _ _ _ (T98.setTop (mkF m 139 #[.val (.int pp), .val (.int pq), .val (.long qc1), .second, .val (.long qc2), .second, .val (.int ps1), .val (.int ps2), .val (.int (Int32.ofNat n)), .val (.int kd1), .val (.int kd2), .val (.int (Int32.ofNat i)), .val (.int (Int32.ofNat j)), .val (.int (Int32.ofNat k)), .val (.ref r69), .val (.ref r92), .val (.ref b93), .val (.int (1 : Int32))] [(.int (1 : Int32))]))
    refine own_go (fun t_ k_ => XS.ifNo X98.here hx rfl (hb hby at_139) rfl ((if0 _ _).trans (feq (by decide)).1) k_) ?_
    show OwnFin p e below s _ _ _ (T98.setTop (mkF m 142 #[.val (.int pp), .val (.int pq), .val (.long qc1), .second, .val (.long qc2), .second, .val (.int ps1), .val (.int ps2), .val (.int (Int32.ofNat n)), .val (.int kd1), .val (.int kd2), .val (.int (Int32.ofNat i)), .val (.int (Int32.ofNat j)), .val (.int (Int32.ofNat k)), .val (.ref r69), .val (.ref r92), .val (.ref b93), .val (.int (1 : Int32))] []))
    refine own_go (fun t_ k_ => XS.aload X98.here hx rfl (hb hby at_142) rfl rfl k_) ?_
    show OwnFin p e below s _ _ _ (T98.setTop (mkF m 144 #[.val (.int pp), .val (.int pq), .val (.long qc1), .second, .val (.long qc2), .second, .val (.int ps1), .val (.int ps2), .val (.int (Int32.ofNat n)), .val (.int kd1), .val (.int kd2), .val (.int (Int32.ofNat i)), .val (.int (Int32.ofNat j)), .val (.int (Int32.ofNat k)), .val (.ref r69), .val (.ref r92), .val (.ref b93), .val (.int (1 : Int32))] [(.ref b93)]))
    refine own_go (fun t_ k_ => XS.iload X98.here hx rfl (hb hby at_144) rfl k_) ?_
    show OwnFin p e below s _ _ _ (T98.setTop (mkF m 146 #[.val (.int pp), .val (.int pq), .val (.long qc1), .second, .val (.long qc2), .second, .val (.int ps1), .val (.int ps2), .val (.int (Int32.ofNat n)), .val (.int kd1), .val (.int kd2), .val (.int (Int32.ofNat i)), .val (.int (Int32.ofNat j)), .val (.int (Int32.ofNat k)), .val (.ref r69), .val (.ref r92), .val (.ref b93), .val (.int (1 : Int32))] [(.int (Int32.ofNat i)), (.ref b93)]))
    obtain ⟨v100, T100, L100, X100, hQ100, st100⟩ := own_callV X98 hx hZ (y := (⟨"com/example/nearside/nearside/support/SplitDecimalArray", "get", "(I)Lcom/example/nearside/nearside/support/SplitDecimal;"⟩ : MethodName)) (z := (⟨"com/example/nearside/nearside/support/SplitDecimalArray", "get", "(I)Lcom/example/nearside/nearside/support/SplitDecimal;"⟩ : MethodName)) hown (hw _ (List.mem_of_getElem? (i := 31) rfl)) (hw _ (List.mem_of_getElem? (i := 32) rfl)) (notFace_of_selects (args := #[]) (mvT hZ (hw _ (List.mem_of_getElem? (i := 34) rfl)))) (hw _ (List.mem_of_getElem? (i := 34) rfl)) (hw _ (List.mem_of_getElem? (i := 33) rfl)) (hw _ (List.mem_of_getElem? (i := 6) rfl)) (hw _ (List.mem_of_getElem? (i := 35) rfl)) (by decide) (W := 0) (rm6_W l Z a0 hw [] b93 (Int32.ofNat i) ca wa n i (fun z => if z = j then (-9223372036854775808 : Int64) else (fun z => if z = i then (-9223372036854775808 : Int64) else (fun _ => (-9223372036854775808 : Int64)) z) z) (fun z => if z = j then Value.ref r92 else (fun z => if z = i then Value.ref r69 else Value.null) z) r69 T96.heap n0 Z96 rfl hin Fc95_96 Fw95_96 Vc96 (by (try dsimp only); rw [if_neg hij, if_pos rfl]) Vw96 (by (try dsimp only); rw [if_neg hij, if_pos rfl])) (by decide) (by decide) E_ao_96 (g := (mkF m 146 #[.val (.int pp), .val (.int pq), .val (.long qc1), .second, .val (.long qc2), .second, .val (.int ps1), .val (.int ps2), .val (.int (Int32.ofNat n)), .val (.int kd1), .val (.int kd2), .val (.int (Int32.ofNat i)), .val (.int (Int32.ofNat j)), .val (.int (Int32.ofNat k)), .val (.ref r69), .val (.ref r92), .val (.ref b93), .val (.int (1 : Int32))] [(.int (Int32.ofNat i)), (.ref b93)])) rfl (by rw [hml]; rfl) (argsL := [(.int (Int32.ofNat i))]) (rest := []) (lenOf pd_0_5 rfl) rfl (by show 2 * 0 + _ ≤ _; exact Nat.le_of_eq rfl) (hb hby at_146) e98 rfl (by decide) (by decide)
    obtain ⟨rfl, Nq100, e100⟩ := hQ100
    have N100 := Fr.app N98 Nq100
    refine own_go st100 ?_
    show OwnFin p e below s _ _ _ (T100.setTop (mkF m 149 #[.val (.int pp), .val (.int pq), .val (.long qc1), .second, .val (.long qc2), .second, .val (.int ps1), .val (.int ps2), .val (.int (Int32.ofNat n)), .val (.int kd1), .val (.int kd2), .val (.int (Int32.ofNat i)), .val (.int (Int32.ofNat j)), .val (.int (Int32.ofNat k)), .val (.ref r69), .val (.ref r92), .val (.ref b93), .val (.int (1 : Int32))] [(.ref r69)]))
    refine own_go (fun t_ k_ => XS.aload X100.here hx rfl (hb hby at_149) rfl rfl k_) ?_
    show OwnFin p e below s _ _ _ (T100.setTop (mkF m 151 #[.val (.int pp), .val (.int pq), .val (.long qc1), .second, .val (.long qc2), .second, .val (.int ps1), .val (.int ps2), .val (.int (Int32.ofNat n)), .val (.int kd1), .val (.int kd2), .val (.int (Int32.ofNat i)), .val (.int (Int32.ofNat j)), .val (.int (Int32.ofNat k)), .val (.ref r69), .val (.ref r92), .val (.ref b93), .val (.int (1 : Int32))] [(.ref r69), (.ref r69)]))
    obtain ⟨v101, T101, L101, X101, hQ101, st101⟩ := own_callS X100 hx hZ (y := (⟨"com/example/nearside/nearside/support/SplitDecimalArraySetPinLaw", "holds", "(Lcom/example/nearside/nearside/support/SplitDecimal;Lcom/example/nearside/nearside/support/SplitDecimal;)Z"⟩ : MethodName)) hown (hw _ (List.mem_of_getElem? (i := 36) rfl)) (hw _ (List.mem_of_getElem? (i := 37) rfl)) (hw _ (List.mem_of_getElem? (i := 2) rfl)) (hw _ (List.mem_of_getElem? (i := 38) rfl)) (by decide) (W := 0) (rm7_W l Z a0 hw [] r69 T96.heap n0 Z96 F_compact_r69_96) (by decide) (by decide) (g := (mkF m 151 #[.val (.int pp), .val (.int pq), .val (.long qc1), .second, .val (.long qc2), .second, .val (.int ps1), .val (.int ps2), .val (.int (Int32.ofNat n)), .val (.int kd1), .val (.int kd2), .val (.int (Int32.ofNat i)), .val (.int (Int32.ofNat j)), .val (.int (Int32.ofNat k)), .val (.ref r69), .val (.ref r92), .val (.ref b93), .val (.int (1 : Int32))] [(.ref r69), (.ref r69)])) rfl (by rw [hml]; rfl) (argsL := [(.ref r69), (.ref r69)]) (rest := []) (lenOf pd_0_6 rfl) rfl (by show 2 * 0 + _ ≤ _; exact Nat.le_of_eq rfl) (hb hby at_151) e100 rfl (by decide) (by decide)
    obtain ⟨rfl, Nq101, e101⟩ := hQ101
    have N101 := Fr.app N100 Nq101
    refine own_go st101 ?_
    show OwnFin p e below s _ _ _ (T101.setTop (mkF m 154 #[.val (.int pp), .val (.int pq), .val (.long qc1), .second, .val (.long qc2), .second, .val (.int ps1), .val (.int ps2), .val (.int (Int32.ofNat n)), .val (.int kd1), .val (.int kd2), .val (.int (Int32.ofNat i)), .val (.int (Int32.ofNat j)), .val (.int (Int32.ofNat k)), .val (.ref r69), .val (.ref r92), .val (.ref b93), .val (.int (1 : Int32))] [(.int (1 : Int32))]))
    refine own_go (fun t_ k_ => XS.ifNo X101.here hx rfl (hb hby at_154) rfl ((if0 _ _).trans (feq (by decide)).1) k_) ?_
    show OwnFin p e below s _ _ _ (T101.setTop (mkF m 157 #[.val (.int pp), .val (.int pq), .val (.long qc1), .second, .val (.long qc2), .second, .val (.int ps1), .val (.int ps2), .val (.int (Int32.ofNat n)), .val (.int kd1), .val (.int kd2), .val (.int (Int32.ofNat i)), .val (.int (Int32.ofNat j)), .val (.int (Int32.ofNat k)), .val (.ref r69), .val (.ref r92), .val (.ref b93), .val (.int (1 : Int32))] []))
    refine own_go (fun t_ k_ => XS.iconst X101.here hx rfl (hb hby at_157) k_) ?_
    show OwnFin p e below s _ _ _ (T101.setTop (mkF m 158 #[.val (.int pp), .val (.int pq), .val (.long qc1), .second, .val (.long qc2), .second, .val (.int ps1), .val (.int ps2), .val (.int (Int32.ofNat n)), .val (.int kd1), .val (.int kd2), .val (.int (Int32.ofNat i)), .val (.int (Int32.ofNat j)), .val (.int (Int32.ofNat k)), .val (.ref r69), .val (.ref r92), .val (.ref b93), .val (.int (1 : Int32))] [(.int (1 : Int32))]))
    refine own_go (fun t_ k_ => XS.goto X101.here hx rfl (pc0 := 158) (pc' := 162) rfl (hb hby at_158) (by decide) (by decide) k_) ?_
    show OwnFin p e below s _ _ _ (T101.setTop (mkF m 162 #[.val (.int pp), .val (.int pq), .val (.long qc1), .second, .val (.long qc2), .second, .val (.int ps1), .val (.int ps2), .val (.int (Int32.ofNat n)), .val (.int kd1), .val (.int kd2), .val (.int (Int32.ofNat i)), .val (.int (Int32.ofNat j)), .val (.int (Int32.ofNat k)), .val (.ref r69), .val (.ref r92), .val (.ref b93), .val (.int (1 : Int32))] [(.int (1 : Int32))]))
    refine own_go (fun t_ k_ => XS.istore X101.here hx rfl (hb hby at_162) rfl (l' := #[.val (.int pp), .val (.int pq), .val (.long qc1), .second, .val (.long qc2), .second, .val (.int ps1), .val (.int ps2), .val (.int (Int32.ofNat n)), .val (.int kd1), .val (.int kd2), .val (.int (Int32.ofNat i)), .val (.int (Int32.ofNat j)), .val (.int (Int32.ofNat k)), .val (.ref r69), .val (.ref r92), .val (.ref b93), .val (.int (1 : Int32))]) rfl k_) ?_
    show OwnFin p e below s _ _ _ (T101.setTop (mkF m 164 #[.val (.int pp), .val (.int pq), .val (.long qc1), .second, .val (.long qc2), .second, .val (.int ps1), .val (.int ps2), .val (.int (Int32.ofNat n)), .val (.int kd1), .val (.int kd2), .val (.int (Int32.ofNat i)), .val (.int (Int32.ofNat j)), .val (.int (Int32.ofNat k)), .val (.ref r69), .val (.ref r92), .val (.ref b93), .val (.int (1 : Int32))] []))
    by_cases hki : k = i
    · refine own_go (fun t_ k_ => XS.iload X101.here hx rfl (hb hby at_164) rfl k_) ?_
      show OwnFin p e below s _ _ _ (T101.setTop (mkF m 166 #[.val (.int pp), .val (.int pq), .val (.long qc1), .second, .val (.long qc2), .second, .val (.int ps1), .val (.int ps2), .val (.int (Int32.ofNat n)), .val (.int kd1), .val (.int kd2), .val (.int (Int32.ofNat i)), .val (.int (Int32.ofNat j)), .val (.int (Int32.ofNat k)), .val (.ref r69), .val (.ref r92), .val (.ref b93), .val (.int (1 : Int32))] [(.int (Int32.ofNat k))]))
      refine own_go (fun t_ k_ => XS.iload X101.here hx rfl (hb hby at_166) rfl k_) ?_
      show OwnFin p e below s _ _ _ (T101.setTop (mkF m 168 #[.val (.int pp), .val (.int pq), .val (.long qc1), .second, .val (.long qc2), .second, .val (.int ps1), .val (.int ps2), .val (.int (Int32.ofNat n)), .val (.int kd1), .val (.int kd2), .val (.int (Int32.ofNat i)), .val (.int (Int32.ofNat j)), .val (.int (Int32.ofNat k)), .val (.ref r69), .val (.ref r92), .val (.ref b93), .val (.int (1 : Int32))] [(.int (Int32.ofNat i)), (.int (Int32.ofNat k))]))
      have hc168 : (Int32.ofNat k) = (Int32.ofNat i) := by rw [hki]
      refine own_go (fun t_ k_ => XS.icmpYes X101.here hx rfl (pc0 := 168) (pc' := 200) rfl (hb hby at_168) rfl (teq hc168).1 (by decide) (by decide) k_) ?_
      show OwnFin p e below s _ _ _ (T101.setTop (mkF m 200 #[.val (.int pp), .val (.int pq), .val (.long qc1), .second, .val (.long qc2), .second, .val (.int ps1), .val (.int ps2), .val (.int (Int32.ofNat n)), .val (.int kd1), .val (.int kd2), .val (.int (Int32.ofNat i)), .val (.int (Int32.ofNat j)), .val (.int (Int32.ofNat k)), .val (.ref r69), .val (.ref r92), .val (.ref b93), .val (.int (1 : Int32))] []))
      refine own_go (fun t_ k_ => XS.iload X101.here hx rfl (hb hby at_200) rfl k_) ?_
      show OwnFin p e below s _ _ _ (T101.setTop (mkF m 202 #[.val (.int pp), .val (.int pq), .val (.long qc1), .second, .val (.long qc2), .second, .val (.int ps1), .val (.int ps2), .val (.int (Int32.ofNat n)), .val (.int kd1), .val (.int kd2), .val (.int (Int32.ofNat i)), .val (.int (Int32.ofNat j)), .val (.int (Int32.ofNat k)), .val (.ref r69), .val (.ref r92), .val (.ref b93), .val (.int (1 : Int32))] [(.int (1 : Int32))]))
      refine own_ret X101 (v := some (.int (1 : Int32))) hlk (fun hh => by rw [hret] at hh; cases hh) (fun fs hr => retN X101 hx (t := .boolean) hret (by simp) (hb hby at_202) hr) (by decide) (by decide) ?_
      exact ⟨rfl, N101⟩
    · refine own_go (fun t_ k_ => XS.iload X101.here hx rfl (hb hby at_164) rfl k_) ?_
      show OwnFin p e below s _ _ _ (T101.setTop (mkF m 166 #[.val (.int pp), .val (.int pq), .val (.long qc1), .second, .val (.long qc2), .second, .val (.int ps1), .val (.int ps2), .val (.int (Int32.ofNat n)), .val (.int kd1), .val (.int kd2), .val (.int (Int32.ofNat i)), .val (.int (Int32.ofNat j)), .val (.int (Int32.ofNat k)), .val (.ref r69), .val (.ref r92), .val (.ref b93), .val (.int (1 : Int32))] [(.int (Int32.ofNat k))]))
      refine own_go (fun t_ k_ => XS.iload X101.here hx rfl (hb hby at_166) rfl k_) ?_
      show OwnFin p e below s _ _ _ (T101.setTop (mkF m 168 #[.val (.int pp), .val (.int pq), .val (.long qc1), .second, .val (.long qc2), .second, .val (.int ps1), .val (.int ps2), .val (.int (Int32.ofNat n)), .val (.int kd1), .val (.int kd2), .val (.int (Int32.ofNat i)), .val (.int (Int32.ofNat j)), .val (.int (Int32.ofNat k)), .val (.ref r69), .val (.ref r92), .val (.ref b93), .val (.int (1 : Int32))] [(.int (Int32.ofNat i)), (.int (Int32.ofNat k))]))
      have hc168 : ¬ ((Int32.ofNat k) = (Int32.ofNat i)) := fun q => hki (own_ofNat_inj (by omega) (by omega) q)
      refine own_go (fun t_ k_ => XS.icmpNo X101.here hx rfl (hb hby at_168) rfl (feq hc168).1 k_) ?_
      show OwnFin p e below s _ _ _ (T101.setTop (mkF m 171 #[.val (.int pp), .val (.int pq), .val (.long qc1), .second, .val (.long qc2), .second, .val (.int ps1), .val (.int ps2), .val (.int (Int32.ofNat n)), .val (.int kd1), .val (.int kd2), .val (.int (Int32.ofNat i)), .val (.int (Int32.ofNat j)), .val (.int (Int32.ofNat k)), .val (.ref r69), .val (.ref r92), .val (.ref b93), .val (.int (1 : Int32))] []))
      by_cases hkj : k = j
      · refine own_go (fun t_ k_ => XS.iload X101.here hx rfl (hb hby at_171) rfl k_) ?_
        show OwnFin p e below s _ _ _ (T101.setTop (mkF m 173 #[.val (.int pp), .val (.int pq), .val (.long qc1), .second, .val (.long qc2), .second, .val (.int ps1), .val (.int ps2), .val (.int (Int32.ofNat n)), .val (.int kd1), .val (.int kd2), .val (.int (Int32.ofNat i)), .val (.int (Int32.ofNat j)), .val (.int (Int32.ofNat k)), .val (.ref r69), .val (.ref r92), .val (.ref b93), .val (.int (1 : Int32))] [(.int (Int32.ofNat k))]))
        refine own_go (fun t_ k_ => XS.iload X101.here hx rfl (hb hby at_173) rfl k_) ?_
        show OwnFin p e below s _ _ _ (T101.setTop (mkF m 175 #[.val (.int pp), .val (.int pq), .val (.long qc1), .second, .val (.long qc2), .second, .val (.int ps1), .val (.int ps2), .val (.int (Int32.ofNat n)), .val (.int kd1), .val (.int kd2), .val (.int (Int32.ofNat i)), .val (.int (Int32.ofNat j)), .val (.int (Int32.ofNat k)), .val (.ref r69), .val (.ref r92), .val (.ref b93), .val (.int (1 : Int32))] [(.int (Int32.ofNat j)), (.int (Int32.ofNat k))]))
        have hc175 : (Int32.ofNat k) = (Int32.ofNat j) := by rw [hkj]
        refine own_go (fun t_ k_ => XS.icmpYes X101.here hx rfl (pc0 := 175) (pc' := 200) rfl (hb hby at_175) rfl (teq hc175).1 (by decide) (by decide) k_) ?_
        show OwnFin p e below s _ _ _ (T101.setTop (mkF m 200 #[.val (.int pp), .val (.int pq), .val (.long qc1), .second, .val (.long qc2), .second, .val (.int ps1), .val (.int ps2), .val (.int (Int32.ofNat n)), .val (.int kd1), .val (.int kd2), .val (.int (Int32.ofNat i)), .val (.int (Int32.ofNat j)), .val (.int (Int32.ofNat k)), .val (.ref r69), .val (.ref r92), .val (.ref b93), .val (.int (1 : Int32))] []))
        refine own_go (fun t_ k_ => XS.iload X101.here hx rfl (hb hby at_200) rfl k_) ?_
        show OwnFin p e below s _ _ _ (T101.setTop (mkF m 202 #[.val (.int pp), .val (.int pq), .val (.long qc1), .second, .val (.long qc2), .second, .val (.int ps1), .val (.int ps2), .val (.int (Int32.ofNat n)), .val (.int kd1), .val (.int kd2), .val (.int (Int32.ofNat i)), .val (.int (Int32.ofNat j)), .val (.int (Int32.ofNat k)), .val (.ref r69), .val (.ref r92), .val (.ref b93), .val (.int (1 : Int32))] [(.int (1 : Int32))]))
        refine own_ret X101 (v := some (.int (1 : Int32))) hlk (fun hh => by rw [hret] at hh; cases hh) (fun fs hr => retN X101 hx (t := .boolean) hret (by simp) (hb hby at_202) hr) (by decide) (by decide) ?_
        exact ⟨rfl, N101⟩
      · refine own_go (fun t_ k_ => XS.iload X101.here hx rfl (hb hby at_171) rfl k_) ?_
        show OwnFin p e below s _ _ _ (T101.setTop (mkF m 173 #[.val (.int pp), .val (.int pq), .val (.long qc1), .second, .val (.long qc2), .second, .val (.int ps1), .val (.int ps2), .val (.int (Int32.ofNat n)), .val (.int kd1), .val (.int kd2), .val (.int (Int32.ofNat i)), .val (.int (Int32.ofNat j)), .val (.int (Int32.ofNat k)), .val (.ref r69), .val (.ref r92), .val (.ref b93), .val (.int (1 : Int32))] [(.int (Int32.ofNat k))]))
        refine own_go (fun t_ k_ => XS.iload X101.here hx rfl (hb hby at_173) rfl k_) ?_
        show OwnFin p e below s _ _ _ (T101.setTop (mkF m 175 #[.val (.int pp), .val (.int pq), .val (.long qc1), .second, .val (.long qc2), .second, .val (.int ps1), .val (.int ps2), .val (.int (Int32.ofNat n)), .val (.int kd1), .val (.int kd2), .val (.int (Int32.ofNat i)), .val (.int (Int32.ofNat j)), .val (.int (Int32.ofNat k)), .val (.ref r69), .val (.ref r92), .val (.ref b93), .val (.int (1 : Int32))] [(.int (Int32.ofNat j)), (.int (Int32.ofNat k))]))
        have hc175 : ¬ ((Int32.ofNat k) = (Int32.ofNat j)) := fun q => hkj (own_ofNat_inj (by omega) (by omega) q)
        refine own_go (fun t_ k_ => XS.icmpNo X101.here hx rfl (hb hby at_175) rfl (feq hc175).1 k_) ?_
        show OwnFin p e below s _ _ _ (T101.setTop (mkF m 178 #[.val (.int pp), .val (.int pq), .val (.long qc1), .second, .val (.long qc2), .second, .val (.int ps1), .val (.int ps2), .val (.int (Int32.ofNat n)), .val (.int kd1), .val (.int kd2), .val (.int (Int32.ofNat i)), .val (.int (Int32.ofNat j)), .val (.int (Int32.ofNat k)), .val (.ref r69), .val (.ref r92), .val (.ref b93), .val (.int (1 : Int32))] []))
        refine own_go (fun t_ k_ => XS.iload X101.here hx rfl (hb hby at_178) rfl k_) ?_
        show OwnFin p e below s _ _ _ (T101.setTop (mkF m 180 #[.val (.int pp), .val (.int pq), .val (.long qc1), .second, .val (.long qc2), .second, .val (.int ps1), .val (.int ps2), .val (.int (Int32.ofNat n)), .val (.int kd1), .val (.int kd2), .val (.int (Int32.ofNat i)), .val (.int (Int32.ofNat j)), .val (.int (Int32.ofNat k)), .val (.ref r69), .val (.ref r92), .val (.ref b93), .val (.int (1 : Int32))] [(.int (1 : Int32))]))
        refine own_go (fun t_ k_ => XS.ifNo X101.here hx rfl (hb hby at_180) rfl ((if0 _ _).trans (feq (by decide)).1) k_) ?_
        show OwnFin p e below s _ _ _ (T101.setTop (mkF m 183 #[.val (.int pp), .val (.int pq), .val (.long qc1), .second, .val (.long qc2), .second, .val (.int ps1), .val (.int ps2), .val (.int (Int32.ofNat n)), .val (.int kd1), .val (.int kd2), .val (.int (Int32.ofNat i)), .val (.int (Int32.ofNat j)), .val (.int (Int32.ofNat k)), .val (.ref r69), .val (.ref r92), .val (.ref b93), .val (.int (1 : Int32))] []))
        refine own_go (fun t_ k_ => XS.aload X101.here hx rfl (hb hby at_183) rfl rfl k_) ?_
        show OwnFin p e below s _ _ _ (T101.setTop (mkF m 185 #[.val (.int pp), .val (.int pq), .val (.long qc1), .second, .val (.long qc2), .second, .val (.int ps1), .val (.int ps2), .val (.int (Int32.ofNat n)), .val (.int kd1), .val (.int kd2), .val (.int (Int32.ofNat i)), .val (.int (Int32.ofNat j)), .val (.int (Int32.ofNat k)), .val (.ref r69), .val (.ref r92), .val (.ref b93), .val (.int (1 : Int32))] [(.ref b93)]))
        refine own_go (fun t_ k_ => XS.iload X101.here hx rfl (hb hby at_185) rfl k_) ?_
        show OwnFin p e below s _ _ _ (T101.setTop (mkF m 187 #[.val (.int pp), .val (.int pq), .val (.long qc1), .second, .val (.long qc2), .second, .val (.int ps1), .val (.int ps2), .val (.int (Int32.ofNat n)), .val (.int kd1), .val (.int kd2), .val (.int (Int32.ofNat i)), .val (.int (Int32.ofNat j)), .val (.int (Int32.ofNat k)), .val (.ref r69), .val (.ref r92), .val (.ref b93), .val (.int (1 : Int32))] [(.int (Int32.ofNat k)), (.ref b93)]))
        obtain ⟨v102, T102, L102, X102, hQ102, st102⟩ := own_callV X101 hx hZ (y := (⟨"com/example/nearside/nearside/support/SplitDecimalArray", "get", "(I)Lcom/example/nearside/nearside/support/SplitDecimal;"⟩ : MethodName)) (z := (⟨"com/example/nearside/nearside/support/SplitDecimalArray", "get", "(I)Lcom/example/nearside/nearside/support/SplitDecimal;"⟩ : MethodName)) hown (hw _ (List.mem_of_getElem? (i := 31) rfl)) (hw _ (List.mem_of_getElem? (i := 32) rfl)) (notFace_of_selects (args := #[]) (mvT hZ (hw _ (List.mem_of_getElem? (i := 34) rfl)))) (hw _ (List.mem_of_getElem? (i := 34) rfl)) (hw _ (List.mem_of_getElem? (i := 33) rfl)) (hw _ (List.mem_of_getElem? (i := 6) rfl)) (hw _ (List.mem_of_getElem? (i := 35) rfl)) (by decide) (W := 0) (rm6_V l Z a0 hw [] b93 (Int32.ofNat k) ca wa n k (fun z => if z = j then (-9223372036854775808 : Int64) else (fun z => if z = i then (-9223372036854775808 : Int64) else (fun _ => (-9223372036854775808 : Int64)) z) z) (fun z => if z = j then Value.ref r92 else (fun z => if z = i then Value.ref r69 else Value.null) z) T96.heap n0 Z96 rfl hkn Fc95_96 Fw95_96 Vc96 (by (try dsimp only); rw [if_neg hkj, if_neg hki]) Vw96 (by (try dsimp only); rw [if_neg hkj, if_neg hki])) (by decide) (by decide) E_ao_96 (g := (mkF m 187 #[.val (.int pp), .val (.int pq), .val (.long qc1), .second, .val (.long qc2), .second, .val (.int ps1), .val (.int ps2), .val (.int (Int32.ofNat n)), .val (.int kd1), .val (.int kd2), .val (.int (Int32.ofNat i)), .val (.int (Int32.ofNat j)), .val (.int (Int32.ofNat k)), .val (.ref r69), .val (.ref r92), .val (.ref b93), .val (.int (1 : Int32))] [(.int (Int32.ofNat k)), (.ref b93)])) rfl (by rw [hml]; rfl) (argsL := [(.int (Int32.ofNat k))]) (rest := []) (lenOf pd_0_5 rfl) rfl (by show 2 * 0 + _ ≤ _; exact Nat.le_of_eq rfl) (hb hby at_187) e101 rfl (by decide) (by decide)
        obtain ⟨rfl, Nq102, e102⟩ := hQ102
        have N102 := Fr.app N101 Nq102
        refine own_go st102 ?_
        show OwnFin p e below s _ _ _ (T102.setTop (mkF m 190 #[.val (.int pp), .val (.int pq), .val (.long qc1), .second, .val (.long qc2), .second, .val (.int ps1), .val (.int ps2), .val (.int (Int32.ofNat n)), .val (.int kd1), .val (.int kd2), .val (.int (Int32.ofNat i)), .val (.int (Int32.ofNat j)), .val (.int (Int32.ofNat k)), .val (.ref r69), .val (.ref r92), .val (.ref b93), .val (.int (1 : Int32))] [.null]))
        refine own_go (fun t_ k_ => XS.ifnonnullNo X102.here hx rfl (hb hby at_190) rfl k_) ?_
        show OwnFin p e below s _ _ _ (T102.setTop (mkF m 193 #[.val (.int pp), .val (.int pq), .val (.long qc1), .second, .val (.long qc2), .second, .val (.int ps1), .val (.int ps2), .val (.int (Int32.ofNat n)), .val (.int kd1), .val (.int kd2), .val (.int (Int32.ofNat i)), .val (.int (Int32.ofNat j)), .val (.int (Int32.ofNat k)), .val (.ref r69), .val (.ref r92), .val (.ref b93), .val (.int (1 : Int32))] []))
        refine own_go (fun t_ k_ => XS.iconst X102.here hx rfl (hb hby at_193) k_) ?_
        show OwnFin p e below s _ _ _ (T102.setTop (mkF m 194 #[.val (.int pp), .val (.int pq), .val (.long qc1), .second, .val (.long qc2), .second, .val (.int ps1), .val (.int ps2), .val (.int (Int32.ofNat n)), .val (.int kd1), .val (.int kd2), .val (.int (Int32.ofNat i)), .val (.int (Int32.ofNat j)), .val (.int (Int32.ofNat k)), .val (.ref r69), .val (.ref r92), .val (.ref b93), .val (.int (1 : Int32))] [(.int (1 : Int32))]))
        refine own_go (fun t_ k_ => XS.goto X102.here hx rfl (pc0 := 194) (pc' := 198) rfl (hb hby at_194) (by decide) (by decide) k_) ?_
        show OwnFin p e below s _ _ _ (T102.setTop (mkF m 198 #[.val (.int pp), .val (.int pq), .val (.long qc1), .second, .val (.long qc2), .second, .val (.int ps1), .val (.int ps2), .val (.int (Int32.ofNat n)), .val (.int kd1), .val (.int kd2), .val (.int (Int32.ofNat i)), .val (.int (Int32.ofNat j)), .val (.int (Int32.ofNat k)), .val (.ref r69), .val (.ref r92), .val (.ref b93), .val (.int (1 : Int32))] [(.int (1 : Int32))]))
        refine own_go (fun t_ k_ => XS.istore X102.here hx rfl (hb hby at_198) rfl (l' := #[.val (.int pp), .val (.int pq), .val (.long qc1), .second, .val (.long qc2), .second, .val (.int ps1), .val (.int ps2), .val (.int (Int32.ofNat n)), .val (.int kd1), .val (.int kd2), .val (.int (Int32.ofNat i)), .val (.int (Int32.ofNat j)), .val (.int (Int32.ofNat k)), .val (.ref r69), .val (.ref r92), .val (.ref b93), .val (.int (1 : Int32))]) rfl k_) ?_
        show OwnFin p e below s _ _ _ (T102.setTop (mkF m 200 #[.val (.int pp), .val (.int pq), .val (.long qc1), .second, .val (.long qc2), .second, .val (.int ps1), .val (.int ps2), .val (.int (Int32.ofNat n)), .val (.int kd1), .val (.int kd2), .val (.int (Int32.ofNat i)), .val (.int (Int32.ofNat j)), .val (.int (Int32.ofNat k)), .val (.ref r69), .val (.ref r92), .val (.ref b93), .val (.int (1 : Int32))] []))
        refine own_go (fun t_ k_ => XS.iload X102.here hx rfl (hb hby at_200) rfl k_) ?_
        show OwnFin p e below s _ _ _ (T102.setTop (mkF m 202 #[.val (.int pp), .val (.int pq), .val (.long qc1), .second, .val (.long qc2), .second, .val (.int ps1), .val (.int ps2), .val (.int (Int32.ofNat n)), .val (.int kd1), .val (.int kd2), .val (.int (Int32.ofNat i)), .val (.int (Int32.ofNat j)), .val (.int (Int32.ofNat k)), .val (.ref r69), .val (.ref r92), .val (.ref b93), .val (.int (1 : Int32))] [(.int (1 : Int32))]))
        refine own_ret X102 (v := some (.int (1 : Int32))) hlk (fun hh => by rw [hret] at hh; cases hh) (fun fs hr => retN X102 hx (t := .boolean) hret (by simp) (hb hby at_202) hr) (by decide) (by decide) ?_
        exact ⟨rfl, N102⟩
set_option maxRecDepth 65536 in
set_option maxHeartbeats 40000000 in
theorem comes_1 {Post : Tables → Env → Array Value → State → Outcome → State → Prop} (hpost : ∀ tb e args s v u, (limb_1_1.after args s (.returned v) u = true ∧ limb_1_2.after args s (.returned v) u = true ∧ True) → FrameEnd s (.returned v) u (Jvm.fieldLocs frame_1_writes args s ++ Jvm.arrayLocs frame_1_arrays args s ++ Jvm.staticLocs frame_1_statics s) 24 128 → Post tb e args s (.returned v) u) :
    ArmFor flags0 classFile x code maxLocals ret World_1 tables_1 room_1 Calls_1 rest_1 Pre_1 Post := by
  intro l hfl _ _ p e ha hc hk s m args below hf hA hF happ hP
  obtain ⟨hcalls, hrest, hpre⟩ := hP
  obtain ⟨-, -, -, hnamed, -, -, -, hat⟩ := (Spec.applies_iff hf).mp happ
  obtain ⟨hg, hn⟩ := and_e (Cond.before_iff.mp (show (Jvm.Cond.and given_1 narrow_1).before args s = true from hpre))
  obtain ⟨g1, g2⟩ := and_e hg
  obtain ⟨g3, g4⟩ := and_e g2
  obtain ⟨g5, g6⟩ := and_e g4
  obtain ⟨g7, g8⟩ := and_e g6
  obtain ⟨g9, g10⟩ := and_e g8
  obtain ⟨g11, g12⟩ := and_e g10
  obtain ⟨w0, w1, w2, w3, w4, w5, rfl⟩ : ∃ w0 w1 w2 w3 w4 w5 : Value, args = #[w0, w1, w2, w3, w4, w5] := by
    have hs : args.size = 6 := by simpa [Cond.value, given_1] using g1
    obtain ⟨L⟩ := args
    match L, hs with
    | [w0, w1, w2, w3, w4, w5], _ => exact ⟨w0, w1, w2, w3, w4, w5, rfl⟩
  have hw := fun d (hd : d ∈ tables_1) => atoms_spec (ws := Jvm.Cond.code x code maxLocals ret :: tables_1) hat d (List.mem_cons_of_mem _ hd)
  have hfit : Fit s := fun {y c} hc i hi => by
    obtain ⟨ha, rfl⟩ := Array.getElem?_eq_some_iff.mp hc
    have q := List.all_eq_true.mp ((Array.all_eq_true_iff_forall_mem.mp hF) _ (Array.getElem_mem ha)) i (List.mem_range.mpr hi)
    simpa [Array.getElem?_eq_getElem hi] using q
  obtain ⟨i0, ei0⟩ := is_v g3
  obtain rfl : w0 = (.int i0) := Option.some.inj ei0
  obtain ⟨i1, ei1⟩ := is_v g5
  obtain rfl : w1 = (.int i1) := Option.some.inj ei1
  obtain ⟨i2, ei2⟩ := isL_v g7
  obtain rfl : w2 = (.long i2) := Option.some.inj ei2
  obtain ⟨i3, ei3⟩ := isL_v g9
  obtain rfl : w3 = (.long i3) := Option.some.inj ei3
  obtain ⟨i4, ei4⟩ := is_v g11
  obtain rfl : w4 = (.int i4) := Option.some.inj ei4
  obtain ⟨i5, ei5⟩ := is_v g12
  obtain rfl : w5 = (.int i5) := Option.some.inj ei5
  obtain ⟨n, o, h1, h2, h3, _, L, rfl, ⟨rfl, N⟩, hq⟩ := rm0 l s _ hw tables_1 i0 i1 i2 i3 i4 i5 s.heap s.heap.size (Nat.le_refl _) p e ha hc hk s m _ below hf ((Spec.applies_iff_loose hf).mp happ).1 ⟨rfl, State.Warmed39.refl s, rfl⟩ trivial
  refine ⟨n, _, h1, h2, h3, hpost _ _ _ _ _ _ ⟨Cond.after_iff.mpr rfl, Cond.after_iff.mpr (eq_i res_at (Term.int_eval (1)) rfl), trivial⟩ ⟨hq.1, hq.2.1, (hq.2.2.sift fun y hy => Or.inr (N y hy)).mono (by decide) (by decide)⟩⟩
theorem main_1_1 : Claimed_1_1 := comes_1 fun _ _ _ _ _ _ h hF => ⟨h.1, hF⟩
theorem main_1_2 : Claimed_1_2 := comes_1 fun _ _ _ _ _ _ h hF => ⟨h.2.1, hF⟩
end Jvm.Pilot.@@N@@
namespace Jvm.Pilot.@@N@@
open Jvm Jvm.ClassFile Sem Op Lib Jvm.Free Jvm.Stand Jvm.Pilot.@@N@@.Jvm.D
/-! MADE BY PROGRAM (witnessworld.py) out of the Statement's table words and the real class files: 15 classes; the members and pool entries that the words name. The judged class is class 1, her method 3. -/
namespace start1
open Jvm.ClassFile
def u (s : String) : CpInfo := .utf8 (stringToUtf16 s)
/-- a pool by its gaps: so many unusable entries, then the entry; so many at the end -/
def gap : Nat → List CpInfo → List CpInfo
  | 0, r => r
  | n + 1, r => .unusable :: gap n r
def poolList (es : List (Nat × CpInfo)) (last : Nat) : List CpInfo := es.foldr (fun e r => gap e.1 (e.2 :: r)) (gap last [])
def pool (es : List (Nat × CpInfo)) (last : Nat) : Array CpInfo := ⟨poolList es last⟩
def fileOf (pool : Array CpInfo) (this : Nat) (attrs : Array Attribute := #[]) (ms : Array MethodInfo := #[]) (fl : Nat := 33) (sup : Nat := 0) (ifs : Array Nat := #[]) (fds : Array FieldInfo := #[]) : ClassFile where
  minorVersion := 0
  majorVersion := 65
  constantPool := pool
  accessFlags := fl
  thisClass := this
  superClass := sup
  interfaces := ifs
  fields := fds
  methods := ms
  attributes := attrs
def plain (name : String) (sup : Option ClassId) : Class where
  name := name
  kind := .ordinary
  loader := none
  accessFlags := 33
  super := sup
  interfaces := #[]
  cf := none
  fields := #[]
  methods := #[]
  instanceTypes := #[]
  staticTypes := #[]
  resolved := #[]
  callSites := []
  init := .initialized
  statics := none
  mirror := none

def pool0 : Array CpInfo := pool [(5, u "<init>"), (0, u "()V"), (1, .class_ 10), (1, u "java/lang/Object")] 113

def k0c0 : Code := { maxStack := 0, maxLocals := 1, code := object_method_1_code, exceptionTable := #[], attributes := #[] }
def k0m0 : Method := { name := "<init>", desc := "()V", sig := { parameters := [], returnType := none }, accessFlags := 1, code := some k0c0 }
/-- java/lang/Object -/
def k0 : Class := { plain "java/lang/Object" none with
  accessFlags := 33
  interfaces := #[]
  cf := some (fileOf pool0 8 #[] #[{ accessFlags := 1, nameIndex := 5, descriptorIndex := 6, attributes := #[] }] 33 0 #[] #[])
  fields := #[]
  methods := #[k0m0]
  instanceTypes := #[]
  staticTypes := #[]
  resolved := Array.replicate 124 none
  statics := none }

def pool1 : Array CpInfo := pool [(2, .class_ 4), (1, u "java/lang/Object"), (0, u "<init>"), (0, u "()V"), (0, .class_ 8), (0, u "com/example/nearside/nearside/support/SplitDecimal"), (0, .long 9223372036854775808), (1, .methodref 7 12), (0, .nameAndType 5 13), (0, u "(JI)V"), (0, .fieldref 7 15), (0, .nameAndType 16 17), (0, u "compact"), (0, u "J"), (0, .fieldref 7 19), (0, .nameAndType 20 21), (0, u "scale"), (0, u "I"), (0, .methodref 23 24), (0, .class_ 25), (0, .nameAndType 26 27), (0, u "com/example/nearside/nearside/support/SplitDecimalArraySetPinLaw"), (0, u "make"), (0, u "(IJI)Lcom/example/nearside/nearside/support/SplitDecimal;"), (0, .class_ 29), (0, u "com/example/nearside/nearside/support/SplitDecimalArray"), (0, .methodref 28 31), (0, .nameAndType 5 32), (0, u "(I)V"), (0, .methodref 28 34), (0, .nameAndType 35 36), (0, u "set"), (0, u "(ILcom/example/nearside/nearside/support/SplitDecimal;)V"), (0, .methodref 28 38), (0, .nameAndType 39 40), (0, u "get"), (0, u "(I)Lcom/example/nearside/nearside/support/SplitDecimal;"), (0, .methodref 23 42), (0, .nameAndType 43 44), (0, u "holds"), (0, u "(Lcom/example/nearside/nearside/support/SplitDecimal;Lcom/example/nearside/nearside/support/SplitDecimal;)Z"), (3, u "law"), (0, u "(IIJJII)Z")] 2

def k1m0 : Method := { name := "<init>", desc := "()V", sig := { parameters := [], returnType := none }, accessFlags := 1, code := none }
def k1c1 : Code := { maxStack := 6, maxLocals := 4, code := method_2_code, exceptionTable := #[], attributes := #[] }
def k1m1 : Method := { name := "make", desc := "(IJI)Lcom/example/nearside/nearside/support/SplitDecimal;", sig := { parameters := [.int, .long, .int], returnType := some (.object "com/example/nearside/nearside/support/SplitDecimal") }, accessFlags := 10, code := some k1c1 }
def k1c2 : Code := { maxStack := 4, maxLocals := 2, code := method_3_code, exceptionTable := #[], attributes := #[] }
def k1m2 : Method := { name := "holds", desc := "(Lcom/example/nearside/nearside/support/SplitDecimal;Lcom/example/nearside/nearside/support/SplitDecimal;)Z", sig := { parameters := [(.object "com/example/nearside/nearside/support/SplitDecimal"), (.object "com/example/nearside/nearside/support/SplitDecimal")], returnType := some .boolean }, accessFlags := 10, code := some k1c2 }
def k1c3 : Code := { maxStack := 4, maxLocals := 18, code := code, exceptionTable := #[], attributes := #[] }
def k1m3 : Method := { name := "law", desc := "(IIJJII)Z", sig := { parameters := [.int, .int, .long, .long, .int, .int], returnType := some .boolean }, accessFlags := 9, code := some k1c3 }
/-- com/example/nearside/nearside/support/SplitDecimalArraySetPinLaw -/
def k1 : Class := { plain "com/example/nearside/nearside/support/SplitDecimalArraySetPinLaw" (some 0) with
  accessFlags := 49
  interfaces := #[]
  cf := some (fileOf pool1 23 #[] #[{ accessFlags := 1, nameIndex := 5, descriptorIndex := 6, attributes := #[] }, { accessFlags := 10, nameIndex := 26, descriptorIndex := 27, attributes := #[] }, { accessFlags := 10, nameIndex := 43, descriptorIndex := 44, attributes := #[] }, { accessFlags := 9, nameIndex := 48, descriptorIndex := 49, attributes := #[] }] 49 2 #[] #[])
  fields := #[]
  methods := #[k1m0, k1m1, k1m2, k1m3]
  instanceTypes := #[]
  staticTypes := #[]
  resolved := Array.replicate 52 none
  statics := none }

def pool2 : Array CpInfo := pool [(5, .methodref 6 7), (0, .class_ 8), (0, .nameAndType 9 10), (0, u "java/lang/Object"), (0, u "<init>"), (0, u "()V"), (0, .fieldref 12 13), (0, .class_ 14), (0, .nameAndType 15 16), (0, u "com/example/nearside/nearside/support/SplitDecimalArray"), (0, u "compact"), (0, u "[J"), (0, .fieldref 12 18), (0, .nameAndType 19 20), (0, u "scale"), (0, u "[I"), (0, .class_ 22), (0, u "com/example/nearside/nearside/support/SplitDecimal"), (0, .long 9223372036854775808), (1, .methodref 26 27), (0, .class_ 28), (0, .nameAndType 29 30), (0, u "java/util/Arrays"), (0, u "fill"), (0, u "([JJ)V"), (0, .fieldref 12 32), (0, .nameAndType 33 34), (0, u "whole"), (0, u "[Lcom/example/nearside/nearside/support/SplitDecimal;"), (17, .fieldref 21 53), (0, .nameAndType 15 54), (0, u "J"), (0, .fieldref 21 56), (0, .nameAndType 19 57), (0, u "I"), (0, .methodref 21 59), (0, .nameAndType 9 60), (0, u "(JI)V"), (10, u "PLACE_BYTES"), (2, u "(I)V"), (7, u "set"), (0, u "(ILcom/example/nearside/nearside/support/SplitDecimal;)V"), (0, u "get"), (0, u "(I)Lcom/example/nearside/nearside/support/SplitDecimal;")] 26

def k2c0 : Code := { maxStack := 3, maxLocals := 2, code := prog_177_method_1_code, exceptionTable := #[], attributes := #[] }
def k2m0 : Method := { name := "<init>", desc := "(I)V", sig := { parameters := [.int], returnType := none }, accessFlags := 1, code := some k2c0 }
def k2c1 : Code := { maxStack := 4, maxLocals := 3, code := prog_177_method_4_code, exceptionTable := #[], attributes := #[] }
def k2m1 : Method := { name := "set", desc := "(ILcom/example/nearside/nearside/support/SplitDecimal;)V", sig := { parameters := [.int, (.object "com/example/nearside/nearside/support/SplitDecimal")], returnType := none }, accessFlags := 1, code := some k2c1 }
def k2c2 : Code := { maxStack := 6, maxLocals := 2, code := prog_177_method_5_code, exceptionTable := #[], attributes := #[] }
def k2m2 : Method := { name := "get", desc := "(I)Lcom/example/nearside/nearside/support/SplitDecimal;", sig := { parameters := [.int], returnType := some (.object "com/example/nearside/nearside/support/SplitDecimal") }, accessFlags := 1, code := some k2c2 }
/-- com/example/nearside/nearside/support/SplitDecimalArray -/
def k2 : Class := { plain "com/example/nearside/nearside/support/SplitDecimalArray" (some 0) with
  accessFlags := 49
  interfaces := #[]
  cf := some (fileOf pool2 12 #[] #[{ accessFlags := 1, nameIndex := 9, descriptorIndex := 74, attributes := #[] }, { accessFlags := 1, nameIndex := 82, descriptorIndex := 83, attributes := #[] }, { accessFlags := 1, nameIndex := 84, descriptorIndex := 85, attributes := #[] }] 49 6 #[] #[{ accessFlags := 25, nameIndex := 71, descriptorIndex := 57, attributes := #[] }, { accessFlags := 18, nameIndex := 15, descriptorIndex := 16, attributes := #[] }, { accessFlags := 18, nameIndex := 19, descriptorIndex := 20, attributes := #[] }, { accessFlags := 2, nameIndex := 33, descriptorIndex := 34, attributes := #[] }])
  fields := #[{ name := "PLACE_BYTES", type := .int, accessFlags := 25, slot := 0, constantValue := 0 }, { name := "compact", type := (.array .long), accessFlags := 18, slot := 0, constantValue := 0 }, { name := "scale", type := (.array .int), accessFlags := 18, slot := 1, constantValue := 0 }, { name := "whole", type := (.array (.object "com/example/nearside/nearside/support/SplitDecimal")), accessFlags := 2, slot := 2, constantValue := 0 }]
  methods := #[k2m0, k2m1, k2m2]
  instanceTypes := #[(.array .long), (.array .int), (.array (.object "com/example/nearside/nearside/support/SplitDecimal"))]
  staticTypes := #[.int]
  resolved := Array.replicate 112 none
  statics := none }

def pool3 : Array CpInfo := pool [(2, .class_ 4), (1, u "java/lang/Object"), (0, u "<init>"), (0, u "()V"), (7, .class_ 16), (1, u "java/util/Arrays"), (57, .class_ 76), (1, u "java/util/Arrays$NaturalOrder"), (36, .class_ 115), (1, u "java/util/Arrays$LegacyMergeSort"), (1, u "Z"), (257, .class_ 376), (0, u "java/util/Arrays$ArrayList"), (68, u "$assertionsDisabled"), (269, u "MIN_ARRAY_SORT_GRAN"), (0, u "I"), (2, u "INSERTIONSORT_THRESHOLD"), (120, u "fill"), (0, u "([JJ)V"), (133, .class_ 976), (0, u "java/util/Arrays$ArrayItr")] 52

def k3m0 : Method := { name := "<init>", desc := "()V", sig := { parameters := [], returnType := none }, accessFlags := 2, code := none }
def k3c1 : Code := { maxStack := 4, maxLocals := 5, code := jdk_65_method_101_code, exceptionTable := #[], attributes := #[] }
def k3m1 : Method := { name := "fill", desc := "([JJ)V", sig := { parameters := [(.array .long), .long], returnType := none }, accessFlags := 9, code := some k3c1 }
/-- java/util/Arrays -/
def k3 : Class := { plain "java/util/Arrays" (some 0) with
  accessFlags := 49
  interfaces := #[]
  cf := some (fileOf pool3 14 #[.nestMembers #[975, 375, 113, 74]] #[{ accessFlags := 2, nameIndex := 5, descriptorIndex := 6, attributes := #[] }, { accessFlags := 9, nameIndex := 840, descriptorIndex := 841, attributes := #[] }] 49 2 #[] #[{ accessFlags := 26, nameIndex := 715, descriptorIndex := 716, attributes := #[] }, { accessFlags := 26, nameIndex := 719, descriptorIndex := 716, attributes := #[] }, { accessFlags := 4120, nameIndex := 445, descriptorIndex := 117, attributes := #[] }])
  fields := #[{ name := "MIN_ARRAY_SORT_GRAN", type := .int, accessFlags := 26, slot := 0, constantValue := 0 }, { name := "INSERTIONSORT_THRESHOLD", type := .int, accessFlags := 26, slot := 1, constantValue := 0 }, { name := "$assertionsDisabled", type := .boolean, accessFlags := 4120, slot := 2, constantValue := 0 }]
  methods := #[k3m0, k3m1]
  instanceTypes := #[]
  staticTypes := #[.int, .int, .boolean]
  resolved := Array.replicate 1029 none
  statics := none }

def pool4 : Array CpInfo := pool [(1, .class_ 2), (0, u "java/lang/Comparable"), (0, .class_ 4), (0, u "java/lang/Object")] 7

/-- java/lang/Comparable -/
def k4 : Class := { plain "java/lang/Comparable" (some 0) with
  accessFlags := 1537
  interfaces := #[]
  cf := some (fileOf pool4 1 #[] #[] 1537 3 #[] #[])
  fields := #[]
  methods := #[]
  instanceTypes := #[]
  staticTypes := #[]
  resolved := Array.replicate 12 none
  statics := none }

def pool5 : Array CpInfo := pool [(1, .class_ 2), (0, u "com/example/nearside/nearside/support/SplitDecimal"), (4, .methodref 8 9), (0, .class_ 10), (0, .nameAndType 11 12), (0, u "java/lang/Object"), (0, u "<init>"), (0, u "()V"), (0, .fieldref 1 14), (0, .nameAndType 15 16), (0, u "compact"), (0, u "J"), (0, .fieldref 1 18), (0, .nameAndType 19 20), (0, u "scale"), (0, u "I"), (0, .fieldref 1 22), (0, .nameAndType 23 24), (0, u "head"), (0, u "Ljava/math/BigDecimal;"), (0, .fieldref 1 26), (0, .nameAndType 27 28), (0, u "tail"), (0, u "[Ljava/math/BigDecimal;"), (23, u "(JI)V"), (142, u "ZERO"), (0, u "Lcom/example/nearside/nearside/support/SplitDecimal;"), (22, .class_ 221), (1, u "com/example/nearside/nearside/support/SplitDecimal$Unit"), (67, u "LN_2"), (0, u "D"), (92, u "EXACT_TENS"), (0, u "[D"), (85, u "TENS"), (0, u "[J"), (49, u "UNITS"), (0, u "Ljava/util/Map;"), (32, .class_ 556), (0, u "java/lang/Comparable"), (0, u "NEAR"), (2, u "SPLIT_BITS"), (1, u "LOW_PLACES"), (1, u "LONG_DIGITS"), (1, u "WIDE"), (0, u "OPEN"), (0, u "KEPT_UNITS"), (1, u "DOUBLE_PLACES"), (1, u "EXACT_NUMERATOR"), (0, u "BITS_PER_PLACE"), (0, u "SIZE_ERROR"), (0, u "TINY_SHARE_BITS"), (1, u "REST_SPREAD")] 45

def k5c0 : Code := { maxStack := 3, maxLocals := 4, code := prog_175_method_1_code, exceptionTable := #[], attributes := #[] }
def k5m0 : Method := { name := "<init>", desc := "(JI)V", sig := { parameters := [.long, .int], returnType := none }, accessFlags := 0, code := some k5c0 }
/-- com/example/nearside/nearside/support/SplitDecimal -/
def k5 : Class := { plain "com/example/nearside/nearside/support/SplitDecimal" (some 0) with
  accessFlags := 49
  interfaces := #[4]
  cf := some (fileOf pool5 1 #[.nestMembers #[219]] #[{ accessFlags := 0, nameIndex := 11, descriptorIndex := 52, attributes := #[] }] 49 8 #[555] #[{ accessFlags := 25, nameIndex := 195, descriptorIndex := 196, attributes := #[] }, { accessFlags := 26, nameIndex := 557, descriptorIndex := 20, attributes := #[] }, { accessFlags := 24, nameIndex := 560, descriptorIndex := 20, attributes := #[] }, { accessFlags := 26, nameIndex := 562, descriptorIndex := 20, attributes := #[] }, { accessFlags := 26, nameIndex := 564, descriptorIndex := 20, attributes := #[] }, { accessFlags := 26, nameIndex := 470, descriptorIndex := 471, attributes := #[] }, { accessFlags := 24, nameIndex := 566, descriptorIndex := 16, attributes := #[] }, { accessFlags := 26, nameIndex := 567, descriptorIndex := 20, attributes := #[] }, { accessFlags := 26, nameIndex := 568, descriptorIndex := 20, attributes := #[] }, { accessFlags := 26, nameIndex := 570, descriptorIndex := 20, attributes := #[] }, { accessFlags := 26, nameIndex := 383, descriptorIndex := 384, attributes := #[] }, { accessFlags := 26, nameIndex := 572, descriptorIndex := 16, attributes := #[] }, { accessFlags := 26, nameIndex := 573, descriptorIndex := 290, attributes := #[] }, { accessFlags := 26, nameIndex := 289, descriptorIndex := 290, attributes := #[] }, { accessFlags := 26, nameIndex := 574, descriptorIndex := 290, attributes := #[] }, { accessFlags := 26, nameIndex := 575, descriptorIndex := 20, attributes := #[] }, { accessFlags := 26, nameIndex := 577, descriptorIndex := 290, attributes := #[] }, { accessFlags := 26, nameIndex := 521, descriptorIndex := 522, attributes := #[] }, { accessFlags := 16, nameIndex := 15, descriptorIndex := 16, attributes := #[] }, { accessFlags := 16, nameIndex := 19, descriptorIndex := 20, attributes := #[] }, { accessFlags := 18, nameIndex := 23, descriptorIndex := 24, attributes := #[] }, { accessFlags := 18, nameIndex := 27, descriptorIndex := 28, attributes := #[] }])
  fields := #[{ name := "ZERO", type := (.object "com/example/nearside/nearside/support/SplitDecimal"), accessFlags := 25, slot := 0, constantValue := 0 }, { name := "NEAR", type := .int, accessFlags := 26, slot := 1, constantValue := 0 }, { name := "SPLIT_BITS", type := .int, accessFlags := 24, slot := 2, constantValue := 0 }, { name := "LOW_PLACES", type := .int, accessFlags := 26, slot := 3, constantValue := 0 }, { name := "LONG_DIGITS", type := .int, accessFlags := 26, slot := 4, constantValue := 0 }, { name := "TENS", type := (.array .long), accessFlags := 26, slot := 5, constantValue := 0 }, { name := "WIDE", type := .long, accessFlags := 24, slot := 6, constantValue := 0 }, { name := "OPEN", type := .int, accessFlags := 26, slot := 7, constantValue := 0 }, { name := "KEPT_UNITS", type := .int, accessFlags := 26, slot := 8, constantValue := 0 }, { name := "DOUBLE_PLACES", type := .int, accessFlags := 26, slot := 9, constantValue := 0 }, { name := "EXACT_TENS", type := (.array .double), accessFlags := 26, slot := 10, constantValue := 0 }, { name := "EXACT_NUMERATOR", type := .long, accessFlags := 26, slot := 11, constantValue := 0 }, { name := "BITS_PER_PLACE", type := .double, accessFlags := 26, slot := 12, constantValue := 0 }, { name := "LN_2", type := .double, accessFlags := 26, slot := 13, constantValue := 0 }, { name := "SIZE_ERROR", type := .double, accessFlags := 26, slot := 14, constantValue := 0 }, { name := "TINY_SHARE_BITS", type := .int, accessFlags := 26, slot := 15, constantValue := 0 }, { name := "REST_SPREAD", type := .double, accessFlags := 26, slot := 16, constantValue := 0 }, { name := "UNITS", type := (.object "java/util/Map"), accessFlags := 26, slot := 17, constantValue := 0 }, { name := "compact", type := .long, accessFlags := 16, slot := 0, constantValue := 0 }, { name := "scale", type := .int, accessFlags := 16, slot := 1, constantValue := 0 }, { name := "head", type := (.object "java/math/BigDecimal"), accessFlags := 18, slot := 2, constantValue := 0 }, { name := "tail", type := (.array (.object "java/math/BigDecimal")), accessFlags := 18, slot := 3, constantValue := 0 }]
  methods := #[k5m0]
  instanceTypes := #[.long, .int, (.object "java/math/BigDecimal"), (.array (.object "java/math/BigDecimal"))]
  staticTypes := #[(.object "com/example/nearside/nearside/support/SplitDecimal"), .int, .int, .int, .int, (.array .long), .long, .int, .int, .int, (.array .double), .long, .double, .double, .double, .int, .double, (.object "java/util/Map")]
  resolved := Array.replicate 623 none
  statics := none }

def pool6 : Array CpInfo := pool [(1, u "java/lang/Cloneable"), (0, .class_ 1), (0, u "java/lang/Object"), (0, .class_ 3)] 3

/-- java/lang/Cloneable -/
def k6 : Class := { plain "java/lang/Cloneable" (some 0) with
  accessFlags := 1537
  interfaces := #[]
  cf := some (fileOf pool6 2 #[] #[] 1537 4 #[] #[])
  fields := #[]
  methods := #[]
  instanceTypes := #[]
  staticTypes := #[]
  resolved := Array.replicate 8 none
  statics := none }

def pool7 : Array CpInfo := pool [(1, u "java/io/Serializable"), (0, .class_ 1), (0, u "java/lang/Object"), (0, .class_ 3)] 3

/-- java/io/Serializable -/
def k7 : Class := { plain "java/io/Serializable" (some 0) with
  accessFlags := 1537
  interfaces := #[]
  cf := some (fileOf pool7 2 #[] #[] 1537 4 #[] #[])
  fields := #[]
  methods := #[]
  instanceTypes := #[]
  staticTypes := #[]
  resolved := Array.replicate 8 none
  statics := none }

/-- the primitive byte -/
def k8 : Class := { plain "byte" none with kind := .primitive 'B', accessFlags := 0x411 }
/-- [B -/
def k9 : Class := { plain "[B" (some 0) with kind := .array 8 .byte, interfaces := #[6, 7], accessFlags := 1041 }

/-- the primitive int -/
def k10 : Class := { plain "int" none with kind := .primitive 'I', accessFlags := 0x411 }
/-- [I -/
def k11 : Class := { plain "[I" (some 0) with kind := .array 10 .int, interfaces := #[6, 7], accessFlags := 1041 }

/-- the primitive long -/
def k12 : Class := { plain "long" none with kind := .primitive 'J', accessFlags := 0x411 }
/-- [J -/
def k13 : Class := { plain "[J" (some 0) with kind := .array 12 .long, interfaces := #[6, 7], accessFlags := 1041 }

/-- [Lcom/example/nearside/nearside/support/SplitDecimal; -/
def k14 : Class := { plain "[Lcom/example/nearside/nearside/support/SplitDecimal;" (some 0) with kind := .array 5 (.object "com/example/nearside/nearside/support/SplitDecimal"), interfaces := #[6, 7], accessFlags := 1041 }

def heap : Heap := #[]
def classes : Array Class := #[k0, k1, k2, k3, k4, k5, k6, k7, k8, k9, k10, k11, k12, k13, k14]
def interned : List (Array UInt16 × Addr) := []
def slotsUsed : Nat := 0
def theMethod : MethodId := ⟨1, 3⟩
def args0 : Array Value := #[.int 5, .int 300, .long 6, .long 7, .int 27, .int 9]
def aboutOver (below : List Frame) : State where
  vm := { classes := classes, interned := interned.toArray }
  heap := heap
  slotsUsed := slotsUsed
  threads := #[{ frames := .invoking theMethod args0 :: below }]
def below0 : List Frame := [.native { method := ⟨0, 0⟩, args := #[] }]
def about1 : State := aboutOver below0
def p0 : Program := .bare "" "" ""
def e0 : Env := launch0.env 0 0 0
theorem w_frames : about1.frames = Frame.invoking theMethod args0 :: below0 := rfl
set_option maxRecDepth 65536 in
theorem w_args : argsFit about1.vm theMethod args0 = true := by decide +kernel
set_option maxRecDepth 65536 in
theorem w_heap : heapFits about1 = true := by decide +kernel
set_option maxRecDepth 65536 in
theorem w_runnable : about1.curStatus? = some .runnable := by decide +kernel
set_option maxRecDepth 65536 in
theorem w_alone : about1.alone = true := by decide +kernel
set_option maxRecDepth 65536 in
theorem w_named : about1.methodNamed? x = some theMethod := by decide +kernel
set_option maxRecDepth 65536 in
theorem w_hears : about1.hears theMethod below0 = true := by decide +kernel
set_option maxRecDepth 65536 in
theorem w_ripe : about1.ripe theMethod args0 below0 = true := by decide +kernel
theorem w_running : about1.status = .running := rfl
set_option maxRecDepth 65536 in
theorem w_room : about1.hasRoom e0.platform room_1 = true :=
  launch0.hasRoom_least _ room_1 (by decide +kernel) (by decide +kernel) (by decide +kernel) (by decide +kernel) (by decide +kernel) (by decide +kernel)
theorem allAtoms_all (ts : List Jvm.Cond) (a : Array Jvm.Value) (st : Jvm.State) : (allAtoms ts).before a st = ts.all (fun c => c.before a st) := by
  induction ts with
  | nil => rfl
  | cons c t ih =>
    show (Jvm.Cond.and c (allAtoms t)).before a st = _
    rw [Jvm.Cond.before_and, ih, List.all_cons]
def words1 : List Jvm.Cond := Jvm.Cond.code x code maxLocals ret :: tables_1
/-- a 'code' word, met by the world's own term for the bytes: nothing is compared byte by byte -/
theorem code_word {y : MethodName} {bytes : ByteArray} {mx : Nat} {rt : Option FieldType} {a : Array Value} {s : State} {m : MethodId} {meth : Method} {c : Code} (h1 : s.methodNamed? y = some m) (h2 : s.vm.method? m = some meth) (h3 : meth.code = some c) (h4 : c.code = bytes)
    (h5 : (c.maxLocals == mx && c.exceptionTable.isEmpty && decide (c.maxStack ≤ mostOperands) && decide (meth.sig.returnType = rt) && !meth.locks && decide (parseMethodDescriptor y.desc = some meth.sig)) = true) : (Jvm.Cond.code y bytes mx rt).before a s = true := by
  simp only [Bool.and_eq_true, beq_iff_eq, Bool.not_eq_true', decide_eq_true_eq] at h5
  obtain ⟨⟨⟨⟨⟨g1, g2⟩, g3⟩, g4⟩, g5⟩, g6⟩ := h5
  simp [Cond.before, Cond.holds, Cond.value, h1, h2, h3, h4, g1, g2, g3, g4, g5, g6]
def isCode : Jvm.Cond → Bool
  | .code _ _ _ _ => true
  | _ => false
theorem all_split {L : List Jvm.Cond} {P : Jvm.Cond → Bool} (h1 : L.all (fun c => isCode c || P c) = true) (h2 : ∀ c ∈ L.filter isCode, P c = true) : L.all P = true := by
  refine List.all_eq_true.mpr fun c hc => ?_
  have h := List.all_eq_true.mp h1 c hc
  rcases Bool.eq_false_or_eq_true (isCode c) with hi | hi
  · exact h2 c (List.mem_filter.mpr ⟨hc, hi⟩)
  · simpa [hi] using h
set_option maxRecDepth 65536 in
theorem w_c0 : (Jvm.Cond.code x code maxLocals ret).before args0 about1 = true := code_word (m := ⟨1, 3⟩) (meth := k1m3) (c := k1c3) (by decide +kernel) rfl rfl rfl (by decide +kernel)
set_option maxRecDepth 65536 in
theorem w_c1 : (Jvm.Cond.code ({ cls := "com/example/nearside/nearside/support/SplitDecimalArraySetPinLaw", name := "make", desc := "(IJI)Lcom/example/nearside/nearside/support/SplitDecimal;" } : Jvm.MethodName) method_2_code (4 : Nat) (Option.some (Jvm.ClassFile.FieldType.object "com/example/nearside/nearside/support/SplitDecimal"))).before args0 about1 = true := code_word (m := ⟨1, 1⟩) (meth := k1m1) (c := k1c1) (by decide +kernel) rfl rfl rfl (by decide +kernel)
set_option maxRecDepth 65536 in
theorem w_c2 : (Jvm.Cond.code ({ cls := "com/example/nearside/nearside/support/SplitDecimalArray", name := "<init>", desc := "(I)V" } : Jvm.MethodName) prog_177_method_1_code (2 : Nat) (Option.none : Option Jvm.ClassFile.FieldType)).before args0 about1 = true := code_word (m := ⟨2, 0⟩) (meth := k2m0) (c := k2c0) (by decide +kernel) rfl rfl rfl (by decide +kernel)
set_option maxRecDepth 65536 in
theorem w_c3 : (Jvm.Cond.code ({ cls := "java/lang/Object", name := "<init>", desc := "()V" } : Jvm.MethodName) object_method_1_code (1 : Nat) (Option.none : Option Jvm.ClassFile.FieldType)).before args0 about1 = true := code_word (m := ⟨0, 0⟩) (meth := k0m0) (c := k0c0) (by decide +kernel) rfl rfl rfl (by decide +kernel)
set_option maxRecDepth 65536 in
theorem w_c4 : (Jvm.Cond.code ({ cls := "java/util/Arrays", name := "fill", desc := "([JJ)V" } : Jvm.MethodName) jdk_65_method_101_code (5 : Nat) (Option.none : Option Jvm.ClassFile.FieldType)).before args0 about1 = true := code_word (m := ⟨3, 1⟩) (meth := k3m1) (c := k3c1) (by decide +kernel) rfl rfl rfl (by decide +kernel)
set_option maxRecDepth 65536 in
theorem w_c5 : (Jvm.Cond.code ({ cls := "com/example/nearside/nearside/support/SplitDecimalArray", name := "set", desc := "(ILcom/example/nearside/nearside/support/SplitDecimal;)V" } : Jvm.MethodName) prog_177_method_4_code (3 : Nat) (Option.none : Option Jvm.ClassFile.FieldType)).before args0 about1 = true := code_word (m := ⟨2, 1⟩) (meth := k2m1) (c := k2c1) (by decide +kernel) rfl rfl rfl (by decide +kernel)
set_option maxRecDepth 65536 in
theorem w_c6 : (Jvm.Cond.code ({ cls := "com/example/nearside/nearside/support/SplitDecimalArray", name := "get", desc := "(I)Lcom/example/nearside/nearside/support/SplitDecimal;" } : Jvm.MethodName) prog_177_method_5_code (2 : Nat) (Option.some (Jvm.ClassFile.FieldType.object "com/example/nearside/nearside/support/SplitDecimal"))).before args0 about1 = true := code_word (m := ⟨2, 2⟩) (meth := k2m2) (c := k2c2) (by decide +kernel) rfl rfl rfl (by decide +kernel)
set_option maxRecDepth 65536 in
theorem w_c7 : (Jvm.Cond.code ({ cls := "com/example/nearside/nearside/support/SplitDecimalArraySetPinLaw", name := "holds", desc := "(Lcom/example/nearside/nearside/support/SplitDecimal;Lcom/example/nearside/nearside/support/SplitDecimal;)Z" } : Jvm.MethodName) method_3_code (2 : Nat) (Option.some Jvm.ClassFile.FieldType.boolean)).before args0 about1 = true := code_word (m := ⟨1, 2⟩) (meth := k1m2) (c := k1c2) (by decide +kernel) rfl rfl rfl (by decide +kernel)
set_option maxRecDepth 65536 in
theorem w_c8 : (Jvm.Cond.code ({ cls := "com/example/nearside/nearside/support/SplitDecimal", name := "<init>", desc := "(JI)V" } : Jvm.MethodName) prog_175_method_1_code (4 : Nat) (Option.none : Option Jvm.ClassFile.FieldType)).before args0 about1 = true := code_word (m := ⟨5, 0⟩) (meth := k5m0) (c := k5c0) (by decide +kernel) rfl rfl rfl (by decide +kernel)
def codes1 : List Jvm.Cond := [Jvm.Cond.code x code maxLocals ret, Jvm.Cond.code ({ cls := "com/example/nearside/nearside/support/SplitDecimalArraySetPinLaw", name := "make", desc := "(IJI)Lcom/example/nearside/nearside/support/SplitDecimal;" } : Jvm.MethodName) method_2_code (4 : Nat) (Option.some (Jvm.ClassFile.FieldType.object "com/example/nearside/nearside/support/SplitDecimal")), Jvm.Cond.code ({ cls := "com/example/nearside/nearside/support/SplitDecimalArray", name := "<init>", desc := "(I)V" } : Jvm.MethodName) prog_177_method_1_code (2 : Nat) (Option.none : Option Jvm.ClassFile.FieldType), Jvm.Cond.code ({ cls := "java/lang/Object", name := "<init>", desc := "()V" } : Jvm.MethodName) object_method_1_code (1 : Nat) (Option.none : Option Jvm.ClassFile.FieldType), Jvm.Cond.code ({ cls := "java/util/Arrays", name := "fill", desc := "([JJ)V" } : Jvm.MethodName) jdk_65_method_101_code (5 : Nat) (Option.none : Option Jvm.ClassFile.FieldType), Jvm.Cond.code ({ cls := "com/example/nearside/nearside/support/SplitDecimalArray", name := "set", desc := "(ILcom/example/nearside/nearside/support/SplitDecimal;)V" } : Jvm.MethodName) prog_177_method_4_code (3 : Nat) (Option.none : Option Jvm.ClassFile.FieldType), Jvm.Cond.code ({ cls := "com/example/nearside/nearside/support/SplitDecimalArray", name := "get", desc := "(I)Lcom/example/nearside/nearside/support/SplitDecimal;" } : Jvm.MethodName) prog_177_method_5_code (2 : Nat) (Option.some (Jvm.ClassFile.FieldType.object "com/example/nearside/nearside/support/SplitDecimal")), Jvm.Cond.code ({ cls := "com/example/nearside/nearside/support/SplitDecimalArraySetPinLaw", name := "holds", desc := "(Lcom/example/nearside/nearside/support/SplitDecimal;Lcom/example/nearside/nearside/support/SplitDecimal;)Z" } : Jvm.MethodName) method_3_code (2 : Nat) (Option.some Jvm.ClassFile.FieldType.boolean), Jvm.Cond.code ({ cls := "com/example/nearside/nearside/support/SplitDecimal", name := "<init>", desc := "(JI)V" } : Jvm.MethodName) prog_175_method_1_code (4 : Nat) (Option.none : Option Jvm.ClassFile.FieldType)]
set_option maxRecDepth 65536 in
theorem codes_eq : words1.filter isCode = codes1 := rfl
theorem w_codes : ∀ c ∈ words1.filter isCode, c.before args0 about1 = true := by
  rw [codes_eq]
  intro c hc
  simp only [codes1, List.mem_cons, List.not_mem_nil, or_false] at hc
  rcases hc with rfl | rfl | rfl | rfl | rfl | rfl | rfl | rfl | rfl
  · exact w_c0
  · exact w_c1
  · exact w_c2
  · exact w_c3
  · exact w_c4
  · exact w_c5
  · exact w_c6
  · exact w_c7
  · exact w_c8
set_option maxRecDepth 65536 in
theorem w_t1 : (words1.take 24).all (fun c => isCode c || c.before args0 about1) = true := by decide +kernel
set_option maxRecDepth 65536 in
theorem w_t2 : ((words1.drop 24).take 24).all (fun c => isCode c || c.before args0 about1) = true := by decide +kernel
set_option maxRecDepth 65536 in
theorem w_t3 : ((words1.drop 24).drop 24).all (fun c => isCode c || c.before args0 about1) = true := by decide +kernel
theorem w_tables : (allAtoms (Jvm.Cond.code x code maxLocals ret :: tables_1)).before args0 about1 = true := by
  rw [allAtoms_all]
  show words1.all (fun c => c.before args0 about1) = true
  refine all_split ?_ w_codes
  rw [← List.take_append_drop 24 words1, List.all_append, w_t1, ← List.take_append_drop 24 (words1.drop 24), List.all_append, w_t2, w_t3]
  rfl
set_option maxRecDepth 65536 in
theorem w_case : (Jvm.Cond.and given_1 narrow_1).before args0 about1 = true := by decide +kernel
theorem w_applies : (headSpec (Jvm.Cond.code x code maxLocals ret :: tables_1) room_1).applies x e0.platform about1 = true :=
  (Spec.applies_iff w_frames).mpr ⟨w_running, w_runnable, w_alone, w_named, w_hears, w_ripe, w_room, w_tables⟩
theorem atStart : AtStart classFile x code maxLocals ret World_1 tables_1 room_1 Calls_1 rest_1 Pre_1 launch0 p0 e0 about1 theMethod args0 below0 :=
  ⟨lists_1, trivial, launch0.admits_env _ _ _, launch0.least_env, fairChoices_fair.cas, fairChoices_fair.clock, w_frames, w_args, w_heap, w_applies, trivial, trivial, w_case⟩
end start1
theorem witness_1 : WitnessClaimed_1 := ⟨start1.p0, start1.e0, start1.about1, start1.theMethod, start1.args0, start1.below0, start1.atStart⟩
end Jvm.Pilot.@@N@@
