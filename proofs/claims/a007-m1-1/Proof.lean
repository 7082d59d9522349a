import JvmDerived
import JvmDerived.Pilot.@@N@@Statement
import JvmDerived.Pilot.@@N@@Code
set_option linter.unusedVariables false
set_option linter.unusedSimpArgs false
@@BLOCK:NumsL.lean.txt@@
namespace Jvm.Pilot.@@N@@
open Jvm Jvm.ClassFile Sem Op Lib Jvm.Free Jvm.Stand Jvm.LawKit Jvm.RoadKit Bundle Jvm.Pilot.@@N@@.Jvm.D
section Own
variable {p : Program} {l : Launch} {e : Env} {R : Room} {s : State} {m : MethodId} {args : Array Value} {below : List Frame} {meth : Method} {c : Code} {T : State} {locs : List Loc} {cells slots : Nat} {Z : State} {a0 : Array Value} {h : Heap}
/-- from the state A the run comes to the method's end, and Q says what it leaves -/
def OwnFin (p : Program) (e : Env) (below : List Frame) (s : State) (Q : Option Value → Heap → List Loc → Prop) (C S : Nat) (A : State) : Prop :=
  ∃ s₂ o, Steps p.tables e below A s₂ ∧ s₂.status = .running ∧ Ended s₂ below o ∧ ∃ v L, o = .returned v ∧ Q v s₂.heap L ∧ FrameEnd s o s₂ L C S
variable {Q : Option Value → Heap → List Loc → Prop} {C S : Nat}
theorem own_go {A B : State} (h : ∀ t, Steps p.tables e below B t → Steps p.tables e below A t) (k : OwnFin p e below s Q C S B) : OwnFin p e below s Q C S A := by
  obtain ⟨s₂, o, h1, r⟩ := k
  exact ⟨s₂, o, h _ h1, r⟩
theorem own_ret (X : Stand p l e R s m args below meth c T locs cells slots) {v : Option Value} (hlk : meth.locks = false) (hv : meth.sig.returnType = none → v = none) {g : JFrame}
    (hstep : ∀ fs, (∀ (f : JFrame) (acts : List Action), f.method = m → f.locked = none → f.entered = [] → (doReturn e (T.setTop f) acts v).1 = T.setFrames fs) → Steps p.tables e below (T.setTop g) (T.setFrames fs))
    (hc : cells ≤ C) (hs : slots ≤ S) (hQ : Q v T.heap locs) : OwnFin p e below s Q C S (T.setTop g) := by
  obtain ⟨fs, hr, hrun, hended, hW, hsame⟩ := X.leave hv hlk
  exact ⟨_, _, hstep fs hr, hrun, hended, _, _, rfl, hQ, ⟨_, rfl⟩, hW, hsame.mono hc hs⟩
/-- a method's contract, in the form that backOf takes -/
abbrev OwnCtr (l : Launch) (Z : State) (y : MethodName) (ws : List Jvm.Cond) (bytes : ByteArray) (maxL : Nat) (ret : Option FieldType) (rm : Room) (as' : Array Value) (h0 : Heap) (Q : Option Value → Heap → List Loc → Prop) : Prop :=
  MetFree l y (head1 (Jvm.Cond.code y bytes maxL ret :: ws) rm) (fun a U => a = as' ∧ Z.Warmed39 U.vm ∧ U.heap = h0) (fun _ _ _ _ _ => True) (fun _ U o U' => ∃ v L, o = .returned v ∧ Q v U'.heap L ∧ FrameEnd U o U' L rm.cells rm.slots)
theorem own_body {l : Launch} {Z : State} {y : MethodName} {ws : List Jvm.Cond} {bytes : ByteArray} {maxL : Nat} {ret : Option FieldType} {rm : Room} {as' : Array Value} {h0 : Heap} {g0 : MethodId → JFrame}
    (hpl : plainFor y = true) (hef : ∀ m, entryFrame m as' maxL = g0 m)
    (body : ∀ (p : Program) (e : Env) (s : State) (m : MethodId) (below : List Frame) (meth : Method) (c : Code) (s₁ : State), Stand p l e rm s m as' below meth c s₁ [] 0 0 → p.tables.exec = Jvm.exec → c.code = bytes → c.maxLocals = maxL →
      s.vm.findClass y.cls = some m.cls → meth.name = y.name → Z.Warmed39 s.vm → s₁.heap = h0 → meth.sig.returnType = ret → meth.locks = false → OwnFin p e below s Q rm.cells rm.slots (s₁.setTop (g0 m))) :
    OwnCtr l Z y ws bytes maxL ret rm as' h0 Q := by
  refine MetFree.of_bodySF hpl hisR ?_
  intro p e s m args below meth c s₁ Bd hml0 hP hK
  obtain ⟨rfl, hZ, hh⟩ := hP
  have e0 : s₁.heap = h0 := by rw [← hh, Bd.state]; rfl
  have k := body p e s m below meth c s₁ (Stand.of_body Bd) Bd.exec Bd.bytes hml0 (findClass_of_methodNamed Bd.named) (name_of_methodNamed Bd.named Bd.method).1 hZ e0 Bd.returns Bd.notSynchronized
  rw [← hef m] at k
  exact k
/-- a static call by its contract -/
theorem own_callS (X : Stand p l e R s m args below meth c T locs cells slots) (hx : p.tables.exec = Jvm.exec) (hZ : Z.Warmed39 s.vm) {own : String} {index : Nat} {y : MethodName} {bytes : ByteArray} {maxL : Nat} {ret : Option FieldType} {rm : Room} {as' : Array Value} {Q : Option Value → Heap → List Loc → Prop}
    (hown : s.vm.findClass own = some m.cls) (hlink : (Cond.methodLink own index y).before a0 Z = true) (hstat : (Cond.static y).before a0 Z = true) (hinit : (Cond.initialized y.cls).before a0 Z = true) (hcode : (Cond.code y bytes maxL ret).before a0 Z = true)
    (hy : y.cls ≠ "java/lang/invoke/MethodHandle" ∧ y.cls ≠ "java/lang/invoke/VarHandle") {W : Nat} (hM : OwnCtr l Z y [] bytes maxL ret rm as' h Q) (hf : rm.frames + 1 ≤ R.frames) (hl : W + (maxL + 11) + rm.locals ≤ R.locals)
    {g : JFrame} (hg : g.method = m) (hsize : g.locals.size = c.maxLocals) {argsL rest : List Value} (hlen : ∀ sig, parseMethodDescriptor y.desc = some sig → argsL.length = sig.parameters.length)
    (hstack : g.stack = argsL.reverse ++ rest) (hW : 2 * g.monitorRoom + (rest.map fun v => v.category).sum ≤ W) (hdg : decode c.code g.pc = .ok (.invokestatic index, 3)) (eT : T.heap = h) (ha : argsL.toArray = as') (hc : cells + rm.cells ≤ R.cells) (hs : slots + rm.slots ≤ R.slots) :
    ∃ (v : Option Value) (T' : State) (L : List Loc), Stand p l e R s m args below meth c T' (locs ++ L) (cells + rm.cells) (slots + rm.slots) ∧ Q v T'.heap L ∧ ∀ target, Steps p.tables e below (T'.setTop { g with pc := g.pc + 3, stack := v.toList ++ rest }) target → Steps p.tables e below (T.setTop g) target := by
  obtain ⟨v, _, ⟨T', L', k, n⟩, -, X', ⟨L, hQ, l1, y1, z1⟩, st⟩ := Jvm.LawKit.callS X hx (y := y) hown (mvT hZ hlink) (mvT hZ hstat) (mvT hZ hinit) (mvT hZ hcode) hy (backOf (W := W) hM hZ hcode hinit hf hl) hg hsize hlen hstack hW hdg (fun _ _ => ⟨ha, eT, hc, hs⟩)
  dsimp only [Pt.U, Pt.locs, Pt.cells, Pt.slots] at X' l1 y1 z1 st hQ
  subst l1 y1 z1
  exact ⟨v, T', L, X', hQ, st⟩
/-- a constructor by its contract -/
theorem own_callI (X : Stand p l e R s m args below meth c T locs cells slots) (hx : p.tables.exec = Jvm.exec) (hZ : Z.Warmed39 s.vm) {own : String} {index : Nat} {y : MethodName} {bytes : ByteArray} {maxL : Nat} {rm : Room} {as' : Array Value} {Q : Option Value → Heap → List Loc → Prop}
    (hy1 : y.name = "<init>") (hown : s.vm.findClass own = some m.cls) (hlink : (Cond.methodLink own index y).before a0 Z = true) (hinst : (Cond.instanceMethod y).before a0 Z = true) (hinit : (Cond.initialized y.cls).before a0 Z = true) (hcode : (Cond.code y bytes maxL none).before a0 Z = true)
    (hy : y.cls ≠ "java/lang/invoke/MethodHandle" ∧ y.cls ≠ "java/lang/invoke/VarHandle") {W : Nat} (hM : OwnCtr l Z y [] bytes maxL none rm as' h Q) (hf : rm.frames + 1 ≤ R.frames) (hl : W + (maxL + 11) + rm.locals ≤ R.locals)
    {g : JFrame} (hg : g.method = m) (hsize : g.locals.size = c.maxLocals) {a : Addr} {argsL rest : List Value} (hlen : ∀ sig, parseMethodDescriptor y.desc = some sig → argsL.length = sig.parameters.length)
    (hstack : g.stack = argsL.reverse ++ .ref a :: rest) (hW : 2 * g.monitorRoom + (rest.map fun v => v.category).sum ≤ W) (hdg : decode c.code g.pc = .ok (.invokespecial index, 3)) (eT : T.heap = h) (ha : (.ref a :: argsL).toArray = as') (hc : cells + rm.cells ≤ R.cells) (hs : slots + rm.slots ≤ R.slots) :
    ∃ (v : Option Value) (T' : State) (L : List Loc), Stand p l e R s m args below meth c T' (locs ++ L) (cells + rm.cells) (slots + rm.slots) ∧ Q v T'.heap L ∧ ∀ target, Steps p.tables e below (T'.setTop { g with pc := g.pc + 3, stack := v.toList ++ rest }) target → Steps p.tables e below (T.setTop g) target := by
  obtain ⟨v, _, ⟨T', L', k, n⟩, -, X', ⟨L, hQ, l1, y1, z1⟩, st⟩ := X.specialBack hx (y := y) hy1 hown (mvT hZ hlink) (mvT hZ hinst) (mvT hZ hcode) hy (backOf (W := W) hM hZ hcode hinit hf hl) hg hsize (Steps.refl _) hlen hstack hW hdg (fun _ _ => ⟨ha, eT, hc, hs⟩)
  dsimp only [Pt.U, Pt.locs, Pt.cells, Pt.slots] at X' l1 y1 z1 st hQ
  subst l1 y1 z1
  exact ⟨v, T', L, X', hQ, fun t k => st.trans k⟩
/-- an instance method by its contract -/
theorem own_callV (X : Stand p l e R s m args below meth c T locs cells slots) (hx : p.tables.exec = Jvm.exec) (hZ : Z.Warmed39 s.vm) {own K : String} {index : Nat} {y z : MethodName} {bytes : ByteArray} {maxL : Nat} {ret : Option FieldType} {rm : Room} {as' : Array Value} {Q : Option Value → Heap → List Loc → Prop}
    (hown : s.vm.findClass own = some m.cls) (hlink : (Cond.methodLink own index y).before a0 Z = true) (hdecl : (Cond.declares y).before a0 Z = true) (hnf : NotFace s y) (hsel : (Cond.selects K y z).before a0 Z = true) (hinst : (Cond.instanceMethod z).before a0 Z = true) (hinit : (Cond.initialized z.cls).before a0 Z = true) (hcode : (Cond.code z bytes maxL ret).before a0 Z = true)
    (hy : y.cls ≠ "java/lang/invoke/MethodHandle" ∧ y.cls ≠ "java/lang/invoke/VarHandle") {W : Nat} (hM : OwnCtr l Z z [] bytes maxL ret rm as' h Q) (hf : rm.frames + 1 ≤ R.frames) (hl : W + (maxL + 11) + rm.locals ≤ R.locals)
    {b : Addr} (E : Exa Z h b K) {g : JFrame} (hg : g.method = m) (hsize : g.locals.size = c.maxLocals) {argsL rest : List Value} (hlen : ∀ sig, parseMethodDescriptor y.desc = some sig → argsL.length = sig.parameters.length)
    (hstack : g.stack = argsL.reverse ++ .ref b :: rest) (hW : 2 * g.monitorRoom + (rest.map fun v => v.category).sum ≤ W) (hdg : decode c.code g.pc = .ok (.invokevirtual index, 3)) (eT : T.heap = h) (ha : (.ref b :: argsL).toArray = as') (hc : cells + rm.cells ≤ R.cells) (hs : slots + rm.slots ≤ R.slots) :
    ∃ (v : Option Value) (T' : State) (L : List Loc), Stand p l e R s m args below meth c T' (locs ++ L) (cells + rm.cells) (slots + rm.slots) ∧ Q v T'.heap L ∧ ∀ target, Steps p.tables e below (T'.setTop { g with pc := g.pc + 3, stack := v.toList ++ rest }) target → Steps p.tables e below (T.setTop g) target := by
  obtain ⟨cq, kq, qa, qb, qc⟩ := isOf hZ eT E
  obtain ⟨v, _, ⟨T', L', k, n⟩, -, X', ⟨L, hQ, l1, y1, z1⟩, st⟩ := X.virtualBack hx (y := y) (z := z) hown (mvT hZ hlink) (mvT hZ hdecl) hnf (mvT hZ hsel) (mvT hZ hinst) hy (backOf (W := W) hM hZ hcode hinit hf hl) qa qc hg hsize (Steps.refl _) hlen hstack hW hdg (fun _ _ => ⟨ha, eT, hc, hs⟩)
  dsimp only [Pt.U, Pt.locs, Pt.cells, Pt.slots] at X' l1 y1 z1 st hQ
  subst l1 y1 z1
  exact ⟨v, T', L, X', hQ, fun t k => st.trans k⟩
/-- a private instance method, called by invokevirtual, by its contract -/
theorem own_callP (X : Stand p l e R s m args below meth c T locs cells slots) (hx : p.tables.exec = Jvm.exec) (hZ : Z.Warmed39 s.vm) {own : String} {index : Nat} {y : MethodName} {bytes : ByteArray} {maxL : Nat} {ret : Option FieldType} {rm : Room} {as' : Array Value} {Q : Option Value → Heap → List Loc → Prop}
    (hown : s.vm.findClass own = some m.cls) (hlink : (Cond.methodLink own index y).before a0 Z = true) (hinst : (Cond.instanceMethod y).before a0 Z = true) (hsel : (Cond.selects y.cls y y).before a0 Z = true) (hpriv : (Cond.privateMethod y).before a0 Z = true) (hinit : (Cond.initialized y.cls).before a0 Z = true) (hcode : (Cond.code y bytes maxL ret).before a0 Z = true)
    (hy : y.cls ≠ "java/lang/invoke/MethodHandle" ∧ y.cls ≠ "java/lang/invoke/VarHandle") {W : Nat} (hM : OwnCtr l Z y [] bytes maxL ret rm as' h Q) (hf : rm.frames + 1 ≤ R.frames) (hl : W + (maxL + 11) + rm.locals ≤ R.locals)
    {b : Addr} {K : String} (E : Exa Z h b K) {g : JFrame} (hg : g.method = m) (hsize : g.locals.size = c.maxLocals) {argsL rest : List Value} (hlen : ∀ sig, parseMethodDescriptor y.desc = some sig → argsL.length = sig.parameters.length)
    (hstack : g.stack = argsL.reverse ++ .ref b :: rest) (hW : 2 * g.monitorRoom + (rest.map fun v => v.category).sum ≤ W) (hdg : decode c.code g.pc = .ok (.invokevirtual index, 3)) (eT : T.heap = h) (ha : (.ref b :: argsL).toArray = as') (hc : cells + rm.cells ≤ R.cells) (hs : slots + rm.slots ≤ R.slots) :
    ∃ (v : Option Value) (T' : State) (L : List Loc), Stand p l e R s m args below meth c T' (locs ++ L) (cells + rm.cells) (slots + rm.slots) ∧ Q v T'.heap L ∧ ∀ target, Steps p.tables e below (T'.setTop { g with pc := g.pc + 3, stack := v.toList ++ rest }) target → Steps p.tables e below (T.setTop g) target := by
  obtain ⟨cq, q1, q2⟩ := E.cell
  obtain ⟨v, _, ⟨T', L', k, n⟩, -, X', ⟨L, hQ, l1, y1, z1⟩, st⟩ := X.privateBack hx (y := y) hown (mvT hZ hlink) (mvT hZ hinst) (mvT hZ hsel) (Cond.privateMethod_at (mvP hZ hpriv (args := #[]))) (mvT hZ hcode) hy (backOf (W := W) hM hZ hcode hinit hf hl) hg hsize (Steps.refl _) (by rw [eT]; exact q1) q2 hlen hstack hW hdg (fun _ _ => ⟨ha, eT, hc, hs⟩)
  dsimp only [Pt.U, Pt.locs, Pt.cells, Pt.slots] at X' l1 y1 z1 st hQ
  subst l1 y1 z1
  exact ⟨v, T', L, X', hQ, fun t k => st.trans k⟩
theorem own_retI (X : Stand p l e R s m args below meth c T locs cells slots) (hx : p.tables.exec = Jvm.exec) {pc : Nat} {Ls : Array Slot} {z : Int32} {rest : List Value} (hret : meth.sig.returnType = some .int) (hd : decode c.code pc = .ok (.ireturn, 1)) {fs : List Frame}
    (hl : ∀ (f : JFrame) (acts : List Action), f.method = m → f.locked = none → f.entered = [] → (doReturn e (T.setTop f) acts (some (.int z))).1 = T.setFrames fs) : Steps p.tables e below (T.setTop (mkF m pc Ls (.int z :: rest))) (T.setFrames fs) :=
  retOut X hx hret rfl (Or.inl ⟨rfl, Or.inl rfl, _, rfl⟩) hd hl
theorem own_retJ (X : Stand p l e R s m args below meth c T locs cells slots) (hx : p.tables.exec = Jvm.exec) {pc : Nat} {Ls : Array Slot} {z : Int64} {rest : List Value} (hret : meth.sig.returnType = some .long) (hd : decode c.code pc = .ok (.lreturn, 1)) {fs : List Frame}
    (hl : ∀ (f : JFrame) (acts : List Action), f.method = m → f.locked = none → f.entered = [] → (doReturn e (T.setTop f) acts (some (.long z))).1 = T.setFrames fs) : Steps p.tables e below (T.setTop (mkF m pc Ls (.long z :: rest))) (T.setFrames fs) :=
  retOut X hx hret rfl (Or.inr (Or.inl ⟨rfl, rfl, _, rfl⟩)) hd hl
theorem own_retR (X : Stand p l e R s m args below meth c T locs cells slots) (hx : p.tables.exec = Jvm.exec) {pc : Nat} {Ls : Array Slot} {w : Value} {t : FieldType} {rest : List Value} (hret : meth.sig.returnType = some t) (ht : t.isReference = true) (hw : w.isRef = true) (hd : decode c.code pc = .ok (.areturn, 1)) {fs : List Frame}
    (hl : ∀ (f : JFrame) (acts : List Action), f.method = m → f.locked = none → f.entered = [] → (doReturn e (T.setTop f) acts (some w)).1 = T.setFrames fs) : Steps p.tables e below (T.setTop (mkF m pc Ls (w :: rest))) (T.setFrames fs) :=
  retOut X hx hret (by cases t <;> simp [FieldType.isReference] at ht <;> cases w <;> simp [Value.isRef] at hw <;> rfl) (Or.inr (Or.inr (Or.inr (Or.inr ⟨rfl, ht, hw⟩)))) hd hl
theorem own_stakeep {h' : Heap} {O n d : String} {v : Value} (F : Sta Z h O n d v) (K : Keep h h' []) : Sta Z h' O n d v := by
  obtain ⟨cf, i, k, f, st, cell, h1, h2, h3, h4, h5, r⟩ := F
  exact ⟨cf, i, k, f, st, cell, h1, h2, h3, h4, K.2.1 _ _ h5 nin0, r⟩
end Own

section OwnArrays
variable {p : Program} {l : Launch} {e : Env} {R : Room} {s : State} {m : MethodId} {args : Array Value} {below : List Frame} {meth : Method} {c : Code} {T : State} {locs : List Loc} {cells slots : Nat} {Z : State} {a0 : Array Value} {h h' : Heap} {a b : Addr} {ty : FieldType} {n : Nat} {f : Nat → Value}
/-- at a lies an array of n places of the kind ty, and its i-th place holds f i -/
def OwnArr (Z : State) (h : Heap) (a : Addr) (ty : FieldType) (n : Nat) (f : Nat → Value) : Prop := ∃ c : Cell, Arr Z h a c ty ∧ c.slots.size = n ∧ n < 2 ^ 31 ∧ ∀ i, i < n → c.slots[i]? = some (f i)
theorem OwnArr.lt (F : OwnArr Z h a ty n f) : a < h.size := by obtain ⟨c, A, -⟩ := F; exact A.lt
theorem OwnArr.ext (F : OwnArr Z h a ty n f) (E : Ext h h') : OwnArr Z h' a ty n f := by obtain ⟨c, A, r⟩ := F; exact ⟨c, A.ext E, r⟩
theorem OwnArr.other {sl : Nat} {v : Value} (F : OwnArr Z h b ty n f) (W : Wr h h' a sl v) (q : b ≠ a) : OwnArr Z h' b ty n f := by obtain ⟨c, A, r⟩ := F; exact ⟨c, A.other W q, r⟩
theorem OwnArr.keep {ws : List Addr} (F : OwnArr Z h a ty n f) (K : Keep h h' ws) (q : a ∉ ws) : OwnArr Z h' a ty n f := by obtain ⟨c, A, r⟩ := F; exact ⟨c, ⟨K.2.1 a c A.1 q, A.2⟩, r⟩
theorem OwnArr.congr {f' : Nat → Value} (F : OwnArr Z h a ty n f) (q : ∀ i, i < n → f i = f' i) : OwnArr Z h a ty n f' := by obtain ⟨c, A, r1, r2, r3⟩ := F; exact ⟨c, A, r1, r2, fun i hi => by rw [← q i hi]; exact r3 i hi⟩
theorem OwnArr.set {i : Nat} {v : Value} (F : OwnArr Z h a ty n f) (W : Wr h h' a i v) : OwnArr Z h' a ty n (fun k => if k = i then v else f k) := by
  obtain ⟨c, A, r1, r2, r3⟩ := F
  refine ⟨_, A.same W, by rw [sz_set]; exact r1, r2, fun k hk => ?_⟩
  show (c.slots.setIfInBounds i v)[k]? = _
  by_cases e : k = i
  · subst e; simp [r1, hk]
  · rw [Array.getElem?_setIfInBounds_ne (Ne.symm e), r3 k hk]; simp [e]
theorem own_newarr (X : Stand p l e R s m args below meth c T locs cells slots) (hx : p.tables.exec = Jvm.exec) (hZ : Z.Warmed39 s.vm) {aty : ArrayType} (w : (Cond.arrayClass (newarray.typeOf aty)).before a0 Z = true) (eT : T.heap = h) {g : JFrame} (hg : g.method = m) (hd : decode c.code g.pc = .ok (.newarray aty, 2)) {z : Int32} {rest : List Value} (hs : g.stack = .int z :: rest)
    {n cap : Nat} (hz : z = Int32.ofNat n) (hcap : n ≤ cap) (hb : cap * 8 ≤ 536870912) (hc : cells + 1 ≤ R.cells) (hl : slots + cap ≤ R.slots) :
    ∃ T' h', Stand p l e R s m args below meth c T' locs (cells + 1) (slots + cap) ∧ T'.heap = h' ∧ Ext h h' ∧ OwnArr Z h' h.size (newarray.typeOf aty) n (fun _ => defaultValue (newarray.typeOf aty)) ∧
      ∀ target, Steps p.tables e below (T'.setTop { g with pc := g.pc + 2, stack := .ref h.size :: rest }) target → Steps p.tables e below (T.setTop g) target := by
  have hn31 : n < 2 ^ 31 := by omega
  have hcl : z.toNatClampNeg = n := clamp_of hz hn31
  have hnn : ¬ z < 0 := by
    have q := toInt_of hz hn31
    rw [Int32.lt_iff_toInt_lt, q, Int32.toInt_zero]; omega
  obtain ⟨T', h', cA, X', e', E', A', st⟩ := newP X hx hZ w eT hg hd hs hnn (cap := cap) (by rw [hcl]; exact hcap) hb hc hl
  refine ⟨T', h', X', e', E', ⟨_, A', by rw [sz_new, hcl], hn31, fun i hi => ?_⟩, st⟩
  show (Array.replicate z.toNatClampNeg _)[i]? = _
  rw [hcl]; simp [hi]
theorem own_laload (X : Stand p l e R s m args below meth c T locs cells slots) (hx : p.tables.exec = Jvm.exec) (hZ : Z.Warmed39 s.vm) (eT : T.heap = h) (A : OwnArr Z h a .long n f) {j : Int32} {i : Nat} (hj : j = Int32.ofNat i) (hi : i < n) {g : JFrame} (hg : g.method = m) {rest : List Value} (hs : g.stack = .int j :: .ref a :: rest) (hd : decode c.code g.pc = .ok (.laload, 1)) :
    ∀ target, Steps p.tables e below (T.setTop { g with pc := g.pc + 1, stack := f i :: rest }) target → Steps p.tables e below (T.setTop g) target := by
  obtain ⟨cl, A, r1, r2, r3⟩ := A
  exact fun t k => X.laload hx (j := j) (v := f i) (by rw [eT]; exact A.1) (State.isArrayOf_alike hZ.alike A.2.1) A.2.2 (by rw [r1]; exact within hj hi r2) (by rw [clamp_of hj (by omega)]; exact r3 i hi) hg hs hd t k
theorem own_iaload (X : Stand p l e R s m args below meth c T locs cells slots) (hx : p.tables.exec = Jvm.exec) (hZ : Z.Warmed39 s.vm) (eT : T.heap = h) (A : OwnArr Z h a .int n f) {j : Int32} {i : Nat} (hj : j = Int32.ofNat i) (hi : i < n) {g : JFrame} (hg : g.method = m) {rest : List Value} (hs : g.stack = .int j :: .ref a :: rest) (hd : decode c.code g.pc = .ok (.iaload, 1)) :
    ∀ target, Steps p.tables e below (T.setTop { g with pc := g.pc + 1, stack := f i :: rest }) target → Steps p.tables e below (T.setTop g) target := by
  obtain ⟨cl, A, r1, r2, r3⟩ := A
  exact fun t k => X.iaload hx (j := j) (v := f i) (by rw [eT]; exact A.1) (State.isArrayOf_alike hZ.alike A.2.1) A.2.2 (by rw [r1]; exact within hj hi r2) (by rw [clamp_of hj (by omega)]; exact r3 i hi) hg hs hd t k
theorem own_zaload (X : Stand p l e R s m args below meth c T locs cells slots) (hx : p.tables.exec = Jvm.exec) (hZ : Z.Warmed39 s.vm) (eT : T.heap = h) (A : OwnArr Z h a .boolean n f) {j : Int32} {i : Nat} (hj : j = Int32.ofNat i) (hi : i < n) {g : JFrame} (hg : g.method = m) {rest : List Value} (hs : g.stack = .int j :: .ref a :: rest) (hd : decode c.code g.pc = .ok (.baload, 1)) :
    ∀ target, Steps p.tables e below (T.setTop { g with pc := g.pc + 1, stack := f i :: rest }) target → Steps p.tables e below (T.setTop g) target := by
  obtain ⟨cl, A, r1, r2, r3⟩ := A
  exact fun t k => X.baloadBooleans hx (j := j) (v := f i) (by rw [eT]; exact A.1) (State.isArrayOf_alike hZ.alike A.2.1) A.2.2 (by rw [r1]; exact within hj hi r2) (by rw [clamp_of hj (by omega)]; exact r3 i hi) hg hs hd t k
theorem own_alength (X : Stand p l e R s m args below meth c T locs cells slots) (hx : p.tables.exec = Jvm.exec) (hZ : Z.Warmed39 s.vm) (eT : T.heap = h) (A : OwnArr Z h a ty n f) {g : JFrame} (hg : g.method = m) {rest : List Value} (hs : g.stack = .ref a :: rest) (hd : decode c.code g.pc = .ok (.arraylength, 1)) :
    ∀ target, Steps p.tables e below (T.setTop { g with pc := g.pc + 1, stack := .int (Int32.ofNat n) :: rest }) target → Steps p.tables e below (T.setTop g) target := by
  obtain ⟨cl, A, r1, r2, r3⟩ := A
  subst r1
  exact fun t k => X.arraylength hx (by rw [eT]; exact A.1) (State.isArrayOf_alike hZ.alike A.2.1) hg hs hd t k
theorem own_lastore (X : Stand p l e R s m args below meth c T locs cells slots) (hx : p.tables.exec = Jvm.exec) (hZ : Z.Warmed39 s.vm) (eT : T.heap = h) (A : OwnArr Z h a .long n f) {j : Int32} {i : Nat} {x : Int64} (hj : j = Int32.ofNat i) (hi : i < n) {g : JFrame} (hg : g.method = m) {rest : List Value} (hs : g.stack = .long x :: .int j :: .ref a :: rest) (hd : decode c.code g.pc = .ok (.lastore, 1)) :
    ∃ T' h', Stand p l e R s m args below meth c T' (locs ++ [⟨a, i⟩]) cells slots ∧ T'.heap = h' ∧ Wr h h' a i (.long x) ∧ OwnArr Z h' a .long n (fun k => if k = i then .long x else f k) ∧ ∀ target, Steps p.tables e below (T'.setTop { g with pc := g.pc + 1, stack := rest }) target → Steps p.tables e below (T.setTop g) target := by
  have A0 := A
  obtain ⟨cl, A, r1, r2, r3⟩ := A
  obtain ⟨T', h', X', e', W, st⟩ := stJ X hx hZ eT A (j := j) (x := x) (by rw [r1]; exact within hj hi r2) hg hs hd
  rw [clamp_of hj (by omega)] at X' W
  exact ⟨T', h', X', e', W, A0.set W, st⟩
theorem own_iastore (X : Stand p l e R s m args below meth c T locs cells slots) (hx : p.tables.exec = Jvm.exec) (hZ : Z.Warmed39 s.vm) (eT : T.heap = h) (A : OwnArr Z h a .int n f) {j : Int32} {i : Nat} {x : Int32} (hj : j = Int32.ofNat i) (hi : i < n) {g : JFrame} (hg : g.method = m) {rest : List Value} (hs : g.stack = .int x :: .int j :: .ref a :: rest) (hd : decode c.code g.pc = .ok (.iastore, 1)) :
    ∃ T' h', Stand p l e R s m args below meth c T' (locs ++ [⟨a, i⟩]) cells slots ∧ T'.heap = h' ∧ Wr h h' a i (.int x) ∧ OwnArr Z h' a .int n (fun k => if k = i then .int x else f k) ∧ ∀ target, Steps p.tables e below (T'.setTop { g with pc := g.pc + 1, stack := rest }) target → Steps p.tables e below (T.setTop g) target := by
  have A0 := A
  obtain ⟨cl, A, r1, r2, r3⟩ := A
  obtain ⟨T', h', X', e', W, st⟩ := stI X hx hZ eT A (j := j) (x := x) (by rw [r1]; exact within hj hi r2) hg hs hd
  rw [clamp_of hj (by omega)] at X' W
  exact ⟨T', h', X', e', W, A0.set W, st⟩
theorem own_zastore (X : Stand p l e R s m args below meth c T locs cells slots) (hx : p.tables.exec = Jvm.exec) (hZ : Z.Warmed39 s.vm) (eT : T.heap = h) (A : OwnArr Z h a .boolean n f) {j : Int32} {i : Nat} {x : Int32} (hj : j = Int32.ofNat i) (hi : i < n) {g : JFrame} (hg : g.method = m) {rest : List Value} (hs : g.stack = .int x :: .int j :: .ref a :: rest) (hd : decode c.code g.pc = .ok (.bastore, 1)) :
    ∃ T' h', Stand p l e R s m args below meth c T' (locs ++ [⟨a, i⟩]) cells slots ∧ T'.heap = h' ∧ Wr h h' a i (.int (nar .boolean x)) ∧ OwnArr Z h' a .boolean n (fun k => if k = i then .int (nar .boolean x) else f k) ∧ ∀ target, Steps p.tables e below (T'.setTop { g with pc := g.pc + 1, stack := rest }) target → Steps p.tables e below (T.setTop g) target := by
  have A0 := A
  obtain ⟨cl, A, r1, r2, r3⟩ := A
  obtain ⟨T', h', X', e', W, st⟩ := stZ X hx hZ eT A (j := j) (x := x) (by rw [r1]; exact within hj hi r2) hg hs hd
  rw [clamp_of hj (by omega)] at X' W
  exact ⟨T', h', X', e', W, A0.set W, st⟩
theorem own_longs (F : OwnArr Z h a .long n f) (q : ∀ i, i < n → ∃ x : Int64, f i = .long x) : ∃ g : Nat → Int64, OwnArr Z h a .long n (fun i => .long (g i)) := by
  have q' : ∀ i, ∃ x : Int64, i < n → f i = .long x := fun i => by
    by_cases hi : i < n
    · obtain ⟨x, hx⟩ := q i hi; exact ⟨x, fun _ => hx⟩
    · exact ⟨0, fun z => absurd z hi⟩
  exact ⟨fun i => Classical.choose (q' i), F.congr fun i hi => Classical.choose_spec (q' i) hi⟩
end OwnArrays

def own_pick (k : Int32) (x y z : Int64) : Int64 := if (k &&& (3 : Int32)) = 1 then y else if (k &&& (3 : Int32)) = 2 then z else x
open Classical in
def own_eq (fA fB : Nat → Int64) (fr len : Nat) : Int32 := if ∀ i, i < len → fA (fr + i) = fB i then 1 else 0
theorem own_eq1 {fA fB : Nat → Int64} {fr len : Nat} (h : ∀ i, i < len → fA (fr + i) = fB i) : own_eq fA fB fr len = 1 := if_pos h
theorem own_eq0 {fA fB : Nat → Int64} {fr len i : Nat} (hi : i < len) (h : ¬ fA (fr + i) = fB i) : own_eq fA fB fr len = 0 := if_neg fun q => h (q i hi)
theorem own_and3 (x : Int32) : ∃ k : Nat, x &&& (3 : Int32) = Int32.ofNat k ∧ k ≤ 3 := by
  have h := c_mask x 3 2 (by decide) (by decide)
  refine ⟨(x &&& 3).toInt.toNat, ?_, by omega⟩
  apply Int32.toInt_inj.mp
  rw [toInt_of (n := Int32.ofNat (x &&& 3).toInt.toNat) rfl (by omega)]
  omega
theorem own_from (x : Int32) {d : Nat} (hd : 0 < d) (hd5 : d ≤ 5) {q : Int32} (hq : q = Int32.ofNat d) : ∃ k : Nat, ((x.toUInt32 >>> ((2 : Int32) &&& 31).toUInt32).toInt32 % q) = Int32.ofNat k ∧ k < d := by
  have h := c_iushr x 2 2 (by decide) (by decide)
  have hq' := toInt_of hq (by omega)
  have h1 := Jvm.Kit.i32_rem_nonneg (x := (x.toUInt32 >>> ((2 : Int32) &&& 31).toUInt32).toInt32) (y := q) (by rw [h]; exact Int.ediv_nonneg (Int.emod_nonneg _ (by decide)) (by decide))
  have h2 : 0 ≤ ((x.toUInt32 >>> ((2 : Int32) &&& 31).toUInt32).toInt32 % q).toInt := by rw [h1, hq']; exact Int.emod_nonneg _ (by omega)
  have h3 : ((x.toUInt32 >>> ((2 : Int32) &&& 31).toUInt32).toInt32 % q).toInt < d := by rw [h1, hq']; exact Int.emod_lt_of_pos _ (by omega)
  refine ⟨((x.toUInt32 >>> ((2 : Int32) &&& 31).toUInt32).toInt32 % q).toInt.toNat, ?_, by omega⟩
  apply Int32.toInt_inj.mp
  rw [toInt_of (n := Int32.ofNat ((x.toUInt32 >>> ((2 : Int32) &&& 31).toUInt32).toInt32 % q).toInt.toNat) rfl (by omega)]
  omega
theorem own_addN (a b : Nat) : Int32.ofNat a + Int32.ofNat b = Int32.ofNat (a + b) := (Int32.ofNat_add a b).symm
theorem d1_0 : decode method_2_code 0 = .ok (.iload_n 0, 1) := by decide +kernel
theorem d1_1 : decode method_2_code 1 = .ok (.iconst 3, 1) := by decide +kernel
theorem d1_2 : decode method_2_code 2 = .ok (.iand, 1) := by decide +kernel
theorem d1_3 : decode method_2_code 3 = .ok (.istore 7, 2) := by decide +kernel
theorem d1_5 : decode method_2_code 5 = .ok (.iload 7, 2) := by decide +kernel
theorem d1_7 : decode method_2_code 7 = .ok (.iconst 1, 1) := by decide +kernel
theorem d1_8 : decode method_2_code 8 = .ok (.if_icmp .ne 5, 3) := by decide +kernel
theorem d1_11 : decode method_2_code 11 = .ok (.lload_n 3, 1) := by decide +kernel
theorem d1_12 : decode method_2_code 12 = .ok (.lreturn, 1) := by decide +kernel
theorem d1_13 : decode method_2_code 13 = .ok (.iload 7, 2) := by decide +kernel
theorem d1_15 : decode method_2_code 15 = .ok (.iconst 2, 1) := by decide +kernel
theorem d1_16 : decode method_2_code 16 = .ok (.if_icmp .ne 6, 3) := by decide +kernel
theorem d1_19 : decode method_2_code 19 = .ok (.lload 5, 2) := by decide +kernel
theorem d1_21 : decode method_2_code 21 = .ok (.lreturn, 1) := by decide +kernel
theorem d1_22 : decode method_2_code 22 = .ok (.lload_n 1, 1) := by decide +kernel
theorem d1_23 : decode method_2_code 23 = .ok (.lreturn, 1) := by decide +kernel
theorem pn_1 : plainFor (⟨"com/example/trapline/trapline/collect/NumberedSetEqualPinLaw", "pick", "(IJJJ)J"⟩ : MethodName) = true := plainFor_of_name (by first | (simp [plainName, overriddenIn]; done) | decide +kernel)
theorem ef_1 (m : MethodId) (p1 : Int32) (q2 : Int64) (q3 : Int64) (q4 : Int64) : entryFrame m #[(.int p1), (.long q2), (.long q3), (.long q4)] 8 = mkF m 0 #[.val (.int p1), .val (.long q2), .second, .val (.long q3), .second, .val (.long q4), .second, .unset] [] := by first | (simp [entryFrame, mkF, argsToLocals, Value.category]; done) | rfl
set_option maxRecDepth 65536 in
set_option maxHeartbeats 40000000 in
theorem rm1 (l : Launch) (Z : State) (a0 : Array Value) (hw : ∀ d ∈ tables_1, d.before a0 Z = true) (ws : List Jvm.Cond) (p1 : Int32) (q2 : Int64) (q3 : Int64) (q4 : Int64) (h0 : Heap) (n0 : Nat) (Z0 : n0 ≤ h0.size) :
    OwnCtr l Z (⟨"com/example/trapline/trapline/collect/NumberedSetEqualPinLaw", "pick", "(IJJJ)J"⟩ : MethodName) ws method_2_code 8 (some .long) ({ frames := 0, cells := 0, slots := 0, locals := 0 } : Room) #[(.int p1), (.long q2), (.long q3), (.long q4)] h0 (fun v h L => v = some (.long (own_pick p1 q2 q3 q4)) ∧ Fr n0 L ∧ h = h0) := by
  refine own_body (g0 := fun m => mkF m 0 #[.val (.int p1), .val (.long q2), .second, .val (.long q3), .second, .val (.long q4), .second, .unset] []) pn_1 (fun m => ef_1 m p1 q2 q3 q4) ?_
  intro p e s m below meth c s₁ X0 hx hby hml hown hnm hZ e0 hret hlk
  have hml : c.maxLocals = 8 := hml
  have hown : s.vm.findClass "com/example/trapline/trapline/collect/NumberedSetEqualPinLaw" = some m.cls := hown
  have hnm : meth.name = "pick" := hnm
  have hret : meth.sig.returnType = (some .long) := hret
  have N0 := Fr.nil n0
  show OwnFin p e below s _ _ _ (s₁.setTop (mkF m 0 #[.val (.int p1), .val (.long q2), .second, .val (.long q3), .second, .val (.long q4), .second, .unset] []))
  refine own_go (fun t_ k_ => XS.iloadN X0.here hx rfl (hb hby d1_0) rfl k_) ?_
  show OwnFin p e below s _ _ _ (s₁.setTop (mkF m 1 #[.val (.int p1), .val (.long q2), .second, .val (.long q3), .second, .val (.long q4), .second, .unset] [(.int p1)]))
  refine own_go (fun t_ k_ => XS.iconst X0.here hx rfl (hb hby d1_1) k_) ?_
  show OwnFin p e below s _ _ _ (s₁.setTop (mkF m 2 #[.val (.int p1), .val (.long q2), .second, .val (.long q3), .second, .val (.long q4), .second, .unset] [(.int (3 : Int32)), (.int p1)]))
  refine own_go (fun t_ k_ => XS.iand X0.here hx rfl (hb hby d1_2) rfl k_) ?_
  show OwnFin p e below s _ _ _ (s₁.setTop (mkF m 3 #[.val (.int p1), .val (.long q2), .second, .val (.long q3), .second, .val (.long q4), .second, .unset] [(.int (p1 &&& (3 : Int32)))]))
  refine own_go (fun t_ k_ => XS.istore X0.here hx rfl (hb hby d1_3) rfl (l' := #[.val (.int p1), .val (.long q2), .second, .val (.long q3), .second, .val (.long q4), .second, .val (.int (p1 &&& (3 : Int32)))]) rfl k_) ?_
  show OwnFin p e below s _ _ _ (s₁.setTop (mkF m 5 #[.val (.int p1), .val (.long q2), .second, .val (.long q3), .second, .val (.long q4), .second, .val (.int (p1 &&& (3 : Int32)))] []))
  refine own_go (fun t_ k_ => XS.iload X0.here hx rfl (hb hby d1_5) rfl k_) ?_
  show OwnFin p e below s _ _ _ (s₁.setTop (mkF m 7 #[.val (.int p1), .val (.long q2), .second, .val (.long q3), .second, .val (.long q4), .second, .val (.int (p1 &&& (3 : Int32)))] [(.int (p1 &&& (3 : Int32)))]))
  refine own_go (fun t_ k_ => XS.iconst X0.here hx rfl (hb hby d1_7) k_) ?_
  show OwnFin p e below s _ _ _ (s₁.setTop (mkF m 8 #[.val (.int p1), .val (.long q2), .second, .val (.long q3), .second, .val (.long q4), .second, .val (.int (p1 &&& (3 : Int32)))] [(.int (1 : Int32)), (.int (p1 &&& (3 : Int32)))]))
  by_cases hc8 : (p1 &&& (3 : Int32)) = (1 : Int32)
  · refine own_go (fun t_ k_ => XS.icmpNo X0.here hx rfl (hb hby d1_8) rfl (teq hc8).2 k_) ?_
    show OwnFin p e below s _ _ _ (s₁.setTop (mkF m 11 #[.val (.int p1), .val (.long q2), .second, .val (.long q3), .second, .val (.long q4), .second, .val (.int (p1 &&& (3 : Int32)))] []))
    refine own_go (fun t_ k_ => XS.lloadN X0.here hx rfl (hb hby d1_11) rfl k_) ?_
    show OwnFin p e below s _ _ _ (s₁.setTop (mkF m 12 #[.val (.int p1), .val (.long q2), .second, .val (.long q3), .second, .val (.long q4), .second, .val (.int (p1 &&& (3 : Int32)))] [(.long q3)]))
    refine own_ret X0 (v := some (.long q3)) hlk (fun hh => by rw [hret] at hh; cases hh) (fun fs hr => own_retJ X0 hx hret (hb hby d1_12) hr) (by decide) (by decide) ?_
    rw [e0]
    exact ⟨by simp [own_pick, hc8], N0, rfl⟩
  · refine own_go (fun t_ k_ => XS.icmpYes X0.here hx rfl (pc0 := 8) (pc' := 13) rfl (hb hby d1_8) rfl (feq hc8).2 (by decide) (by decide) k_) ?_
    show OwnFin p e below s _ _ _ (s₁.setTop (mkF m 13 #[.val (.int p1), .val (.long q2), .second, .val (.long q3), .second, .val (.long q4), .second, .val (.int (p1 &&& (3 : Int32)))] []))
    refine own_go (fun t_ k_ => XS.iload X0.here hx rfl (hb hby d1_13) rfl k_) ?_
    show OwnFin p e below s _ _ _ (s₁.setTop (mkF m 15 #[.val (.int p1), .val (.long q2), .second, .val (.long q3), .second, .val (.long q4), .second, .val (.int (p1 &&& (3 : Int32)))] [(.int (p1 &&& (3 : Int32)))]))
    refine own_go (fun t_ k_ => XS.iconst X0.here hx rfl (hb hby d1_15) k_) ?_
    show OwnFin p e below s _ _ _ (s₁.setTop (mkF m 16 #[.val (.int p1), .val (.long q2), .second, .val (.long q3), .second, .val (.long q4), .second, .val (.int (p1 &&& (3 : Int32)))] [(.int (2 : Int32)), (.int (p1 &&& (3 : Int32)))]))
    by_cases hc16 : (p1 &&& (3 : Int32)) = (2 : Int32)
    · refine own_go (fun t_ k_ => XS.icmpNo X0.here hx rfl (hb hby d1_16) rfl (teq hc16).2 k_) ?_
      show OwnFin p e below s _ _ _ (s₁.setTop (mkF m 19 #[.val (.int p1), .val (.long q2), .second, .val (.long q3), .second, .val (.long q4), .second, .val (.int (p1 &&& (3 : Int32)))] []))
      refine own_go (fun t_ k_ => XS.lload X0.here hx rfl (hb hby d1_19) rfl k_) ?_
      show OwnFin p e below s _ _ _ (s₁.setTop (mkF m 21 #[.val (.int p1), .val (.long q2), .second, .val (.long q3), .second, .val (.long q4), .second, .val (.int (p1 &&& (3 : Int32)))] [(.long q4)]))
      refine own_ret X0 (v := some (.long q4)) hlk (fun hh => by rw [hret] at hh; cases hh) (fun fs hr => own_retJ X0 hx hret (hb hby d1_21) hr) (by decide) (by decide) ?_
      rw [e0]
      exact ⟨by simp [own_pick, hc8, hc16], N0, rfl⟩
    · refine own_go (fun t_ k_ => XS.icmpYes X0.here hx rfl (pc0 := 16) (pc' := 22) rfl (hb hby d1_16) rfl (feq hc16).2 (by decide) (by decide) k_) ?_
      show OwnFin p e below s _ _ _ (s₁.setTop (mkF m 22 #[.val (.int p1), .val (.long q2), .second, .val (.long q3), .second, .val (.long q4), .second, .val (.int (p1 &&& (3 : Int32)))] []))
      refine own_go (fun t_ k_ => XS.lloadN X0.here hx rfl (hb hby d1_22) rfl k_) ?_
      show OwnFin p e below s _ _ _ (s₁.setTop (mkF m 23 #[.val (.int p1), .val (.long q2), .second, .val (.long q3), .second, .val (.long q4), .second, .val (.int (p1 &&& (3 : Int32)))] [(.long q2)]))
      refine own_ret X0 (v := some (.long q2)) hlk (fun hh => by rw [hret] at hh; cases hh) (fun fs hr => own_retJ X0 hx hret (hb hby d1_23) hr) (by decide) (by decide) ?_
      rw [e0]
      exact ⟨by simp [own_pick, hc8, hc16], N0, rfl⟩
theorem d2_0 : decode prog_13_method_14_code 0 = .ok (.iconst 0, 1) := by decide +kernel
theorem d2_1 : decode prog_13_method_14_code 1 = .ok (.istore 4, 2) := by decide +kernel
theorem d2_3 : decode prog_13_method_14_code 3 = .ok (.iload 4, 2) := by decide +kernel
theorem d2_5 : decode prog_13_method_14_code 5 = .ok (.iload_n 3, 1) := by decide +kernel
theorem d2_6 : decode prog_13_method_14_code 6 = .ok (.if_icmp .ge 25, 3) := by decide +kernel
theorem d2_9 : decode prog_13_method_14_code 9 = .ok (.aload_n 0, 1) := by decide +kernel
theorem d2_10 : decode prog_13_method_14_code 10 = .ok (.iload_n 1, 1) := by decide +kernel
theorem d2_11 : decode prog_13_method_14_code 11 = .ok (.iload 4, 2) := by decide +kernel
theorem d2_13 : decode prog_13_method_14_code 13 = .ok (.iadd, 1) := by decide +kernel
theorem d2_14 : decode prog_13_method_14_code 14 = .ok (.laload, 1) := by decide +kernel
theorem d2_15 : decode prog_13_method_14_code 15 = .ok (.aload_n 2, 1) := by decide +kernel
theorem d2_16 : decode prog_13_method_14_code 16 = .ok (.iload 4, 2) := by decide +kernel
theorem d2_18 : decode prog_13_method_14_code 18 = .ok (.laload, 1) := by decide +kernel
theorem d2_19 : decode prog_13_method_14_code 19 = .ok (.lcmp, 1) := by decide +kernel
theorem d2_20 : decode prog_13_method_14_code 20 = .ok (.ifCond .eq 5, 3) := by decide +kernel
theorem d2_23 : decode prog_13_method_14_code 23 = .ok (.iconst 0, 1) := by decide +kernel
theorem d2_24 : decode prog_13_method_14_code 24 = .ok (.ireturn, 1) := by decide +kernel
theorem d2_25 : decode prog_13_method_14_code 25 = .ok (.iinc 4 1, 3) := by decide +kernel
theorem d2_28 : decode prog_13_method_14_code 28 = .ok (.goto (-25), 3) := by decide +kernel
theorem d2_31 : decode prog_13_method_14_code 31 = .ok (.iconst 1, 1) := by decide +kernel
theorem d2_32 : decode prog_13_method_14_code 32 = .ok (.ireturn, 1) := by decide +kernel
theorem pn_2 : plainFor (⟨"com/example/trapline/trapline/collect/NumberedSet", "equal", "([JI[JI)Z"⟩ : MethodName) = true := plainFor_of_name (by first | (simp [plainName, overriddenIn]; done) | decide +kernel)
theorem ef_2 (m : MethodId) (aA : Addr) (pf : Int32) (aB : Addr) (pl : Int32) : entryFrame m #[(.ref aA), (.int pf), (.ref aB), (.int pl)] 5 = mkF m 0 #[.val (.ref aA), .val (.int pf), .val (.ref aB), .val (.int pl), .unset] [] := by first | (simp [entryFrame, mkF, argsToLocals, Value.category]; done) | rfl
set_option maxRecDepth 65536 in
set_option maxHeartbeats 40000000 in
theorem rm2 (l : Launch) (Z : State) (a0 : Array Value) (hw : ∀ d ∈ tables_1, d.before a0 Z = true) (ws : List Jvm.Cond) (aA : Addr) (pf : Int32) (aB : Addr) (pl : Int32) (fA : Nat → Int64) (fB : Nat → Int64) (nA : Nat) (nB : Nat) (fr : Nat) (len : Nat) (h0 : Heap) (n0 : Nat) (Z0 : n0 ≤ h0.size) (VA : OwnArr Z h0 aA .long nA (fun i => .long (fA i))) (VB : OwnArr Z h0 aB .long nB (fun i => .long (fB i))) (hf : pf = Int32.ofNat fr) (hl : pl = Int32.ofNat len) (hA : fr + len ≤ nA) (hB : len ≤ nB) (hn : nA + nB < 1000) :
    OwnCtr l Z (⟨"com/example/trapline/trapline/collect/NumberedSet", "equal", "([JI[JI)Z"⟩ : MethodName) ws prog_13_method_14_code 5 (some .boolean) ({ frames := 0, cells := 0, slots := 0, locals := 0 } : Room) #[(.ref aA), (.int pf), (.ref aB), (.int pl)] h0 (fun v h L => v = some (.int (own_eq fA fB fr len)) ∧ Fr n0 L ∧ h = h0) := by
  refine own_body (g0 := fun m => mkF m 0 #[.val (.ref aA), .val (.int pf), .val (.ref aB), .val (.int pl), .unset] []) pn_2 (fun m => ef_2 m aA pf aB pl) ?_
  intro p e s m below meth c s₁ X0 hx hby hml hown hnm hZ e0 hret hlk
  have hml : c.maxLocals = 5 := hml
  have hown : s.vm.findClass "com/example/trapline/trapline/collect/NumberedSet" = some m.cls := hown
  have hnm : meth.name = "equal" := hnm
  have hret : meth.sig.returnType = (some .boolean) := hret
  have N0 := Fr.nil n0
  show OwnFin p e below s _ _ _ (s₁.setTop (mkF m 0 #[.val (.ref aA), .val (.int pf), .val (.ref aB), .val (.int pl), .unset] []))
  refine own_go (fun t_ k_ => XS.iconst X0.here hx rfl (hb hby d2_0) k_) ?_
  show OwnFin p e below s _ _ _ (s₁.setTop (mkF m 1 #[.val (.ref aA), .val (.int pf), .val (.ref aB), .val (.int pl), .unset] [(.int (0 : Int32))]))
  refine own_go (fun t_ k_ => XS.istore X0.here hx rfl (hb hby d2_1) rfl (l' := #[.val (.ref aA), .val (.int pf), .val (.ref aB), .val (.int pl), .val (.int (0 : Int32))]) rfl k_) ?_
  show OwnFin p e below s _ _ _ (s₁.setTop (mkF m 3 #[.val (.ref aA), .val (.int pf), .val (.ref aB), .val (.int pl), .val (.int (0 : Int32))] []))
  have loop : ∀ (d i : Nat), i + d = len → (∀ k, k < i → fA (fr + k) = fB k) → OwnFin p e below s (fun v h L => v = some (.int (own_eq fA fB fr len)) ∧ Fr n0 L ∧ h = h0) 0 0 (s₁.setTop (mkF m 3 #[.val (.ref aA), .val (.int pf), .val (.ref aB), .val (.int pl), .val (.int (Int32.ofNat i))] [])) := by
    intro d
    induction d with
    | zero =>
      intro i hid hk
      refine own_go (fun t_ k_ => XS.iload X0.here hx rfl (hb hby d2_3) rfl k_) ?_
      show OwnFin p e below s _ _ _ (s₁.setTop (mkF m 5 #[.val (.ref aA), .val (.int pf), .val (.ref aB), .val (.int pl), .val (.int (Int32.ofNat i))] [(.int (Int32.ofNat i))]))
      refine own_go (fun t_ k_ => XS.iloadN X0.here hx rfl (hb hby d2_5) rfl k_) ?_
      show OwnFin p e below s _ _ _ (s₁.setTop (mkF m 6 #[.val (.ref aA), .val (.int pf), .val (.ref aB), .val (.int pl), .val (.int (Int32.ofNat i))] [(.int pl), (.int (Int32.ofNat i))]))
      have hc6 : ¬ ((Int32.ofNat i) < pl) := by rw [hl, Int32.lt_iff_toInt_lt, toInt_of (n := Int32.ofNat i) rfl (by omega), toInt_of (n := Int32.ofNat len) rfl (by omega)]; omega
      refine own_go (fun t_ k_ => XS.icmpYes X0.here hx rfl (pc0 := 6) (pc' := 31) rfl (hb hby d2_6) rfl (flt hc6).2.1 (by decide) (by decide) k_) ?_
      show OwnFin p e below s _ _ _ (s₁.setTop (mkF m 31 #[.val (.ref aA), .val (.int pf), .val (.ref aB), .val (.int pl), .val (.int (Int32.ofNat i))] []))
      refine own_go (fun t_ k_ => XS.iconst X0.here hx rfl (hb hby d2_31) k_) ?_
      show OwnFin p e below s _ _ _ (s₁.setTop (mkF m 32 #[.val (.ref aA), .val (.int pf), .val (.ref aB), .val (.int pl), .val (.int (Int32.ofNat i))] [(.int (1 : Int32))]))
      refine own_ret X0 (v := some (.int (1 : Int32))) hlk (fun hh => by rw [hret] at hh; cases hh) (fun fs hr => retN X0 hx (t := .boolean) hret (by simp) (hb hby d2_32) hr) (by decide) (by decide) ?_
      rw [e0]
      exact ⟨by rw [own_eq1 (fun k hk' => hk k (by omega))], N0, rfl⟩
    | succ d ih =>
      intro i hid hk
      refine own_go (fun t_ k_ => XS.iload X0.here hx rfl (hb hby d2_3) rfl k_) ?_
      show OwnFin p e below s _ _ _ (s₁.setTop (mkF m 5 #[.val (.ref aA), .val (.int pf), .val (.ref aB), .val (.int pl), .val (.int (Int32.ofNat i))] [(.int (Int32.ofNat i))]))
      refine own_go (fun t_ k_ => XS.iloadN X0.here hx rfl (hb hby d2_5) rfl k_) ?_
      show OwnFin p e below s _ _ _ (s₁.setTop (mkF m 6 #[.val (.ref aA), .val (.int pf), .val (.ref aB), .val (.int pl), .val (.int (Int32.ofNat i))] [(.int pl), (.int (Int32.ofNat i))]))
      have hc6 : (Int32.ofNat i) < pl := by rw [hl, Int32.lt_iff_toInt_lt, toInt_of (n := Int32.ofNat i) rfl (by omega), toInt_of (n := Int32.ofNat len) rfl (by omega)]; omega
      refine own_go (fun t_ k_ => XS.icmpNo X0.here hx rfl (hb hby d2_6) rfl (tlt hc6).2.1 k_) ?_
      show OwnFin p e below s _ _ _ (s₁.setTop (mkF m 9 #[.val (.ref aA), .val (.int pf), .val (.ref aB), .val (.int pl), .val (.int (Int32.ofNat i))] []))
      refine own_go (fun t_ k_ => XS.aloadN X0.here hx rfl (hb hby d2_9) rfl rfl k_) ?_
      show OwnFin p e below s _ _ _ (s₁.setTop (mkF m 10 #[.val (.ref aA), .val (.int pf), .val (.ref aB), .val (.int pl), .val (.int (Int32.ofNat i))] [(.ref aA)]))
      refine own_go (fun t_ k_ => XS.iloadN X0.here hx rfl (hb hby d2_10) rfl k_) ?_
      show OwnFin p e below s _ _ _ (s₁.setTop (mkF m 11 #[.val (.ref aA), .val (.int pf), .val (.ref aB), .val (.int pl), .val (.int (Int32.ofNat i))] [(.int pf), (.ref aA)]))
      refine own_go (fun t_ k_ => XS.iload X0.here hx rfl (hb hby d2_11) rfl k_) ?_
      show OwnFin p e below s _ _ _ (s₁.setTop (mkF m 13 #[.val (.ref aA), .val (.int pf), .val (.ref aB), .val (.int pl), .val (.int (Int32.ofNat i))] [(.int (Int32.ofNat i)), (.int pf), (.ref aA)]))
      refine own_go (fun t_ k_ => XS.iadd X0.here hx rfl (hb hby d2_13) rfl k_) ?_
      show OwnFin p e below s _ _ _ (s₁.setTop (mkF m 14 #[.val (.ref aA), .val (.int pf), .val (.ref aB), .val (.int pl), .val (.int (Int32.ofNat i))] [(.int (pf + (Int32.ofNat i))), (.ref aA)]))
      refine own_go (own_laload X0 hx hZ e0 VA (i := fr + i) (by rw [hf]; exact own_addN fr i) (by omega) (g := (mkF m 14 #[.val (.ref aA), .val (.int pf), .val (.ref aB), .val (.int pl), .val (.int (Int32.ofNat i))] [(.int (pf + (Int32.ofNat i))), (.ref aA)])) rfl rfl (hb hby d2_14)) ?_
      show OwnFin p e below s _ _ _ (s₁.setTop (mkF m 15 #[.val (.ref aA), .val (.int pf), .val (.ref aB), .val (.int pl), .val (.int (Int32.ofNat i))] [(.long (fA (fr + i)))]))
      refine own_go (fun t_ k_ => XS.aloadN X0.here hx rfl (hb hby d2_15) rfl rfl k_) ?_
      show OwnFin p e below s _ _ _ (s₁.setTop (mkF m 16 #[.val (.ref aA), .val (.int pf), .val (.ref aB), .val (.int pl), .val (.int (Int32.ofNat i))] [(.ref aB), (.long (fA (fr + i)))]))
      refine own_go (fun t_ k_ => XS.iload X0.here hx rfl (hb hby d2_16) rfl k_) ?_
      show OwnFin p e below s _ _ _ (s₁.setTop (mkF m 18 #[.val (.ref aA), .val (.int pf), .val (.ref aB), .val (.int pl), .val (.int (Int32.ofNat i))] [(.int (Int32.ofNat i)), (.ref aB), (.long (fA (fr + i)))]))
      refine own_go (own_laload X0 hx hZ e0 VB (i := i) rfl (by omega) (g := (mkF m 18 #[.val (.ref aA), .val (.int pf), .val (.ref aB), .val (.int pl), .val (.int (Int32.ofNat i))] [(.int (Int32.ofNat i)), (.ref aB), (.long (fA (fr + i)))])) rfl rfl (hb hby d2_18)) ?_
      show OwnFin p e below s _ _ _ (s₁.setTop (mkF m 19 #[.val (.ref aA), .val (.int pf), .val (.ref aB), .val (.int pl), .val (.int (Int32.ofNat i))] [(.long (fB i)), (.long (fA (fr + i)))]))
      refine own_go (fun t_ k_ => XS.lcmp X0.here hx rfl (hb hby d2_19) rfl k_) ?_
      show OwnFin p e below s _ _ _ (s₁.setTop (mkF m 20 #[.val (.ref aA), .val (.int pf), .val (.ref aB), .val (.int pl), .val (.int (Int32.ofNat i))] [(.int (lcmpW (fA (fr + i)) (fB i)))]))
      by_cases hc20 : (fA (fr + i)) = (fB i)
      · refine own_go (fun t_ k_ => XS.ifYes X0.here hx rfl (pc0 := 20) (pc' := 25) rfl (hb hby d2_20) rfl ((if0 _ _).trans (teq ((lw_eq (fA (fr + i)) (fB i)).mpr hc20)).1) (by decide) (by decide) k_) ?_
        show OwnFin p e below s _ _ _ (s₁.setTop (mkF m 25 #[.val (.ref aA), .val (.int pf), .val (.ref aB), .val (.int pl), .val (.int (Int32.ofNat i))] []))
        refine own_go (fun t_ k_ => XS.iinc X0.here hx rfl (hb hby d2_25) rfl (l' := #[.val (.ref aA), .val (.int pf), .val (.ref aB), .val (.int pl), .val (.int ((Int32.ofNat i) + (1 : Int32)))]) rfl k_) ?_
        show OwnFin p e below s _ _ _ (s₁.setTop (mkF m 28 #[.val (.ref aA), .val (.int pf), .val (.ref aB), .val (.int pl), .val (.int ((Int32.ofNat i) + (1 : Int32)))] []))
        refine own_go (fun t_ k_ => XS.goto X0.here hx rfl (pc0 := 28) (pc' := 3) rfl (hb hby d2_28) (by decide) (by decide) k_) ?_
        show OwnFin p e below s _ _ _ (s₁.setTop (mkF m 3 #[.val (.ref aA), .val (.int pf), .val (.ref aB), .val (.int pl), .val (.int ((Int32.ofNat i) + (1 : Int32)))] []))
        have e1 : Int32.ofNat i + (1 : Int32) = Int32.ofNat (i + 1) := (inc_ofNat i).symm
        rw [e1]
        exact ih (i + 1) (by omega) (fun k hk' => by
          by_cases e : k = i
          · rw [e]; exact hc20
          · exact hk k (by omega))
      · refine own_go (fun t_ k_ => XS.ifNo X0.here hx rfl (hb hby d2_20) rfl ((if0 _ _).trans (feq (mt (lw_eq (fA (fr + i)) (fB i)).mp hc20)).1) k_) ?_
        show OwnFin p e below s _ _ _ (s₁.setTop (mkF m 23 #[.val (.ref aA), .val (.int pf), .val (.ref aB), .val (.int pl), .val (.int (Int32.ofNat i))] []))
        refine own_go (fun t_ k_ => XS.iconst X0.here hx rfl (hb hby d2_23) k_) ?_
        show OwnFin p e below s _ _ _ (s₁.setTop (mkF m 24 #[.val (.ref aA), .val (.int pf), .val (.ref aB), .val (.int pl), .val (.int (Int32.ofNat i))] [(.int (0 : Int32))]))
        refine own_ret X0 (v := some (.int (0 : Int32))) hlk (fun hh => by rw [hret] at hh; cases hh) (fun fs hr => retN X0 hx (t := .boolean) hret (by simp) (hb hby d2_24) hr) (by decide) (by decide) ?_
        rw [e0]
        exact ⟨by rw [own_eq0 (by omega) hc20], N0, rfl⟩
  exact loop len 0 (by omega) (fun k hk => absurd hk (Nat.not_lt_zero k))
theorem pn_0 : plainFor (⟨"com/example/trapline/trapline/collect/NumberedSetEqualPinLaw", "law", "(JJJIII)Z"⟩ : MethodName) = true := plainFor_of_name (by first | (simp [plainName, overriddenIn]; done) | decide +kernel)
theorem pd_0_0 : parseMethodDescriptor "(IJJJ)J" = some ⟨[.int, .long, .long, .long], some .long⟩ := by decide +kernel
theorem pd_0_1 : parseMethodDescriptor "([JI[JI)Z" = some ⟨[(.array .long), .int, (.array .long), .int], some .boolean⟩ := by decide +kernel
theorem ef_0 (m : MethodId) (xx : Int64) (yy : Int64) (zz : Int64) (ac : Int32) (bc : Int32) (sp : Int32) : entryFrame m #[(.long xx), (.long yy), (.long zz), (.int ac), (.int bc), (.int sp)] maxLocals = mkF m 0 #[.val (.long xx), .second, .val (.long yy), .second, .val (.long zz), .second, .val (.int ac), .val (.int bc), .val (.int sp), .unset, .unset, .unset, .unset, .unset] [] := by first | (simp [entryFrame, mkF, argsToLocals, Value.category, maxLocals]; done) | rfl
set_option maxRecDepth 65536 in
set_option maxHeartbeats 40000000 in
theorem rm0 (l : Launch) (Z : State) (a0 : Array Value) (hw : ∀ d ∈ tables_1, d.before a0 Z = true) (ws : List Jvm.Cond) (xx : Int64) (yy : Int64) (zz : Int64) (ac : Int32) (bc : Int32) (sp : Int32) (h0 : Heap) (n0 : Nat) (Z0 : n0 ≤ h0.size) :
    OwnCtr l Z x ws code maxLocals ret room_1 #[(.long xx), (.long yy), (.long zz), (.int ac), (.int bc), (.int sp)] h0 (fun v h L => v = some (.int 1) ∧ Fr n0 L) := by
  refine own_body (g0 := fun m => mkF m 0 #[.val (.long xx), .second, .val (.long yy), .second, .val (.long zz), .second, .val (.int ac), .val (.int bc), .val (.int sp), .unset, .unset, .unset, .unset, .unset] []) pn_0 (fun m => ef_0 m xx yy zz ac bc sp) ?_
  intro p e s m below meth c s₁ X0 hx hby hml hown hnm hZ e0 hret hlk
  have hml : c.maxLocals = 14 := hml
  have hown : s.vm.findClass "com/example/trapline/trapline/collect/NumberedSetEqualPinLaw" = some m.cls := hown
  have hnm : meth.name = "law" := hnm
  have hret : meth.sig.returnType = (some .boolean) := hret
  have N0 := Fr.nil n0
  show OwnFin p e below s _ _ _ (s₁.setTop (mkF m 0 #[.val (.long xx), .second, .val (.long yy), .second, .val (.long zz), .second, .val (.int ac), .val (.int bc), .val (.int sp), .unset, .unset, .unset, .unset, .unset] []))
  refine own_go (fun t_ k_ => XS.iconst X0.here hx rfl (hb hby at_0) k_) ?_
  show OwnFin p e below s _ _ _ (s₁.setTop (mkF m 1 #[.val (.long xx), .second, .val (.long yy), .second, .val (.long zz), .second, .val (.int ac), .val (.int bc), .val (.int sp), .unset, .unset, .unset, .unset, .unset] [(.int (4 : Int32))]))
  obtain ⟨T1, h1, X1, e1, E1, A1, st1⟩ := own_newarr X0 hx hZ (hw _ (List.mem_of_getElem? (i := 0) rfl)) e0 (g := (mkF m 1 #[.val (.long xx), .second, .val (.long yy), .second, .val (.long zz), .second, .val (.int ac), .val (.int bc), .val (.int sp), .unset, .unset, .unset, .unset, .unset] [(.int (4 : Int32))])) rfl (hb hby at_1) rfl (n := 4) (cap := 4) (by decide) (by decide) (by decide) (by decide) (by decide)
  obtain ⟨b1, g1⟩ : ∃ z, z = h0.size := ⟨_, rfl⟩
  rw [← g1] at A1 st1
  have g_b1 : n0 ≤ b1 := Nat.le_trans Z0 (Nat.le_of_eq g1.symm)
  have Z1 : n0 ≤ h1.size := Nat.le_trans Z0 E1.1
  have V_b1 : OwnArr Z h1 b1 .long 4 (fun _ => (.long (0 : Int64))) := A1
  refine own_go st1 ?_
  show OwnFin p e below s _ _ _ (T1.setTop (mkF m 3 #[.val (.long xx), .second, .val (.long yy), .second, .val (.long zz), .second, .val (.int ac), .val (.int bc), .val (.int sp), .unset, .unset, .unset, .unset, .unset] [(.ref b1)]))
  refine own_go (fun t_ k_ => XS.astore X1.here hx rfl (hb hby at_3) rfl rfl (l' := #[.val (.long xx), .second, .val (.long yy), .second, .val (.long zz), .second, .val (.int ac), .val (.int bc), .val (.int sp), .val (.ref b1), .unset, .unset, .unset, .unset]) rfl k_) ?_
  show OwnFin p e below s _ _ _ (T1.setTop (mkF m 5 #[.val (.long xx), .second, .val (.long yy), .second, .val (.long zz), .second, .val (.int ac), .val (.int bc), .val (.int sp), .val (.ref b1), .unset, .unset, .unset, .unset] []))
  refine own_go (fun t_ k_ => XS.aload X1.here hx rfl (hb hby at_5) rfl rfl k_) ?_
  show OwnFin p e below s _ _ _ (T1.setTop (mkF m 7 #[.val (.long xx), .second, .val (.long yy), .second, .val (.long zz), .second, .val (.int ac), .val (.int bc), .val (.int sp), .val (.ref b1), .unset, .unset, .unset, .unset] [(.ref b1)]))
  refine own_go (fun t_ k_ => XS.iconst X1.here hx rfl (hb hby at_7) k_) ?_
  show OwnFin p e below s _ _ _ (T1.setTop (mkF m 8 #[.val (.long xx), .second, .val (.long yy), .second, .val (.long zz), .second, .val (.int ac), .val (.int bc), .val (.int sp), .val (.ref b1), .unset, .unset, .unset, .unset] [(.int (0 : Int32)), (.ref b1)]))
  refine own_go (fun t_ k_ => XS.iload X1.here hx rfl (hb hby at_8) rfl k_) ?_
  show OwnFin p e below s _ _ _ (T1.setTop (mkF m 10 #[.val (.long xx), .second, .val (.long yy), .second, .val (.long zz), .second, .val (.int ac), .val (.int bc), .val (.int sp), .val (.ref b1), .unset, .unset, .unset, .unset] [(.int ac), (.int (0 : Int32)), (.ref b1)]))
  refine own_go (fun t_ k_ => XS.lloadN X1.here hx rfl (hb hby at_10) rfl k_) ?_
  show OwnFin p e below s _ _ _ (T1.setTop (mkF m 11 #[.val (.long xx), .second, .val (.long yy), .second, .val (.long zz), .second, .val (.int ac), .val (.int bc), .val (.int sp), .val (.ref b1), .unset, .unset, .unset, .unset] [(.long xx), (.int ac), (.int (0 : Int32)), (.ref b1)]))
  refine own_go (fun t_ k_ => XS.lloadN X1.here hx rfl (hb hby at_11) rfl k_) ?_
  show OwnFin p e below s _ _ _ (T1.setTop (mkF m 12 #[.val (.long xx), .second, .val (.long yy), .second, .val (.long zz), .second, .val (.int ac), .val (.int bc), .val (.int sp), .val (.ref b1), .unset, .unset, .unset, .unset] [(.long yy), (.long xx), (.int ac), (.int (0 : Int32)), (.ref b1)]))
  refine own_go (fun t_ k_ => XS.lload X1.here hx rfl (hb hby at_12) rfl k_) ?_
  show OwnFin p e below s _ _ _ (T1.setTop (mkF m 14 #[.val (.long xx), .second, .val (.long yy), .second, .val (.long zz), .second, .val (.int ac), .val (.int bc), .val (.int sp), .val (.ref b1), .unset, .unset, .unset, .unset] [(.long zz), (.long yy), (.long xx), (.int ac), (.int (0 : Int32)), (.ref b1)]))
  obtain ⟨v2, T2, L2, X2, hQ2, st2⟩ := own_callS X1 hx hZ (y := (⟨"com/example/trapline/trapline/collect/NumberedSetEqualPinLaw", "pick", "(IJJJ)J"⟩ : MethodName)) hown (hw _ (List.mem_of_getElem? (i := 1) rfl)) (hw _ (List.mem_of_getElem? (i := 2) rfl)) (hw _ (List.mem_of_getElem? (i := 3) rfl)) (hw _ (List.mem_of_getElem? (i := 4) rfl)) (by decide) (W := 2) (rm1 l Z a0 hw [] ac xx yy zz h1 n0 Z1) (by decide) (by decide) (g := (mkF m 14 #[.val (.long xx), .second, .val (.long yy), .second, .val (.long zz), .second, .val (.int ac), .val (.int bc), .val (.int sp), .val (.ref b1), .unset, .unset, .unset, .unset] [(.long zz), (.long yy), (.long xx), (.int ac), (.int (0 : Int32)), (.ref b1)])) rfl (by rw [hml]; rfl) (argsL := [(.int ac), (.long xx), (.long yy), (.long zz)]) (rest := [(.int (0 : Int32)), (.ref b1)]) (lenOf pd_0_0 rfl) rfl (by show 2 * 0 + _ ≤ _; exact Nat.le_of_eq rfl) (hb hby at_14) e1 rfl (by decide) (by decide)
  obtain ⟨rfl, Nq2, e2⟩ := hQ2
  have N2 := Fr.app N0 Nq2
  refine own_go st2 ?_
  show OwnFin p e below s _ _ _ (T2.setTop (mkF m 17 #[.val (.long xx), .second, .val (.long yy), .second, .val (.long zz), .second, .val (.int ac), .val (.int bc), .val (.int sp), .val (.ref b1), .unset, .unset, .unset, .unset] [(.long (own_pick ac xx yy zz)), (.int (0 : Int32)), (.ref b1)]))
  obtain ⟨T3, h3, X3, e3, W3, A3, st3⟩ := own_lastore X2 hx hZ e2 V_b1 (i := 0) (by decide) (by decide) (g := (mkF m 17 #[.val (.long xx), .second, .val (.long yy), .second, .val (.long zz), .second, .val (.int ac), .val (.int bc), .val (.int sp), .val (.ref b1), .unset, .unset, .unset, .unset] [(.long (own_pick ac xx yy zz)), (.int (0 : Int32)), (.ref b1)])) rfl rfl (hb hby at_17)
  have Z3 : n0 ≤ h3.size := Nat.le_trans Z1 (Keep.of_wr W3).1
  have N3 := Fr.snoc X3 N2 g_b1
  refine own_go st3 ?_
  show OwnFin p e below s _ _ _ (T3.setTop (mkF m 18 #[.val (.long xx), .second, .val (.long yy), .second, .val (.long zz), .second, .val (.int ac), .val (.int bc), .val (.int sp), .val (.ref b1), .unset, .unset, .unset, .unset] []))
  refine own_go (fun t_ k_ => XS.aload X3.here hx rfl (hb hby at_18) rfl rfl k_) ?_
  show OwnFin p e below s _ _ _ (T3.setTop (mkF m 20 #[.val (.long xx), .second, .val (.long yy), .second, .val (.long zz), .second, .val (.int ac), .val (.int bc), .val (.int sp), .val (.ref b1), .unset, .unset, .unset, .unset] [(.ref b1)]))
  refine own_go (fun t_ k_ => XS.iconst X3.here hx rfl (hb hby at_20) k_) ?_
  show OwnFin p e below s _ _ _ (T3.setTop (mkF m 21 #[.val (.long xx), .second, .val (.long yy), .second, .val (.long zz), .second, .val (.int ac), .val (.int bc), .val (.int sp), .val (.ref b1), .unset, .unset, .unset, .unset] [(.int (1 : Int32)), (.ref b1)]))
  refine own_go (fun t_ k_ => XS.iload X3.here hx rfl (hb hby at_21) rfl k_) ?_
  show OwnFin p e below s _ _ _ (T3.setTop (mkF m 23 #[.val (.long xx), .second, .val (.long yy), .second, .val (.long zz), .second, .val (.int ac), .val (.int bc), .val (.int sp), .val (.ref b1), .unset, .unset, .unset, .unset] [(.int ac), (.int (1 : Int32)), (.ref b1)]))
  refine own_go (fun t_ k_ => XS.iconst X3.here hx rfl (hb hby at_23) k_) ?_
  show OwnFin p e below s _ _ _ (T3.setTop (mkF m 24 #[.val (.long xx), .second, .val (.long yy), .second, .val (.long zz), .second, .val (.int ac), .val (.int bc), .val (.int sp), .val (.ref b1), .unset, .unset, .unset, .unset] [(.int (2 : Int32)), (.int ac), (.int (1 : Int32)), (.ref b1)]))
  refine own_go (fun t_ k_ => XS.iushr X3.here hx rfl (hb hby at_24) rfl k_) ?_
  show OwnFin p e below s _ _ _ (T3.setTop (mkF m 25 #[.val (.long xx), .second, .val (.long yy), .second, .val (.long zz), .second, .val (.int ac), .val (.int bc), .val (.int sp), .val (.ref b1), .unset, .unset, .unset, .unset] [(.int ((ac.toUInt32 >>> ((2 : Int32) &&& 31).toUInt32).toInt32)), (.int (1 : Int32)), (.ref b1)]))
  refine own_go (fun t_ k_ => XS.lloadN X3.here hx rfl (hb hby at_25) rfl k_) ?_
  show OwnFin p e below s _ _ _ (T3.setTop (mkF m 26 #[.val (.long xx), .second, .val (.long yy), .second, .val (.long zz), .second, .val (.int ac), .val (.int bc), .val (.int sp), .val (.ref b1), .unset, .unset, .unset, .unset] [(.long xx), (.int ((ac.toUInt32 >>> ((2 : Int32) &&& 31).toUInt32).toInt32)), (.int (1 : Int32)), (.ref b1)]))
  refine own_go (fun t_ k_ => XS.lloadN X3.here hx rfl (hb hby at_26) rfl k_) ?_
  show OwnFin p e below s _ _ _ (T3.setTop (mkF m 27 #[.val (.long xx), .second, .val (.long yy), .second, .val (.long zz), .second, .val (.int ac), .val (.int bc), .val (.int sp), .val (.ref b1), .unset, .unset, .unset, .unset] [(.long yy), (.long xx), (.int ((ac.toUInt32 >>> ((2 : Int32) &&& 31).toUInt32).toInt32)), (.int (1 : Int32)), (.ref b1)]))
  refine own_go (fun t_ k_ => XS.lload X3.here hx rfl (hb hby at_27) rfl k_) ?_
  show OwnFin p e below s _ _ _ (T3.setTop (mkF m 29 #[.val (.long xx), .second, .val (.long yy), .second, .val (.long zz), .second, .val (.int ac), .val (.int bc), .val (.int sp), .val (.ref b1), .unset, .unset, .unset, .unset] [(.long zz), (.long yy), (.long xx), (.int ((ac.toUInt32 >>> ((2 : Int32) &&& 31).toUInt32).toInt32)), (.int (1 : Int32)), (.ref b1)]))
  obtain ⟨v4, T4, L4, X4, hQ4, st4⟩ := own_callS X3 hx hZ (y := (⟨"com/example/trapline/trapline/collect/NumberedSetEqualPinLaw", "pick", "(IJJJ)J"⟩ : MethodName)) hown (hw _ (List.mem_of_getElem? (i := 1) rfl)) (hw _ (List.mem_of_getElem? (i := 2) rfl)) (hw _ (List.mem_of_getElem? (i := 3) rfl)) (hw _ (List.mem_of_getElem? (i := 4) rfl)) (by decide) (W := 2) (rm1 l Z a0 hw [] ((ac.toUInt32 >>> ((2 : Int32) &&& 31).toUInt32).toInt32) xx yy zz h3 n0 Z3) (by decide) (by decide) (g := (mkF m 29 #[.val (.long xx), .second, .val (.long yy), .second, .val (.long zz), .second, .val (.int ac), .val (.int bc), .val (.int sp), .val (.ref b1), .unset, .unset, .unset, .unset] [(.long zz), (.long yy), (.long xx), (.int ((ac.toUInt32 >>> ((2 : Int32) &&& 31).toUInt32).toInt32)), (.int (1 : Int32)), (.ref b1)])) rfl (by rw [hml]; rfl) (argsL := [(.int ((ac.toUInt32 >>> ((2 : Int32) &&& 31).toUInt32).toInt32)), (.long xx), (.long yy), (.long zz)]) (rest := [(.int (1 : Int32)), (.ref b1)]) (lenOf pd_0_0 rfl) rfl (by show 2 * 0 + _ ≤ _; exact Nat.le_of_eq rfl) (hb hby at_29) e3 rfl (by decide) (by decide)
  obtain ⟨rfl, Nq4, e4⟩ := hQ4
  have N4 := Fr.app N3 Nq4
  refine own_go st4 ?_
  show OwnFin p e below s _ _ _ (T4.setTop (mkF m 32 #[.val (.long xx), .second, .val (.long yy), .second, .val (.long zz), .second, .val (.int ac), .val (.int bc), .val (.int sp), .val (.ref b1), .unset, .unset, .unset, .unset] [(.long (own_pick ((ac.toUInt32 >>> ((2 : Int32) &&& 31).toUInt32).toInt32) xx yy zz)), (.int (1 : Int32)), (.ref b1)]))
  obtain ⟨T5, h5, X5, e5, W5, A5, st5⟩ := own_lastore X4 hx hZ e4 A3 (i := 1) (by decide) (by decide) (g := (mkF m 32 #[.val (.long xx), .second, .val (.long yy), .second, .val (.long zz), .second, .val (.int ac), .val (.int bc), .val (.int sp), .val (.ref b1), .unset, .unset, .unset, .unset] [(.long (own_pick ((ac.toUInt32 >>> ((2 : Int32) &&& 31).toUInt32).toInt32) xx yy zz)), (.int (1 : Int32)), (.ref b1)])) rfl rfl (hb hby at_32)
  have Z5 : n0 ≤ h5.size := Nat.le_trans Z3 (Keep.of_wr W5).1
  have N5 := Fr.snoc X5 N4 g_b1
  refine own_go st5 ?_
  show OwnFin p e below s _ _ _ (T5.setTop (mkF m 33 #[.val (.long xx), .second, .val (.long yy), .second, .val (.long zz), .second, .val (.int ac), .val (.int bc), .val (.int sp), .val (.ref b1), .unset, .unset, .unset, .unset] []))
  refine own_go (fun t_ k_ => XS.aload X5.here hx rfl (hb hby at_33) rfl rfl k_) ?_
  show OwnFin p e below s _ _ _ (T5.setTop (mkF m 35 #[.val (.long xx), .second, .val (.long yy), .second, .val (.long zz), .second, .val (.int ac), .val (.int bc), .val (.int sp), .val (.ref b1), .unset, .unset, .unset, .unset] [(.ref b1)]))
  refine own_go (fun t_ k_ => XS.iconst X5.here hx rfl (hb hby at_35) k_) ?_
  show OwnFin p e below s _ _ _ (T5.setTop (mkF m 36 #[.val (.long xx), .second, .val (.long yy), .second, .val (.long zz), .second, .val (.int ac), .val (.int bc), .val (.int sp), .val (.ref b1), .unset, .unset, .unset, .unset] [(.int (2 : Int32)), (.ref b1)]))
  refine own_go (fun t_ k_ => XS.iload X5.here hx rfl (hb hby at_36) rfl k_) ?_
  show OwnFin p e below s _ _ _ (T5.setTop (mkF m 38 #[.val (.long xx), .second, .val (.long yy), .second, .val (.long zz), .second, .val (.int ac), .val (.int bc), .val (.int sp), .val (.ref b1), .unset, .unset, .unset, .unset] [(.int ac), (.int (2 : Int32)), (.ref b1)]))
  refine own_go (fun t_ k_ => XS.iconst X5.here hx rfl (hb hby at_38) k_) ?_
  show OwnFin p e below s _ _ _ (T5.setTop (mkF m 39 #[.val (.long xx), .second, .val (.long yy), .second, .val (.long zz), .second, .val (.int ac), .val (.int bc), .val (.int sp), .val (.ref b1), .unset, .unset, .unset, .unset] [(.int (4 : Int32)), (.int ac), (.int (2 : Int32)), (.ref b1)]))
  refine own_go (fun t_ k_ => XS.iushr X5.here hx rfl (hb hby at_39) rfl k_) ?_
  show OwnFin p e below s _ _ _ (T5.setTop (mkF m 40 #[.val (.long xx), .second, .val (.long yy), .second, .val (.long zz), .second, .val (.int ac), .val (.int bc), .val (.int sp), .val (.ref b1), .unset, .unset, .unset, .unset] [(.int ((ac.toUInt32 >>> ((4 : Int32) &&& 31).toUInt32).toInt32)), (.int (2 : Int32)), (.ref b1)]))
  refine own_go (fun t_ k_ => XS.lloadN X5.here hx rfl (hb hby at_40) rfl k_) ?_
  show OwnFin p e below s _ _ _ (T5.setTop (mkF m 41 #[.val (.long xx), .second, .val (.long yy), .second, .val (.long zz), .second, .val (.int ac), .val (.int bc), .val (.int sp), .val (.ref b1), .unset, .unset, .unset, .unset] [(.long xx), (.int ((ac.toUInt32 >>> ((4 : Int32) &&& 31).toUInt32).toInt32)), (.int (2 : Int32)), (.ref b1)]))
  refine own_go (fun t_ k_ => XS.lloadN X5.here hx rfl (hb hby at_41) rfl k_) ?_
  show OwnFin p e below s _ _ _ (T5.setTop (mkF m 42 #[.val (.long xx), .second, .val (.long yy), .second, .val (.long zz), .second, .val (.int ac), .val (.int bc), .val (.int sp), .val (.ref b1), .unset, .unset, .unset, .unset] [(.long yy), (.long xx), (.int ((ac.toUInt32 >>> ((4 : Int32) &&& 31).toUInt32).toInt32)), (.int (2 : Int32)), (.ref b1)]))
  refine own_go (fun t_ k_ => XS.lload X5.here hx rfl (hb hby at_42) rfl k_) ?_
  show OwnFin p e below s _ _ _ (T5.setTop (mkF m 44 #[.val (.long xx), .second, .val (.long yy), .second, .val (.long zz), .second, .val (.int ac), .val (.int bc), .val (.int sp), .val (.ref b1), .unset, .unset, .unset, .unset] [(.long zz), (.long yy), (.long xx), (.int ((ac.toUInt32 >>> ((4 : Int32) &&& 31).toUInt32).toInt32)), (.int (2 : Int32)), (.ref b1)]))
  obtain ⟨v6, T6, L6, X6, hQ6, st6⟩ := own_callS X5 hx hZ (y := (⟨"com/example/trapline/trapline/collect/NumberedSetEqualPinLaw", "pick", "(IJJJ)J"⟩ : MethodName)) hown (hw _ (List.mem_of_getElem? (i := 1) rfl)) (hw _ (List.mem_of_getElem? (i := 2) rfl)) (hw _ (List.mem_of_getElem? (i := 3) rfl)) (hw _ (List.mem_of_getElem? (i := 4) rfl)) (by decide) (W := 2) (rm1 l Z a0 hw [] ((ac.toUInt32 >>> ((4 : Int32) &&& 31).toUInt32).toInt32) xx yy zz h5 n0 Z5) (by decide) (by decide) (g := (mkF m 44 #[.val (.long xx), .second, .val (.long yy), .second, .val (.long zz), .second, .val (.int ac), .val (.int bc), .val (.int sp), .val (.ref b1), .unset, .unset, .unset, .unset] [(.long zz), (.long yy), (.long xx), (.int ((ac.toUInt32 >>> ((4 : Int32) &&& 31).toUInt32).toInt32)), (.int (2 : Int32)), (.ref b1)])) rfl (by rw [hml]; rfl) (argsL := [(.int ((ac.toUInt32 >>> ((4 : Int32) &&& 31).toUInt32).toInt32)), (.long xx), (.long yy), (.long zz)]) (rest := [(.int (2 : Int32)), (.ref b1)]) (lenOf pd_0_0 rfl) rfl (by show 2 * 0 + _ ≤ _; exact Nat.le_of_eq rfl) (hb hby at_44) e5 rfl (by decide) (by decide)
  obtain ⟨rfl, Nq6, e6⟩ := hQ6
  have N6 := Fr.app N5 Nq6
  refine own_go st6 ?_
  show OwnFin p e below s _ _ _ (T6.setTop (mkF m 47 #[.val (.long xx), .second, .val (.long yy), .second, .val (.long zz), .second, .val (.int ac), .val (.int bc), .val (.int sp), .val (.ref b1), .unset, .unset, .unset, .unset] [(.long (own_pick ((ac.toUInt32 >>> ((4 : Int32) &&& 31).toUInt32).toInt32) xx yy zz)), (.int (2 : Int32)), (.ref b1)]))
  obtain ⟨T7, h7, X7, e7, W7, A7, st7⟩ := own_lastore X6 hx hZ e6 A5 (i := 2) (by decide) (by decide) (g := (mkF m 47 #[.val (.long xx), .second, .val (.long yy), .second, .val (.long zz), .second, .val (.int ac), .val (.int bc), .val (.int sp), .val (.ref b1), .unset, .unset, .unset, .unset] [(.long (own_pick ((ac.toUInt32 >>> ((4 : Int32) &&& 31).toUInt32).toInt32) xx yy zz)), (.int (2 : Int32)), (.ref b1)])) rfl rfl (hb hby at_47)
  have Z7 : n0 ≤ h7.size := Nat.le_trans Z5 (Keep.of_wr W7).1
  have N7 := Fr.snoc X7 N6 g_b1
  refine own_go st7 ?_
  show OwnFin p e below s _ _ _ (T7.setTop (mkF m 48 #[.val (.long xx), .second, .val (.long yy), .second, .val (.long zz), .second, .val (.int ac), .val (.int bc), .val (.int sp), .val (.ref b1), .unset, .unset, .unset, .unset] []))
  refine own_go (fun t_ k_ => XS.aload X7.here hx rfl (hb hby at_48) rfl rfl k_) ?_
  show OwnFin p e below s _ _ _ (T7.setTop (mkF m 50 #[.val (.long xx), .second, .val (.long yy), .second, .val (.long zz), .second, .val (.int ac), .val (.int bc), .val (.int sp), .val (.ref b1), .unset, .unset, .unset, .unset] [(.ref b1)]))
  refine own_go (fun t_ k_ => XS.iconst X7.here hx rfl (hb hby at_50) k_) ?_
  show OwnFin p e below s _ _ _ (T7.setTop (mkF m 51 #[.val (.long xx), .second, .val (.long yy), .second, .val (.long zz), .second, .val (.int ac), .val (.int bc), .val (.int sp), .val (.ref b1), .unset, .unset, .unset, .unset] [(.int (3 : Int32)), (.ref b1)]))
  refine own_go (fun t_ k_ => XS.iload X7.here hx rfl (hb hby at_51) rfl k_) ?_
  show OwnFin p e below s _ _ _ (T7.setTop (mkF m 53 #[.val (.long xx), .second, .val (.long yy), .second, .val (.long zz), .second, .val (.int ac), .val (.int bc), .val (.int sp), .val (.ref b1), .unset, .unset, .unset, .unset] [(.int ac), (.int (3 : Int32)), (.ref b1)]))
  refine own_go (fun t_ k_ => XS.bipush X7.here hx rfl (hb hby at_53) k_) ?_
  show OwnFin p e below s _ _ _ (T7.setTop (mkF m 55 #[.val (.long xx), .second, .val (.long yy), .second, .val (.long zz), .second, .val (.int ac), .val (.int bc), .val (.int sp), .val (.ref b1), .unset, .unset, .unset, .unset] [(.int (6 : Int32)), (.int ac), (.int (3 : Int32)), (.ref b1)]))
  refine own_go (fun t_ k_ => XS.iushr X7.here hx rfl (hb hby at_55) rfl k_) ?_
  show OwnFin p e below s _ _ _ (T7.setTop (mkF m 56 #[.val (.long xx), .second, .val (.long yy), .second, .val (.long zz), .second, .val (.int ac), .val (.int bc), .val (.int sp), .val (.ref b1), .unset, .unset, .unset, .unset] [(.int ((ac.toUInt32 >>> ((6 : Int32) &&& 31).toUInt32).toInt32)), (.int (3 : Int32)), (.ref b1)]))
  refine own_go (fun t_ k_ => XS.lloadN X7.here hx rfl (hb hby at_56) rfl k_) ?_
  show OwnFin p e below s _ _ _ (T7.setTop (mkF m 57 #[.val (.long xx), .second, .val (.long yy), .second, .val (.long zz), .second, .val (.int ac), .val (.int bc), .val (.int sp), .val (.ref b1), .unset, .unset, .unset, .unset] [(.long xx), (.int ((ac.toUInt32 >>> ((6 : Int32) &&& 31).toUInt32).toInt32)), (.int (3 : Int32)), (.ref b1)]))
  refine own_go (fun t_ k_ => XS.lloadN X7.here hx rfl (hb hby at_57) rfl k_) ?_
  show OwnFin p e below s _ _ _ (T7.setTop (mkF m 58 #[.val (.long xx), .second, .val (.long yy), .second, .val (.long zz), .second, .val (.int ac), .val (.int bc), .val (.int sp), .val (.ref b1), .unset, .unset, .unset, .unset] [(.long yy), (.long xx), (.int ((ac.toUInt32 >>> ((6 : Int32) &&& 31).toUInt32).toInt32)), (.int (3 : Int32)), (.ref b1)]))
  refine own_go (fun t_ k_ => XS.lload X7.here hx rfl (hb hby at_58) rfl k_) ?_
  show OwnFin p e below s _ _ _ (T7.setTop (mkF m 60 #[.val (.long xx), .second, .val (.long yy), .second, .val (.long zz), .second, .val (.int ac), .val (.int bc), .val (.int sp), .val (.ref b1), .unset, .unset, .unset, .unset] [(.long zz), (.long yy), (.long xx), (.int ((ac.toUInt32 >>> ((6 : Int32) &&& 31).toUInt32).toInt32)), (.int (3 : Int32)), (.ref b1)]))
  obtain ⟨v8, T8, L8, X8, hQ8, st8⟩ := own_callS X7 hx hZ (y := (⟨"com/example/trapline/trapline/collect/NumberedSetEqualPinLaw", "pick", "(IJJJ)J"⟩ : MethodName)) hown (hw _ (List.mem_of_getElem? (i := 1) rfl)) (hw _ (List.mem_of_getElem? (i := 2) rfl)) (hw _ (List.mem_of_getElem? (i := 3) rfl)) (hw _ (List.mem_of_getElem? (i := 4) rfl)) (by decide) (W := 2) (rm1 l Z a0 hw [] ((ac.toUInt32 >>> ((6 : Int32) &&& 31).toUInt32).toInt32) xx yy zz h7 n0 Z7) (by decide) (by decide) (g := (mkF m 60 #[.val (.long xx), .second, .val (.long yy), .second, .val (.long zz), .second, .val (.int ac), .val (.int bc), .val (.int sp), .val (.ref b1), .unset, .unset, .unset, .unset] [(.long zz), (.long yy), (.long xx), (.int ((ac.toUInt32 >>> ((6 : Int32) &&& 31).toUInt32).toInt32)), (.int (3 : Int32)), (.ref b1)])) rfl (by rw [hml]; rfl) (argsL := [(.int ((ac.toUInt32 >>> ((6 : Int32) &&& 31).toUInt32).toInt32)), (.long xx), (.long yy), (.long zz)]) (rest := [(.int (3 : Int32)), (.ref b1)]) (lenOf pd_0_0 rfl) rfl (by show 2 * 0 + _ ≤ _; exact Nat.le_of_eq rfl) (hb hby at_60) e7 rfl (by decide) (by decide)
  obtain ⟨rfl, Nq8, e8⟩ := hQ8
  have N8 := Fr.app N7 Nq8
  refine own_go st8 ?_
  show OwnFin p e below s _ _ _ (T8.setTop (mkF m 63 #[.val (.long xx), .second, .val (.long yy), .second, .val (.long zz), .second, .val (.int ac), .val (.int bc), .val (.int sp), .val (.ref b1), .unset, .unset, .unset, .unset] [(.long (own_pick ((ac.toUInt32 >>> ((6 : Int32) &&& 31).toUInt32).toInt32) xx yy zz)), (.int (3 : Int32)), (.ref b1)]))
  obtain ⟨T9, h9, X9, e9, W9, A9, st9⟩ := own_lastore X8 hx hZ e8 A7 (i := 3) (by decide) (by decide) (g := (mkF m 63 #[.val (.long xx), .second, .val (.long yy), .second, .val (.long zz), .second, .val (.int ac), .val (.int bc), .val (.int sp), .val (.ref b1), .unset, .unset, .unset, .unset] [(.long (own_pick ((ac.toUInt32 >>> ((6 : Int32) &&& 31).toUInt32).toInt32) xx yy zz)), (.int (3 : Int32)), (.ref b1)])) rfl rfl (hb hby at_63)
  have Z9 : n0 ≤ h9.size := Nat.le_trans Z7 (Keep.of_wr W9).1
  have N9 := Fr.snoc X9 N8 g_b1
  refine own_go st9 ?_
  show OwnFin p e below s _ _ _ (T9.setTop (mkF m 64 #[.val (.long xx), .second, .val (.long yy), .second, .val (.long zz), .second, .val (.int ac), .val (.int bc), .val (.int sp), .val (.ref b1), .unset, .unset, .unset, .unset] []))
  refine own_go (fun t_ k_ => XS.iconst X9.here hx rfl (hb hby at_64) k_) ?_
  show OwnFin p e below s _ _ _ (T9.setTop (mkF m 65 #[.val (.long xx), .second, .val (.long yy), .second, .val (.long zz), .second, .val (.int ac), .val (.int bc), .val (.int sp), .val (.ref b1), .unset, .unset, .unset, .unset] [(.int (3 : Int32))]))
  obtain ⟨T10, h10, X10, e10, E10, A10, st10⟩ := own_newarr X9 hx hZ (hw _ (List.mem_of_getElem? (i := 0) rfl)) e9 (g := (mkF m 65 #[.val (.long xx), .second, .val (.long yy), .second, .val (.long zz), .second, .val (.int ac), .val (.int bc), .val (.int sp), .val (.ref b1), .unset, .unset, .unset, .unset] [(.int (3 : Int32))])) rfl (hb hby at_65) rfl (n := 3) (cap := 3) (by decide) (by decide) (by decide) (by decide) (by decide)
  obtain ⟨b10, g10⟩ : ∃ z, z = h9.size := ⟨_, rfl⟩
  rw [← g10] at A10 st10
  have g_b10 : n0 ≤ b10 := Nat.le_trans Z9 (Nat.le_of_eq g10.symm)
  have ne_b1_b10 : b1 ≠ b10 := Nat.ne_of_lt (Nat.lt_of_lt_of_le A9.lt (Nat.le_of_eq g10.symm))
  have V_b1_10 := A9.ext E10
  have Z10 : n0 ≤ h10.size := Nat.le_trans Z9 E10.1
  have V_b10 : OwnArr Z h10 b10 .long 3 (fun _ => (.long (0 : Int64))) := A10
  refine own_go st10 ?_
  show OwnFin p e below s _ _ _ (T10.setTop (mkF m 67 #[.val (.long xx), .second, .val (.long yy), .second, .val (.long zz), .second, .val (.int ac), .val (.int bc), .val (.int sp), .val (.ref b1), .unset, .unset, .unset, .unset] [(.ref b10)]))
  refine own_go (fun t_ k_ => XS.astore X10.here hx rfl (hb hby at_67) rfl rfl (l' := #[.val (.long xx), .second, .val (.long yy), .second, .val (.long zz), .second, .val (.int ac), .val (.int bc), .val (.int sp), .val (.ref b1), .val (.ref b10), .unset, .unset, .unset]) rfl k_) ?_
  show OwnFin p e below s _ _ _ (T10.setTop (mkF m 69 #[.val (.long xx), .second, .val (.long yy), .second, .val (.long zz), .second, .val (.int ac), .val (.int bc), .val (.int sp), .val (.ref b1), .val (.ref b10), .unset, .unset, .unset] []))
  refine own_go (fun t_ k_ => XS.aload X10.here hx rfl (hb hby at_69) rfl rfl k_) ?_
  show OwnFin p e below s _ _ _ (T10.setTop (mkF m 71 #[.val (.long xx), .second, .val (.long yy), .second, .val (.long zz), .second, .val (.int ac), .val (.int bc), .val (.int sp), .val (.ref b1), .val (.ref b10), .unset, .unset, .unset] [(.ref b10)]))
  refine own_go (fun t_ k_ => XS.iconst X10.here hx rfl (hb hby at_71) k_) ?_
  show OwnFin p e below s _ _ _ (T10.setTop (mkF m 72 #[.val (.long xx), .second, .val (.long yy), .second, .val (.long zz), .second, .val (.int ac), .val (.int bc), .val (.int sp), .val (.ref b1), .val (.ref b10), .unset, .unset, .unset] [(.int (0 : Int32)), (.ref b10)]))
  refine own_go (fun t_ k_ => XS.iload X10.here hx rfl (hb hby at_72) rfl k_) ?_
  show OwnFin p e below s _ _ _ (T10.setTop (mkF m 74 #[.val (.long xx), .second, .val (.long yy), .second, .val (.long zz), .second, .val (.int ac), .val (.int bc), .val (.int sp), .val (.ref b1), .val (.ref b10), .unset, .unset, .unset] [(.int bc), (.int (0 : Int32)), (.ref b10)]))
  refine own_go (fun t_ k_ => XS.lloadN X10.here hx rfl (hb hby at_74) rfl k_) ?_
  show OwnFin p e below s _ _ _ (T10.setTop (mkF m 75 #[.val (.long xx), .second, .val (.long yy), .second, .val (.long zz), .second, .val (.int ac), .val (.int bc), .val (.int sp), .val (.ref b1), .val (.ref b10), .unset, .unset, .unset] [(.long xx), (.int bc), (.int (0 : Int32)), (.ref b10)]))
  refine own_go (fun t_ k_ => XS.lloadN X10.here hx rfl (hb hby at_75) rfl k_) ?_
  show OwnFin p e below s _ _ _ (T10.setTop (mkF m 76 #[.val (.long xx), .second, .val (.long yy), .second, .val (.long zz), .second, .val (.int ac), .val (.int bc), .val (.int sp), .val (.ref b1), .val (.ref b10), .unset, .unset, .unset] [(.long yy), (.long xx), (.int bc), (.int (0 : Int32)), (.ref b10)]))
  refine own_go (fun t_ k_ => XS.lload X10.here hx rfl (hb hby at_76) rfl k_) ?_
  show OwnFin p e below s _ _ _ (T10.setTop (mkF m 78 #[.val (.long xx), .second, .val (.long yy), .second, .val (.long zz), .second, .val (.int ac), .val (.int bc), .val (.int sp), .val (.ref b1), .val (.ref b10), .unset, .unset, .unset] [(.long zz), (.long yy), (.long xx), (.int bc), (.int (0 : Int32)), (.ref b10)]))
  obtain ⟨v11, T11, L11, X11, hQ11, st11⟩ := own_callS X10 hx hZ (y := (⟨"com/example/trapline/trapline/collect/NumberedSetEqualPinLaw", "pick", "(IJJJ)J"⟩ : MethodName)) hown (hw _ (List.mem_of_getElem? (i := 1) rfl)) (hw _ (List.mem_of_getElem? (i := 2) rfl)) (hw _ (List.mem_of_getElem? (i := 3) rfl)) (hw _ (List.mem_of_getElem? (i := 4) rfl)) (by decide) (W := 2) (rm1 l Z a0 hw [] bc xx yy zz h10 n0 Z10) (by decide) (by decide) (g := (mkF m 78 #[.val (.long xx), .second, .val (.long yy), .second, .val (.long zz), .second, .val (.int ac), .val (.int bc), .val (.int sp), .val (.ref b1), .val (.ref b10), .unset, .unset, .unset] [(.long zz), (.long yy), (.long xx), (.int bc), (.int (0 : Int32)), (.ref b10)])) rfl (by rw [hml]; rfl) (argsL := [(.int bc), (.long xx), (.long yy), (.long zz)]) (rest := [(.int (0 : Int32)), (.ref b10)]) (lenOf pd_0_0 rfl) rfl (by show 2 * 0 + _ ≤ _; exact Nat.le_of_eq rfl) (hb hby at_78) e10 rfl (by decide) (by decide)
  obtain ⟨rfl, Nq11, e11⟩ := hQ11
  have N11 := Fr.app N9 Nq11
  refine own_go st11 ?_
  show OwnFin p e below s _ _ _ (T11.setTop (mkF m 81 #[.val (.long xx), .second, .val (.long yy), .second, .val (.long zz), .second, .val (.int ac), .val (.int bc), .val (.int sp), .val (.ref b1), .val (.ref b10), .unset, .unset, .unset] [(.long (own_pick bc xx yy zz)), (.int (0 : Int32)), (.ref b10)]))
  obtain ⟨T12, h12, X12, e12, W12, A12, st12⟩ := own_lastore X11 hx hZ e11 V_b10 (i := 0) (by decide) (by decide) (g := (mkF m 81 #[.val (.long xx), .second, .val (.long yy), .second, .val (.long zz), .second, .val (.int ac), .val (.int bc), .val (.int sp), .val (.ref b1), .val (.ref b10), .unset, .unset, .unset] [(.long (own_pick bc xx yy zz)), (.int (0 : Int32)), (.ref b10)])) rfl rfl (hb hby at_81)
  have V_b1_12 := V_b1_10.other W12 ne_b1_b10
  have Z12 : n0 ≤ h12.size := Nat.le_trans Z10 (Keep.of_wr W12).1
  have N12 := Fr.snoc X12 N11 g_b10
  refine own_go st12 ?_
  show OwnFin p e below s _ _ _ (T12.setTop (mkF m 82 #[.val (.long xx), .second, .val (.long yy), .second, .val (.long zz), .second, .val (.int ac), .val (.int bc), .val (.int sp), .val (.ref b1), .val (.ref b10), .unset, .unset, .unset] []))
  refine own_go (fun t_ k_ => XS.aload X12.here hx rfl (hb hby at_82) rfl rfl k_) ?_
  show OwnFin p e below s _ _ _ (T12.setTop (mkF m 84 #[.val (.long xx), .second, .val (.long yy), .second, .val (.long zz), .second, .val (.int ac), .val (.int bc), .val (.int sp), .val (.ref b1), .val (.ref b10), .unset, .unset, .unset] [(.ref b10)]))
  refine own_go (fun t_ k_ => XS.iconst X12.here hx rfl (hb hby at_84) k_) ?_
  show OwnFin p e below s _ _ _ (T12.setTop (mkF m 85 #[.val (.long xx), .second, .val (.long yy), .second, .val (.long zz), .second, .val (.int ac), .val (.int bc), .val (.int sp), .val (.ref b1), .val (.ref b10), .unset, .unset, .unset] [(.int (1 : Int32)), (.ref b10)]))
  refine own_go (fun t_ k_ => XS.iload X12.here hx rfl (hb hby at_85) rfl k_) ?_
  show OwnFin p e below s _ _ _ (T12.setTop (mkF m 87 #[.val (.long xx), .second, .val (.long yy), .second, .val (.long zz), .second, .val (.int ac), .val (.int bc), .val (.int sp), .val (.ref b1), .val (.ref b10), .unset, .unset, .unset] [(.int bc), (.int (1 : Int32)), (.ref b10)]))
  refine own_go (fun t_ k_ => XS.iconst X12.here hx rfl (hb hby at_87) k_) ?_
  show OwnFin p e below s _ _ _ (T12.setTop (mkF m 88 #[.val (.long xx), .second, .val (.long yy), .second, .val (.long zz), .second, .val (.int ac), .val (.int bc), .val (.int sp), .val (.ref b1), .val (.ref b10), .unset, .unset, .unset] [(.int (2 : Int32)), (.int bc), (.int (1 : Int32)), (.ref b10)]))
  refine own_go (fun t_ k_ => XS.iushr X12.here hx rfl (hb hby at_88) rfl k_) ?_
  show OwnFin p e below s _ _ _ (T12.setTop (mkF m 89 #[.val (.long xx), .second, .val (.long yy), .second, .val (.long zz), .second, .val (.int ac), .val (.int bc), .val (.int sp), .val (.ref b1), .val (.ref b10), .unset, .unset, .unset] [(.int ((bc.toUInt32 >>> ((2 : Int32) &&& 31).toUInt32).toInt32)), (.int (1 : Int32)), (.ref b10)]))
  refine own_go (fun t_ k_ => XS.lloadN X12.here hx rfl (hb hby at_89) rfl k_) ?_
  show OwnFin p e below s _ _ _ (T12.setTop (mkF m 90 #[.val (.long xx), .second, .val (.long yy), .second, .val (.long zz), .second, .val (.int ac), .val (.int bc), .val (.int sp), .val (.ref b1), .val (.ref b10), .unset, .unset, .unset] [(.long xx), (.int ((bc.toUInt32 >>> ((2 : Int32) &&& 31).toUInt32).toInt32)), (.int (1 : Int32)), (.ref b10)]))
  refine own_go (fun t_ k_ => XS.lloadN X12.here hx rfl (hb hby at_90) rfl k_) ?_
  show OwnFin p e below s _ _ _ (T12.setTop (mkF m 91 #[.val (.long xx), .second, .val (.long yy), .second, .val (.long zz), .second, .val (.int ac), .val (.int bc), .val (.int sp), .val (.ref b1), .val (.ref b10), .unset, .unset, .unset] [(.long yy), (.long xx), (.int ((bc.toUInt32 >>> ((2 : Int32) &&& 31).toUInt32).toInt32)), (.int (1 : Int32)), (.ref b10)]))
  refine own_go (fun t_ k_ => XS.lload X12.here hx rfl (hb hby at_91) rfl k_) ?_
  show OwnFin p e below s _ _ _ (T12.setTop (mkF m 93 #[.val (.long xx), .second, .val (.long yy), .second, .val (.long zz), .second, .val (.int ac), .val (.int bc), .val (.int sp), .val (.ref b1), .val (.ref b10), .unset, .unset, .unset] [(.long zz), (.long yy), (.long xx), (.int ((bc.toUInt32 >>> ((2 : Int32) &&& 31).toUInt32).toInt32)), (.int (1 : Int32)), (.ref b10)]))
  obtain ⟨v13, T13, L13, X13, hQ13, st13⟩ := own_callS X12 hx hZ (y := (⟨"com/example/trapline/trapline/collect/NumberedSetEqualPinLaw", "pick", "(IJJJ)J"⟩ : MethodName)) hown (hw _ (List.mem_of_getElem? (i := 1) rfl)) (hw _ (List.mem_of_getElem? (i := 2) rfl)) (hw _ (List.mem_of_getElem? (i := 3) rfl)) (hw _ (List.mem_of_getElem? (i := 4) rfl)) (by decide) (W := 2) (rm1 l Z a0 hw [] ((bc.toUInt32 >>> ((2 : Int32) &&& 31).toUInt32).toInt32) xx yy zz h12 n0 Z12) (by decide) (by decide) (g := (mkF m 93 #[.val (.long xx), .second, .val (.long yy), .second, .val (.long zz), .second, .val (.int ac), .val (.int bc), .val (.int sp), .val (.ref b1), .val (.ref b10), .unset, .unset, .unset] [(.long zz), (.long yy), (.long xx), (.int ((bc.toUInt32 >>> ((2 : Int32) &&& 31).toUInt32).toInt32)), (.int (1 : Int32)), (.ref b10)])) rfl (by rw [hml]; rfl) (argsL := [(.int ((bc.toUInt32 >>> ((2 : Int32) &&& 31).toUInt32).toInt32)), (.long xx), (.long yy), (.long zz)]) (rest := [(.int (1 : Int32)), (.ref b10)]) (lenOf pd_0_0 rfl) rfl (by show 2 * 0 + _ ≤ _; exact Nat.le_of_eq rfl) (hb hby at_93) e12 rfl (by decide) (by decide)
  obtain ⟨rfl, Nq13, e13⟩ := hQ13
  have N13 := Fr.app N12 Nq13
  refine own_go st13 ?_
  show OwnFin p e below s _ _ _ (T13.setTop (mkF m 96 #[.val (.long xx), .second, .val (.long yy), .second, .val (.long zz), .second, .val (.int ac), .val (.int bc), .val (.int sp), .val (.ref b1), .val (.ref b10), .unset, .unset, .unset] [(.long (own_pick ((bc.toUInt32 >>> ((2 : Int32) &&& 31).toUInt32).toInt32) xx yy zz)), (.int (1 : Int32)), (.ref b10)]))
  obtain ⟨T14, h14, X14, e14, W14, A14, st14⟩ := own_lastore X13 hx hZ e13 A12 (i := 1) (by decide) (by decide) (g := (mkF m 96 #[.val (.long xx), .second, .val (.long yy), .second, .val (.long zz), .second, .val (.int ac), .val (.int bc), .val (.int sp), .val (.ref b1), .val (.ref b10), .unset, .unset, .unset] [(.long (own_pick ((bc.toUInt32 >>> ((2 : Int32) &&& 31).toUInt32).toInt32) xx yy zz)), (.int (1 : Int32)), (.ref b10)])) rfl rfl (hb hby at_96)
  have V_b1_14 := V_b1_12.other W14 ne_b1_b10
  have Z14 : n0 ≤ h14.size := Nat.le_trans Z12 (Keep.of_wr W14).1
  have N14 := Fr.snoc X14 N13 g_b10
  refine own_go st14 ?_
  show OwnFin p e below s _ _ _ (T14.setTop (mkF m 97 #[.val (.long xx), .second, .val (.long yy), .second, .val (.long zz), .second, .val (.int ac), .val (.int bc), .val (.int sp), .val (.ref b1), .val (.ref b10), .unset, .unset, .unset] []))
  refine own_go (fun t_ k_ => XS.aload X14.here hx rfl (hb hby at_97) rfl rfl k_) ?_
  show OwnFin p e below s _ _ _ (T14.setTop (mkF m 99 #[.val (.long xx), .second, .val (.long yy), .second, .val (.long zz), .second, .val (.int ac), .val (.int bc), .val (.int sp), .val (.ref b1), .val (.ref b10), .unset, .unset, .unset] [(.ref b10)]))
  refine own_go (fun t_ k_ => XS.iconst X14.here hx rfl (hb hby at_99) k_) ?_
  show OwnFin p e below s _ _ _ (T14.setTop (mkF m 100 #[.val (.long xx), .second, .val (.long yy), .second, .val (.long zz), .second, .val (.int ac), .val (.int bc), .val (.int sp), .val (.ref b1), .val (.ref b10), .unset, .unset, .unset] [(.int (2 : Int32)), (.ref b10)]))
  refine own_go (fun t_ k_ => XS.iload X14.here hx rfl (hb hby at_100) rfl k_) ?_
  show OwnFin p e below s _ _ _ (T14.setTop (mkF m 102 #[.val (.long xx), .second, .val (.long yy), .second, .val (.long zz), .second, .val (.int ac), .val (.int bc), .val (.int sp), .val (.ref b1), .val (.ref b10), .unset, .unset, .unset] [(.int bc), (.int (2 : Int32)), (.ref b10)]))
  refine own_go (fun t_ k_ => XS.iconst X14.here hx rfl (hb hby at_102) k_) ?_
  show OwnFin p e below s _ _ _ (T14.setTop (mkF m 103 #[.val (.long xx), .second, .val (.long yy), .second, .val (.long zz), .second, .val (.int ac), .val (.int bc), .val (.int sp), .val (.ref b1), .val (.ref b10), .unset, .unset, .unset] [(.int (4 : Int32)), (.int bc), (.int (2 : Int32)), (.ref b10)]))
  refine own_go (fun t_ k_ => XS.iushr X14.here hx rfl (hb hby at_103) rfl k_) ?_
  show OwnFin p e below s _ _ _ (T14.setTop (mkF m 104 #[.val (.long xx), .second, .val (.long yy), .second, .val (.long zz), .second, .val (.int ac), .val (.int bc), .val (.int sp), .val (.ref b1), .val (.ref b10), .unset, .unset, .unset] [(.int ((bc.toUInt32 >>> ((4 : Int32) &&& 31).toUInt32).toInt32)), (.int (2 : Int32)), (.ref b10)]))
  refine own_go (fun t_ k_ => XS.lloadN X14.here hx rfl (hb hby at_104) rfl k_) ?_
  show OwnFin p e below s _ _ _ (T14.setTop (mkF m 105 #[.val (.long xx), .second, .val (.long yy), .second, .val (.long zz), .second, .val (.int ac), .val (.int bc), .val (.int sp), .val (.ref b1), .val (.ref b10), .unset, .unset, .unset] [(.long xx), (.int ((bc.toUInt32 >>> ((4 : Int32) &&& 31).toUInt32).toInt32)), (.int (2 : Int32)), (.ref b10)]))
  refine own_go (fun t_ k_ => XS.lloadN X14.here hx rfl (hb hby at_105) rfl k_) ?_
  show OwnFin p e below s _ _ _ (T14.setTop (mkF m 106 #[.val (.long xx), .second, .val (.long yy), .second, .val (.long zz), .second, .val (.int ac), .val (.int bc), .val (.int sp), .val (.ref b1), .val (.ref b10), .unset, .unset, .unset] [(.long yy), (.long xx), (.int ((bc.toUInt32 >>> ((4 : Int32) &&& 31).toUInt32).toInt32)), (.int (2 : Int32)), (.ref b10)]))
  refine own_go (fun t_ k_ => XS.lload X14.here hx rfl (hb hby at_106) rfl k_) ?_
  show OwnFin p e below s _ _ _ (T14.setTop (mkF m 108 #[.val (.long xx), .second, .val (.long yy), .second, .val (.long zz), .second, .val (.int ac), .val (.int bc), .val (.int sp), .val (.ref b1), .val (.ref b10), .unset, .unset, .unset] [(.long zz), (.long yy), (.long xx), (.int ((bc.toUInt32 >>> ((4 : Int32) &&& 31).toUInt32).toInt32)), (.int (2 : Int32)), (.ref b10)]))
  obtain ⟨v15, T15, L15, X15, hQ15, st15⟩ := own_callS X14 hx hZ (y := (⟨"com/example/trapline/trapline/collect/NumberedSetEqualPinLaw", "pick", "(IJJJ)J"⟩ : MethodName)) hown (hw _ (List.mem_of_getElem? (i := 1) rfl)) (hw _ (List.mem_of_getElem? (i := 2) rfl)) (hw _ (List.mem_of_getElem? (i := 3) rfl)) (hw _ (List.mem_of_getElem? (i := 4) rfl)) (by decide) (W := 2) (rm1 l Z a0 hw [] ((bc.toUInt32 >>> ((4 : Int32) &&& 31).toUInt32).toInt32) xx yy zz h14 n0 Z14) (by decide) (by decide) (g := (mkF m 108 #[.val (.long xx), .second, .val (.long yy), .second, .val (.long zz), .second, .val (.int ac), .val (.int bc), .val (.int sp), .val (.ref b1), .val (.ref b10), .unset, .unset, .unset] [(.long zz), (.long yy), (.long xx), (.int ((bc.toUInt32 >>> ((4 : Int32) &&& 31).toUInt32).toInt32)), (.int (2 : Int32)), (.ref b10)])) rfl (by rw [hml]; rfl) (argsL := [(.int ((bc.toUInt32 >>> ((4 : Int32) &&& 31).toUInt32).toInt32)), (.long xx), (.long yy), (.long zz)]) (rest := [(.int (2 : Int32)), (.ref b10)]) (lenOf pd_0_0 rfl) rfl (by show 2 * 0 + _ ≤ _; exact Nat.le_of_eq rfl) (hb hby at_108) e14 rfl (by decide) (by decide)
  obtain ⟨rfl, Nq15, e15⟩ := hQ15
  have N15 := Fr.app N14 Nq15
  refine own_go st15 ?_
  show OwnFin p e below s _ _ _ (T15.setTop (mkF m 111 #[.val (.long xx), .second, .val (.long yy), .second, .val (.long zz), .second, .val (.int ac), .val (.int bc), .val (.int sp), .val (.ref b1), .val (.ref b10), .unset, .unset, .unset] [(.long (own_pick ((bc.toUInt32 >>> ((4 : Int32) &&& 31).toUInt32).toInt32) xx yy zz)), (.int (2 : Int32)), (.ref b10)]))
  obtain ⟨T16, h16, X16, e16, W16, A16, st16⟩ := own_lastore X15 hx hZ e15 A14 (i := 2) (by decide) (by decide) (g := (mkF m 111 #[.val (.long xx), .second, .val (.long yy), .second, .val (.long zz), .second, .val (.int ac), .val (.int bc), .val (.int sp), .val (.ref b1), .val (.ref b10), .unset, .unset, .unset] [(.long (own_pick ((bc.toUInt32 >>> ((4 : Int32) &&& 31).toUInt32).toInt32) xx yy zz)), (.int (2 : Int32)), (.ref b10)])) rfl rfl (hb hby at_111)
  have V_b1_16 := V_b1_14.other W16 ne_b1_b10
  have Z16 : n0 ≤ h16.size := Nat.le_trans Z14 (Keep.of_wr W16).1
  have N16 := Fr.snoc X16 N15 g_b10
  refine own_go st16 ?_
  show OwnFin p e below s _ _ _ (T16.setTop (mkF m 112 #[.val (.long xx), .second, .val (.long yy), .second, .val (.long zz), .second, .val (.int ac), .val (.int bc), .val (.int sp), .val (.ref b1), .val (.ref b10), .unset, .unset, .unset] []))
  obtain ⟨fA, VfA⟩ := own_longs V_b1_16 (fun i _ => by (try dsimp only); repeat (first | exact ⟨_, rfl⟩ | split))
  obtain ⟨fB, VfB⟩ := own_longs A16 (fun i _ => by (try dsimp only); repeat (first | exact ⟨_, rfl⟩ | split))
  refine own_go (fun t_ k_ => XS.iload X16.here hx rfl (hb hby at_112) rfl k_) ?_
  show OwnFin p e below s _ _ _ (T16.setTop (mkF m 114 #[.val (.long xx), .second, .val (.long yy), .second, .val (.long zz), .second, .val (.int ac), .val (.int bc), .val (.int sp), .val (.ref b1), .val (.ref b10), .unset, .unset, .unset] [(.int sp)]))
  refine own_go (fun t_ k_ => XS.iconst X16.here hx rfl (hb hby at_114) k_) ?_
  show OwnFin p e below s _ _ _ (T16.setTop (mkF m 115 #[.val (.long xx), .second, .val (.long yy), .second, .val (.long zz), .second, .val (.int ac), .val (.int bc), .val (.int sp), .val (.ref b1), .val (.ref b10), .unset, .unset, .unset] [(.int (3 : Int32)), (.int sp)]))
  refine own_go (fun t_ k_ => XS.iand X16.here hx rfl (hb hby at_115) rfl k_) ?_
  show OwnFin p e below s _ _ _ (T16.setTop (mkF m 116 #[.val (.long xx), .second, .val (.long yy), .second, .val (.long zz), .second, .val (.int ac), .val (.int bc), .val (.int sp), .val (.ref b1), .val (.ref b10), .unset, .unset, .unset] [(.int (sp &&& (3 : Int32)))]))
  refine own_go (fun t_ k_ => XS.istore X16.here hx rfl (hb hby at_116) rfl (l' := #[.val (.long xx), .second, .val (.long yy), .second, .val (.long zz), .second, .val (.int ac), .val (.int bc), .val (.int sp), .val (.ref b1), .val (.ref b10), .val (.int (sp &&& (3 : Int32))), .unset, .unset]) rfl k_) ?_
  show OwnFin p e below s _ _ _ (T16.setTop (mkF m 118 #[.val (.long xx), .second, .val (.long yy), .second, .val (.long zz), .second, .val (.int ac), .val (.int bc), .val (.int sp), .val (.ref b1), .val (.ref b10), .val (.int (sp &&& (3 : Int32))), .unset, .unset] []))
  obtain ⟨len, hlen, hl3⟩ := own_and3 sp
  rw [hlen]
  have hl : len = 0 ∨ len = 1 ∨ len = 2 ∨ len = 3 := by omega
  rcases hl with rfl | rfl | rfl | rfl
  · show OwnFin p e below s _ _ _ (T16.setTop (mkF m 118 #[.val (.long xx), .second, .val (.long yy), .second, .val (.long zz), .second, .val (.int ac), .val (.int bc), .val (.int sp), .val (.ref b1), .val (.ref b10), .val (.int (0 : Int32)), .unset, .unset] []))
    refine own_go (fun t_ k_ => XS.iload X16.here hx rfl (hb hby at_118) rfl k_) ?_
    show OwnFin p e below s _ _ _ (T16.setTop (mkF m 120 #[.val (.long xx), .second, .val (.long yy), .second, .val (.long zz), .second, .val (.int ac), .val (.int bc), .val (.int sp), .val (.ref b1), .val (.ref b10), .val (.int (0 : Int32)), .unset, .unset] [(.int sp)]))
    refine own_go (fun t_ k_ => XS.iconst X16.here hx rfl (hb hby at_120) k_) ?_
    show OwnFin p e below s _ _ _ (T16.setTop (mkF m 121 #[.val (.long xx), .second, .val (.long yy), .second, .val (.long zz), .second, .val (.int ac), .val (.int bc), .val (.int sp), .val (.ref b1), .val (.ref b10), .val (.int (0 : Int32)), .unset, .unset] [(.int (2 : Int32)), (.int sp)]))
    refine own_go (fun t_ k_ => XS.iushr X16.here hx rfl (hb hby at_121) rfl k_) ?_
    show OwnFin p e below s _ _ _ (T16.setTop (mkF m 122 #[.val (.long xx), .second, .val (.long yy), .second, .val (.long zz), .second, .val (.int ac), .val (.int bc), .val (.int sp), .val (.ref b1), .val (.ref b10), .val (.int (0 : Int32)), .unset, .unset] [(.int ((sp.toUInt32 >>> ((2 : Int32) &&& 31).toUInt32).toInt32))]))
    refine own_go (fun t_ k_ => XS.iconst X16.here hx rfl (hb hby at_122) k_) ?_
    show OwnFin p e below s _ _ _ (T16.setTop (mkF m 123 #[.val (.long xx), .second, .val (.long yy), .second, .val (.long zz), .second, .val (.int ac), .val (.int bc), .val (.int sp), .val (.ref b1), .val (.ref b10), .val (.int (0 : Int32)), .unset, .unset] [(.int (5 : Int32)), (.int ((sp.toUInt32 >>> ((2 : Int32) &&& 31).toUInt32).toInt32))]))
    refine own_go (fun t_ k_ => XS.iload X16.here hx rfl (hb hby at_123) rfl k_) ?_
    show OwnFin p e below s _ _ _ (T16.setTop (mkF m 125 #[.val (.long xx), .second, .val (.long yy), .second, .val (.long zz), .second, .val (.int ac), .val (.int bc), .val (.int sp), .val (.ref b1), .val (.ref b10), .val (.int (0 : Int32)), .unset, .unset] [(.int (0 : Int32)), (.int (5 : Int32)), (.int ((sp.toUInt32 >>> ((2 : Int32) &&& 31).toUInt32).toInt32))]))
    refine own_go (fun t_ k_ => XS.isub X16.here hx rfl (hb hby at_125) rfl k_) ?_
    show OwnFin p e below s _ _ _ (T16.setTop (mkF m 126 #[.val (.long xx), .second, .val (.long yy), .second, .val (.long zz), .second, .val (.int ac), .val (.int bc), .val (.int sp), .val (.ref b1), .val (.ref b10), .val (.int (0 : Int32)), .unset, .unset] [(.int ((5 : Int32) - (0 : Int32))), (.int ((sp.toUInt32 >>> ((2 : Int32) &&& 31).toUInt32).toInt32))]))
    refine own_go (fun t_ k_ => Jvm.RoadKit.iremM X16 hx rfl (hb hby at_126) rfl (by decide) k_) ?_
    show OwnFin p e below s _ _ _ (T16.setTop (mkF m 127 #[.val (.long xx), .second, .val (.long yy), .second, .val (.long zz), .second, .val (.int ac), .val (.int bc), .val (.int sp), .val (.ref b1), .val (.ref b10), .val (.int (0 : Int32)), .unset, .unset] [(.int (((sp.toUInt32 >>> ((2 : Int32) &&& 31).toUInt32).toInt32) % ((5 : Int32) - (0 : Int32))))]))
    refine own_go (fun t_ k_ => XS.istore X16.here hx rfl (hb hby at_127) rfl (l' := #[.val (.long xx), .second, .val (.long yy), .second, .val (.long zz), .second, .val (.int ac), .val (.int bc), .val (.int sp), .val (.ref b1), .val (.ref b10), .val (.int (0 : Int32)), .val (.int (((sp.toUInt32 >>> ((2 : Int32) &&& 31).toUInt32).toInt32) % ((5 : Int32) - (0 : Int32)))), .unset]) rfl k_) ?_
    show OwnFin p e below s _ _ _ (T16.setTop (mkF m 129 #[.val (.long xx), .second, .val (.long yy), .second, .val (.long zz), .second, .val (.int ac), .val (.int bc), .val (.int sp), .val (.ref b1), .val (.ref b10), .val (.int (0 : Int32)), .val (.int (((sp.toUInt32 >>> ((2 : Int32) &&& 31).toUInt32).toInt32) % ((5 : Int32) - (0 : Int32)))), .unset] []))
    obtain ⟨fr, hfr, hfl⟩ := own_from sp (d := 5) (by decide) (by decide) (q := (5 : Int32) - (0 : Int32)) (by decide)
    rw [hfr]
    show OwnFin p e below s _ _ _ (T16.setTop (mkF m 129 #[.val (.long xx), .second, .val (.long yy), .second, .val (.long zz), .second, .val (.int ac), .val (.int bc), .val (.int sp), .val (.ref b1), .val (.ref b10), .val (.int (0 : Int32)), .val (.int (Int32.ofNat fr)), .unset] []))
    refine own_go (fun t_ k_ => XS.iload X16.here hx rfl (hb hby at_129) rfl k_) ?_
    show OwnFin p e below s _ _ _ (T16.setTop (mkF m 131 #[.val (.long xx), .second, .val (.long yy), .second, .val (.long zz), .second, .val (.int ac), .val (.int bc), .val (.int sp), .val (.ref b1), .val (.ref b10), .val (.int (0 : Int32)), .val (.int (Int32.ofNat fr)), .unset] [(.int (0 : Int32))]))
    refine own_go (fun t_ k_ => XS.iconst X16.here hx rfl (hb hby at_131) k_) ?_
    show OwnFin p e below s _ _ _ (T16.setTop (mkF m 132 #[.val (.long xx), .second, .val (.long yy), .second, .val (.long zz), .second, .val (.int ac), .val (.int bc), .val (.int sp), .val (.ref b1), .val (.ref b10), .val (.int (0 : Int32)), .val (.int (Int32.ofNat fr)), .unset] [(.int (1 : Int32)), (.int (0 : Int32))]))
    refine own_go (fun t_ k_ => XS.icmpYes X16.here hx rfl (pc0 := 132) (pc' := 148) rfl (hb hby at_132) rfl (tlt (by decide)).1 (by decide) (by decide) k_) ?_
    show OwnFin p e below s _ _ _ (T16.setTop (mkF m 148 #[.val (.long xx), .second, .val (.long yy), .second, .val (.long zz), .second, .val (.int ac), .val (.int bc), .val (.int sp), .val (.ref b1), .val (.ref b10), .val (.int (0 : Int32)), .val (.int (Int32.ofNat fr)), .unset] []))
    refine own_go (fun t_ k_ => XS.iload X16.here hx rfl (hb hby at_148) rfl k_) ?_
    show OwnFin p e below s _ _ _ (T16.setTop (mkF m 150 #[.val (.long xx), .second, .val (.long yy), .second, .val (.long zz), .second, .val (.int ac), .val (.int bc), .val (.int sp), .val (.ref b1), .val (.ref b10), .val (.int (0 : Int32)), .val (.int (Int32.ofNat fr)), .unset] [(.int (0 : Int32))]))
    refine own_go (fun t_ k_ => XS.iconst X16.here hx rfl (hb hby at_150) k_) ?_
    show OwnFin p e below s _ _ _ (T16.setTop (mkF m 151 #[.val (.long xx), .second, .val (.long yy), .second, .val (.long zz), .second, .val (.int ac), .val (.int bc), .val (.int sp), .val (.ref b1), .val (.ref b10), .val (.int (0 : Int32)), .val (.int (Int32.ofNat fr)), .unset] [(.int (2 : Int32)), (.int (0 : Int32))]))
    refine own_go (fun t_ k_ => XS.icmpYes X16.here hx rfl (pc0 := 151) (pc' := 169) rfl (hb hby at_151) rfl (tlt (by decide)).1 (by decide) (by decide) k_) ?_
    show OwnFin p e below s _ _ _ (T16.setTop (mkF m 169 #[.val (.long xx), .second, .val (.long yy), .second, .val (.long zz), .second, .val (.int ac), .val (.int bc), .val (.int sp), .val (.ref b1), .val (.ref b10), .val (.int (0 : Int32)), .val (.int (Int32.ofNat fr)), .unset] []))
    refine own_go (fun t_ k_ => XS.iload X16.here hx rfl (hb hby at_169) rfl k_) ?_
    show OwnFin p e below s _ _ _ (T16.setTop (mkF m 171 #[.val (.long xx), .second, .val (.long yy), .second, .val (.long zz), .second, .val (.int ac), .val (.int bc), .val (.int sp), .val (.ref b1), .val (.ref b10), .val (.int (0 : Int32)), .val (.int (Int32.ofNat fr)), .unset] [(.int (0 : Int32))]))
    refine own_go (fun t_ k_ => XS.iconst X16.here hx rfl (hb hby at_171) k_) ?_
    show OwnFin p e below s _ _ _ (T16.setTop (mkF m 172 #[.val (.long xx), .second, .val (.long yy), .second, .val (.long zz), .second, .val (.int ac), .val (.int bc), .val (.int sp), .val (.ref b1), .val (.ref b10), .val (.int (0 : Int32)), .val (.int (Int32.ofNat fr)), .unset] [(.int (3 : Int32)), (.int (0 : Int32))]))
    refine own_go (fun t_ k_ => XS.icmpYes X16.here hx rfl (pc0 := 172) (pc' := 190) rfl (hb hby at_172) rfl (tlt (by decide)).1 (by decide) (by decide) k_) ?_
    show OwnFin p e below s _ _ _ (T16.setTop (mkF m 190 #[.val (.long xx), .second, .val (.long yy), .second, .val (.long zz), .second, .val (.int ac), .val (.int bc), .val (.int sp), .val (.ref b1), .val (.ref b10), .val (.int (0 : Int32)), .val (.int (Int32.ofNat fr)), .unset] []))
    refine own_go (fun t_ k_ => XS.iconst X16.here hx rfl (hb hby at_190) k_) ?_
    show OwnFin p e below s _ _ _ (T16.setTop (mkF m 191 #[.val (.long xx), .second, .val (.long yy), .second, .val (.long zz), .second, .val (.int ac), .val (.int bc), .val (.int sp), .val (.ref b1), .val (.ref b10), .val (.int (0 : Int32)), .val (.int (Int32.ofNat fr)), .unset] [(.int (1 : Int32))]))
    refine own_go (fun t_ k_ => XS.goto X16.here hx rfl (pc0 := 191) (pc' := 195) rfl (hb hby at_191) (by decide) (by decide) k_) ?_
    show OwnFin p e below s _ _ _ (T16.setTop (mkF m 195 #[.val (.long xx), .second, .val (.long yy), .second, .val (.long zz), .second, .val (.int ac), .val (.int bc), .val (.int sp), .val (.ref b1), .val (.ref b10), .val (.int (0 : Int32)), .val (.int (Int32.ofNat fr)), .unset] [(.int (1 : Int32))]))
    refine own_go (fun t_ k_ => XS.istore X16.here hx rfl (hb hby at_195) rfl (l' := #[.val (.long xx), .second, .val (.long yy), .second, .val (.long zz), .second, .val (.int ac), .val (.int bc), .val (.int sp), .val (.ref b1), .val (.ref b10), .val (.int (0 : Int32)), .val (.int (Int32.ofNat fr)), .val (.int (1 : Int32))]) rfl k_) ?_
    show OwnFin p e below s _ _ _ (T16.setTop (mkF m 197 #[.val (.long xx), .second, .val (.long yy), .second, .val (.long zz), .second, .val (.int ac), .val (.int bc), .val (.int sp), .val (.ref b1), .val (.ref b10), .val (.int (0 : Int32)), .val (.int (Int32.ofNat fr)), .val (.int (1 : Int32))] []))
    refine own_go (fun t_ k_ => XS.aload X16.here hx rfl (hb hby at_197) rfl rfl k_) ?_
    show OwnFin p e below s _ _ _ (T16.setTop (mkF m 199 #[.val (.long xx), .second, .val (.long yy), .second, .val (.long zz), .second, .val (.int ac), .val (.int bc), .val (.int sp), .val (.ref b1), .val (.ref b10), .val (.int (0 : Int32)), .val (.int (Int32.ofNat fr)), .val (.int (1 : Int32))] [(.ref b1)]))
    refine own_go (fun t_ k_ => XS.iload X16.here hx rfl (hb hby at_199) rfl k_) ?_
    show OwnFin p e below s _ _ _ (T16.setTop (mkF m 201 #[.val (.long xx), .second, .val (.long yy), .second, .val (.long zz), .second, .val (.int ac), .val (.int bc), .val (.int sp), .val (.ref b1), .val (.ref b10), .val (.int (0 : Int32)), .val (.int (Int32.ofNat fr)), .val (.int (1 : Int32))] [(.int (Int32.ofNat fr)), (.ref b1)]))
    refine own_go (fun t_ k_ => XS.aload X16.here hx rfl (hb hby at_201) rfl rfl k_) ?_
    show OwnFin p e below s _ _ _ (T16.setTop (mkF m 203 #[.val (.long xx), .second, .val (.long yy), .second, .val (.long zz), .second, .val (.int ac), .val (.int bc), .val (.int sp), .val (.ref b1), .val (.ref b10), .val (.int (0 : Int32)), .val (.int (Int32.ofNat fr)), .val (.int (1 : Int32))] [(.ref b10), (.int (Int32.ofNat fr)), (.ref b1)]))
    refine own_go (fun t_ k_ => XS.iload X16.here hx rfl (hb hby at_203) rfl k_) ?_
    show OwnFin p e below s _ _ _ (T16.setTop (mkF m 205 #[.val (.long xx), .second, .val (.long yy), .second, .val (.long zz), .second, .val (.int ac), .val (.int bc), .val (.int sp), .val (.ref b1), .val (.ref b10), .val (.int (0 : Int32)), .val (.int (Int32.ofNat fr)), .val (.int (1 : Int32))] [(.int (0 : Int32)), (.ref b10), (.int (Int32.ofNat fr)), (.ref b1)]))
    obtain ⟨v17, T17, L17, X17, hQ17, st17⟩ := own_callS X16 hx hZ (y := (⟨"com/example/trapline/trapline/collect/NumberedSet", "equal", "([JI[JI)Z"⟩ : MethodName)) hown (hw _ (List.mem_of_getElem? (i := 5) rfl)) (hw _ (List.mem_of_getElem? (i := 6) rfl)) (hw _ (List.mem_of_getElem? (i := 7) rfl)) (hw _ (List.mem_of_getElem? (i := 8) rfl)) (by decide) (W := 0) (rm2 l Z a0 hw [] b1 (Int32.ofNat fr) b10 (0 : Int32) fA fB 4 3 fr 0 h16 n0 Z16 VfA VfB rfl rfl (by omega) (by omega) (by decide)) (by decide) (by decide) (g := (mkF m 205 #[.val (.long xx), .second, .val (.long yy), .second, .val (.long zz), .second, .val (.int ac), .val (.int bc), .val (.int sp), .val (.ref b1), .val (.ref b10), .val (.int (0 : Int32)), .val (.int (Int32.ofNat fr)), .val (.int (1 : Int32))] [(.int (0 : Int32)), (.ref b10), (.int (Int32.ofNat fr)), (.ref b1)])) rfl (by rw [hml]; rfl) (argsL := [(.ref b1), (.int (Int32.ofNat fr)), (.ref b10), (.int (0 : Int32))]) (rest := []) (lenOf pd_0_1 rfl) rfl (by show 2 * 0 + _ ≤ _; exact Nat.le_of_eq rfl) (hb hby at_205) e16 rfl (by decide) (by decide)
    obtain ⟨rfl, Nq17, e17⟩ := hQ17
    have N17 := Fr.app N16 Nq17
    refine own_go st17 ?_
    show OwnFin p e below s _ _ _ (T17.setTop (mkF m 208 #[.val (.long xx), .second, .val (.long yy), .second, .val (.long zz), .second, .val (.int ac), .val (.int bc), .val (.int sp), .val (.ref b1), .val (.ref b10), .val (.int (0 : Int32)), .val (.int (Int32.ofNat fr)), .val (.int (1 : Int32))] [(.int (own_eq fA fB fr 0))]))
    refine own_go (fun t_ k_ => XS.iload X17.here hx rfl (hb hby at_208) rfl k_) ?_
    show OwnFin p e below s _ _ _ (T17.setTop (mkF m 210 #[.val (.long xx), .second, .val (.long yy), .second, .val (.long zz), .second, .val (.int ac), .val (.int bc), .val (.int sp), .val (.ref b1), .val (.ref b10), .val (.int (0 : Int32)), .val (.int (Int32.ofNat fr)), .val (.int (1 : Int32))] [(.int (1 : Int32)), (.int (own_eq fA fB fr 0))]))
    by_cases hc210 : (own_eq fA fB fr 0) = (1 : Int32)
    · refine own_go (fun t_ k_ => XS.icmpNo X17.here hx rfl (hb hby at_210) rfl (teq hc210).2 k_) ?_
      show OwnFin p e below s _ _ _ (T17.setTop (mkF m 213 #[.val (.long xx), .second, .val (.long yy), .second, .val (.long zz), .second, .val (.int ac), .val (.int bc), .val (.int sp), .val (.ref b1), .val (.ref b10), .val (.int (0 : Int32)), .val (.int (Int32.ofNat fr)), .val (.int (1 : Int32))] []))
      refine own_go (fun t_ k_ => XS.iconst X17.here hx rfl (hb hby at_213) k_) ?_
      show OwnFin p e below s _ _ _ (T17.setTop (mkF m 214 #[.val (.long xx), .second, .val (.long yy), .second, .val (.long zz), .second, .val (.int ac), .val (.int bc), .val (.int sp), .val (.ref b1), .val (.ref b10), .val (.int (0 : Int32)), .val (.int (Int32.ofNat fr)), .val (.int (1 : Int32))] [(.int (1 : Int32))]))
      refine own_go (fun t_ k_ => XS.goto X17.here hx rfl (pc0 := 214) (pc' := 218) rfl (hb hby at_214) (by decide) (by decide) k_) ?_
      show OwnFin p e below s _ _ _ (T17.setTop (mkF m 218 #[.val (.long xx), .second, .val (.long yy), .second, .val (.long zz), .second, .val (.int ac), .val (.int bc), .val (.int sp), .val (.ref b1), .val (.ref b10), .val (.int (0 : Int32)), .val (.int (Int32.ofNat fr)), .val (.int (1 : Int32))] [(.int (1 : Int32))]))
      refine own_ret X17 (v := some (.int (1 : Int32))) hlk (fun hh => by rw [hret] at hh; cases hh) (fun fs hr => retN X17 hx (t := .boolean) hret (by simp) (hb hby at_218) hr) (by decide) (by decide) ?_
      exact ⟨rfl, N17⟩
    · refine own_go (fun t_ k_ => XS.icmpYes X17.here hx rfl (pc0 := 210) (pc' := 217) rfl (hb hby at_210) rfl (feq hc210).2 (by decide) (by decide) k_) ?_
      show OwnFin p e below s _ _ _ (T17.setTop (mkF m 217 #[.val (.long xx), .second, .val (.long yy), .second, .val (.long zz), .second, .val (.int ac), .val (.int bc), .val (.int sp), .val (.ref b1), .val (.ref b10), .val (.int (0 : Int32)), .val (.int (Int32.ofNat fr)), .val (.int (1 : Int32))] []))
      refine own_go (fun t_ k_ => XS.iconst X17.here hx rfl (hb hby at_217) k_) ?_
      show OwnFin p e below s _ _ _ (T17.setTop (mkF m 218 #[.val (.long xx), .second, .val (.long yy), .second, .val (.long zz), .second, .val (.int ac), .val (.int bc), .val (.int sp), .val (.ref b1), .val (.ref b10), .val (.int (0 : Int32)), .val (.int (Int32.ofNat fr)), .val (.int (1 : Int32))] [(.int (0 : Int32))]))
      refine absurd (own_eq1 (fA := fA) (fB := fB) (fr := fr) (len := 0) (fun i hi => ?_)) hc210
      exact absurd hi (Nat.not_lt_zero i)
  · show OwnFin p e below s _ _ _ (T16.setTop (mkF m 118 #[.val (.long xx), .second, .val (.long yy), .second, .val (.long zz), .second, .val (.int ac), .val (.int bc), .val (.int sp), .val (.ref b1), .val (.ref b10), .val (.int (1 : Int32)), .unset, .unset] []))
    refine own_go (fun t_ k_ => XS.iload X16.here hx rfl (hb hby at_118) rfl k_) ?_
    show OwnFin p e below s _ _ _ (T16.setTop (mkF m 120 #[.val (.long xx), .second, .val (.long yy), .second, .val (.long zz), .second, .val (.int ac), .val (.int bc), .val (.int sp), .val (.ref b1), .val (.ref b10), .val (.int (1 : Int32)), .unset, .unset] [(.int sp)]))
    refine own_go (fun t_ k_ => XS.iconst X16.here hx rfl (hb hby at_120) k_) ?_
    show OwnFin p e below s _ _ _ (T16.setTop (mkF m 121 #[.val (.long xx), .second, .val (.long yy), .second, .val (.long zz), .second, .val (.int ac), .val (.int bc), .val (.int sp), .val (.ref b1), .val (.ref b10), .val (.int (1 : Int32)), .unset, .unset] [(.int (2 : Int32)), (.int sp)]))
    refine own_go (fun t_ k_ => XS.iushr X16.here hx rfl (hb hby at_121) rfl k_) ?_
    show OwnFin p e below s _ _ _ (T16.setTop (mkF m 122 #[.val (.long xx), .second, .val (.long yy), .second, .val (.long zz), .second, .val (.int ac), .val (.int bc), .val (.int sp), .val (.ref b1), .val (.ref b10), .val (.int (1 : Int32)), .unset, .unset] [(.int ((sp.toUInt32 >>> ((2 : Int32) &&& 31).toUInt32).toInt32))]))
    refine own_go (fun t_ k_ => XS.iconst X16.here hx rfl (hb hby at_122) k_) ?_
    show OwnFin p e below s _ _ _ (T16.setTop (mkF m 123 #[.val (.long xx), .second, .val (.long yy), .second, .val (.long zz), .second, .val (.int ac), .val (.int bc), .val (.int sp), .val (.ref b1), .val (.ref b10), .val (.int (1 : Int32)), .unset, .unset] [(.int (5 : Int32)), (.int ((sp.toUInt32 >>> ((2 : Int32) &&& 31).toUInt32).toInt32))]))
    refine own_go (fun t_ k_ => XS.iload X16.here hx rfl (hb hby at_123) rfl k_) ?_
    show OwnFin p e below s _ _ _ (T16.setTop (mkF m 125 #[.val (.long xx), .second, .val (.long yy), .second, .val (.long zz), .second, .val (.int ac), .val (.int bc), .val (.int sp), .val (.ref b1), .val (.ref b10), .val (.int (1 : Int32)), .unset, .unset] [(.int (1 : Int32)), (.int (5 : Int32)), (.int ((sp.toUInt32 >>> ((2 : Int32) &&& 31).toUInt32).toInt32))]))
    refine own_go (fun t_ k_ => XS.isub X16.here hx rfl (hb hby at_125) rfl k_) ?_
    show OwnFin p e below s _ _ _ (T16.setTop (mkF m 126 #[.val (.long xx), .second, .val (.long yy), .second, .val (.long zz), .second, .val (.int ac), .val (.int bc), .val (.int sp), .val (.ref b1), .val (.ref b10), .val (.int (1 : Int32)), .unset, .unset] [(.int ((5 : Int32) - (1 : Int32))), (.int ((sp.toUInt32 >>> ((2 : Int32) &&& 31).toUInt32).toInt32))]))
    refine own_go (fun t_ k_ => Jvm.RoadKit.iremM X16 hx rfl (hb hby at_126) rfl (by decide) k_) ?_
    show OwnFin p e below s _ _ _ (T16.setTop (mkF m 127 #[.val (.long xx), .second, .val (.long yy), .second, .val (.long zz), .second, .val (.int ac), .val (.int bc), .val (.int sp), .val (.ref b1), .val (.ref b10), .val (.int (1 : Int32)), .unset, .unset] [(.int (((sp.toUInt32 >>> ((2 : Int32) &&& 31).toUInt32).toInt32) % ((5 : Int32) - (1 : Int32))))]))
    refine own_go (fun t_ k_ => XS.istore X16.here hx rfl (hb hby at_127) rfl (l' := #[.val (.long xx), .second, .val (.long yy), .second, .val (.long zz), .second, .val (.int ac), .val (.int bc), .val (.int sp), .val (.ref b1), .val (.ref b10), .val (.int (1 : Int32)), .val (.int (((sp.toUInt32 >>> ((2 : Int32) &&& 31).toUInt32).toInt32) % ((5 : Int32) - (1 : Int32)))), .unset]) rfl k_) ?_
    show OwnFin p e below s _ _ _ (T16.setTop (mkF m 129 #[.val (.long xx), .second, .val (.long yy), .second, .val (.long zz), .second, .val (.int ac), .val (.int bc), .val (.int sp), .val (.ref b1), .val (.ref b10), .val (.int (1 : Int32)), .val (.int (((sp.toUInt32 >>> ((2 : Int32) &&& 31).toUInt32).toInt32) % ((5 : Int32) - (1 : Int32)))), .unset] []))
    obtain ⟨fr, hfr, hfl⟩ := own_from sp (d := 4) (by decide) (by decide) (q := (5 : Int32) - (1 : Int32)) (by decide)
    rw [hfr]
    show OwnFin p e below s _ _ _ (T16.setTop (mkF m 129 #[.val (.long xx), .second, .val (.long yy), .second, .val (.long zz), .second, .val (.int ac), .val (.int bc), .val (.int sp), .val (.ref b1), .val (.ref b10), .val (.int (1 : Int32)), .val (.int (Int32.ofNat fr)), .unset] []))
    refine own_go (fun t_ k_ => XS.iload X16.here hx rfl (hb hby at_129) rfl k_) ?_
    show OwnFin p e below s _ _ _ (T16.setTop (mkF m 131 #[.val (.long xx), .second, .val (.long yy), .second, .val (.long zz), .second, .val (.int ac), .val (.int bc), .val (.int sp), .val (.ref b1), .val (.ref b10), .val (.int (1 : Int32)), .val (.int (Int32.ofNat fr)), .unset] [(.int (1 : Int32))]))
    refine own_go (fun t_ k_ => XS.iconst X16.here hx rfl (hb hby at_131) k_) ?_
    show OwnFin p e below s _ _ _ (T16.setTop (mkF m 132 #[.val (.long xx), .second, .val (.long yy), .second, .val (.long zz), .second, .val (.int ac), .val (.int bc), .val (.int sp), .val (.ref b1), .val (.ref b10), .val (.int (1 : Int32)), .val (.int (Int32.ofNat fr)), .unset] [(.int (1 : Int32)), (.int (1 : Int32))]))
    refine own_go (fun t_ k_ => XS.icmpNo X16.here hx rfl (hb hby at_132) rfl (flt (by decide)).1 k_) ?_
    show OwnFin p e below s _ _ _ (T16.setTop (mkF m 135 #[.val (.long xx), .second, .val (.long yy), .second, .val (.long zz), .second, .val (.int ac), .val (.int bc), .val (.int sp), .val (.ref b1), .val (.ref b10), .val (.int (1 : Int32)), .val (.int (Int32.ofNat fr)), .unset] []))
    refine own_go (fun t_ k_ => XS.aload X16.here hx rfl (hb hby at_135) rfl rfl k_) ?_
    show OwnFin p e below s _ _ _ (T16.setTop (mkF m 137 #[.val (.long xx), .second, .val (.long yy), .second, .val (.long zz), .second, .val (.int ac), .val (.int bc), .val (.int sp), .val (.ref b1), .val (.ref b10), .val (.int (1 : Int32)), .val (.int (Int32.ofNat fr)), .unset] [(.ref b1)]))
    refine own_go (fun t_ k_ => XS.iload X16.here hx rfl (hb hby at_137) rfl k_) ?_
    show OwnFin p e below s _ _ _ (T16.setTop (mkF m 139 #[.val (.long xx), .second, .val (.long yy), .second, .val (.long zz), .second, .val (.int ac), .val (.int bc), .val (.int sp), .val (.ref b1), .val (.ref b10), .val (.int (1 : Int32)), .val (.int (Int32.ofNat fr)), .unset] [(.int (Int32.ofNat fr)), (.ref b1)]))
    refine own_go (own_laload X16 hx hZ e16 VfA (i := fr) rfl (by omega) (g := (mkF m 139 #[.val (.long xx), .second, .val (.long yy), .second, .val (.long zz), .second, .val (.int ac), .val (.int bc), .val (.int sp), .val (.ref b1), .val (.ref b10), .val (.int (1 : Int32)), .val (.int (Int32.ofNat fr)), .unset] [(.int (Int32.ofNat fr)), (.ref b1)])) rfl rfl (hb hby at_139)) ?_
    show OwnFin p e below s _ _ _ (T16.setTop (mkF m 140 #[.val (.long xx), .second, .val (.long yy), .second, .val (.long zz), .second, .val (.int ac), .val (.int bc), .val (.int sp), .val (.ref b1), .val (.ref b10), .val (.int (1 : Int32)), .val (.int (Int32.ofNat fr)), .unset] [(.long (fA fr))]))
    refine own_go (fun t_ k_ => XS.aload X16.here hx rfl (hb hby at_140) rfl rfl k_) ?_
    show OwnFin p e below s _ _ _ (T16.setTop (mkF m 142 #[.val (.long xx), .second, .val (.long yy), .second, .val (.long zz), .second, .val (.int ac), .val (.int bc), .val (.int sp), .val (.ref b1), .val (.ref b10), .val (.int (1 : Int32)), .val (.int (Int32.ofNat fr)), .unset] [(.ref b10), (.long (fA fr))]))
    refine own_go (fun t_ k_ => XS.iconst X16.here hx rfl (hb hby at_142) k_) ?_
    show OwnFin p e below s _ _ _ (T16.setTop (mkF m 143 #[.val (.long xx), .second, .val (.long yy), .second, .val (.long zz), .second, .val (.int ac), .val (.int bc), .val (.int sp), .val (.ref b1), .val (.ref b10), .val (.int (1 : Int32)), .val (.int (Int32.ofNat fr)), .unset] [(.int (0 : Int32)), (.ref b10), (.long (fA fr))]))
    refine own_go (own_laload X16 hx hZ e16 VfB (i := 0) (by decide) (by decide) (g := (mkF m 143 #[.val (.long xx), .second, .val (.long yy), .second, .val (.long zz), .second, .val (.int ac), .val (.int bc), .val (.int sp), .val (.ref b1), .val (.ref b10), .val (.int (1 : Int32)), .val (.int (Int32.ofNat fr)), .unset] [(.int (0 : Int32)), (.ref b10), (.long (fA fr))])) rfl rfl (hb hby at_143)) ?_
    show OwnFin p e below s _ _ _ (T16.setTop (mkF m 144 #[.val (.long xx), .second, .val (.long yy), .second, .val (.long zz), .second, .val (.int ac), .val (.int bc), .val (.int sp), .val (.ref b1), .val (.ref b10), .val (.int (1 : Int32)), .val (.int (Int32.ofNat fr)), .unset] [(.long (fB 0)), (.long (fA fr))]))
    refine own_go (fun t_ k_ => XS.lcmp X16.here hx rfl (hb hby at_144) rfl k_) ?_
    show OwnFin p e below s _ _ _ (T16.setTop (mkF m 145 #[.val (.long xx), .second, .val (.long yy), .second, .val (.long zz), .second, .val (.int ac), .val (.int bc), .val (.int sp), .val (.ref b1), .val (.ref b10), .val (.int (1 : Int32)), .val (.int (Int32.ofNat fr)), .unset] [(.int (lcmpW (fA fr) (fB 0)))]))
    by_cases hc145 : (fA fr) = (fB 0)
    · refine own_go (fun t_ k_ => XS.ifNo X16.here hx rfl (hb hby at_145) rfl ((if0 _ _).trans (teq ((lw_eq (fA fr) (fB 0)).mpr hc145)).2) k_) ?_
      show OwnFin p e below s _ _ _ (T16.setTop (mkF m 148 #[.val (.long xx), .second, .val (.long yy), .second, .val (.long zz), .second, .val (.int ac), .val (.int bc), .val (.int sp), .val (.ref b1), .val (.ref b10), .val (.int (1 : Int32)), .val (.int (Int32.ofNat fr)), .unset] []))
      refine own_go (fun t_ k_ => XS.iload X16.here hx rfl (hb hby at_148) rfl k_) ?_
      show OwnFin p e below s _ _ _ (T16.setTop (mkF m 150 #[.val (.long xx), .second, .val (.long yy), .second, .val (.long zz), .second, .val (.int ac), .val (.int bc), .val (.int sp), .val (.ref b1), .val (.ref b10), .val (.int (1 : Int32)), .val (.int (Int32.ofNat fr)), .unset] [(.int (1 : Int32))]))
      refine own_go (fun t_ k_ => XS.iconst X16.here hx rfl (hb hby at_150) k_) ?_
      show OwnFin p e below s _ _ _ (T16.setTop (mkF m 151 #[.val (.long xx), .second, .val (.long yy), .second, .val (.long zz), .second, .val (.int ac), .val (.int bc), .val (.int sp), .val (.ref b1), .val (.ref b10), .val (.int (1 : Int32)), .val (.int (Int32.ofNat fr)), .unset] [(.int (2 : Int32)), (.int (1 : Int32))]))
      refine own_go (fun t_ k_ => XS.icmpYes X16.here hx rfl (pc0 := 151) (pc' := 169) rfl (hb hby at_151) rfl (tlt (by decide)).1 (by decide) (by decide) k_) ?_
      show OwnFin p e below s _ _ _ (T16.setTop (mkF m 169 #[.val (.long xx), .second, .val (.long yy), .second, .val (.long zz), .second, .val (.int ac), .val (.int bc), .val (.int sp), .val (.ref b1), .val (.ref b10), .val (.int (1 : Int32)), .val (.int (Int32.ofNat fr)), .unset] []))
      refine own_go (fun t_ k_ => XS.iload X16.here hx rfl (hb hby at_169) rfl k_) ?_
      show OwnFin p e below s _ _ _ (T16.setTop (mkF m 171 #[.val (.long xx), .second, .val (.long yy), .second, .val (.long zz), .second, .val (.int ac), .val (.int bc), .val (.int sp), .val (.ref b1), .val (.ref b10), .val (.int (1 : Int32)), .val (.int (Int32.ofNat fr)), .unset] [(.int (1 : Int32))]))
      refine own_go (fun t_ k_ => XS.iconst X16.here hx rfl (hb hby at_171) k_) ?_
      show OwnFin p e below s _ _ _ (T16.setTop (mkF m 172 #[.val (.long xx), .second, .val (.long yy), .second, .val (.long zz), .second, .val (.int ac), .val (.int bc), .val (.int sp), .val (.ref b1), .val (.ref b10), .val (.int (1 : Int32)), .val (.int (Int32.ofNat fr)), .unset] [(.int (3 : Int32)), (.int (1 : Int32))]))
      refine own_go (fun t_ k_ => XS.icmpYes X16.here hx rfl (pc0 := 172) (pc' := 190) rfl (hb hby at_172) rfl (tlt (by decide)).1 (by decide) (by decide) k_) ?_
      show OwnFin p e below s _ _ _ (T16.setTop (mkF m 190 #[.val (.long xx), .second, .val (.long yy), .second, .val (.long zz), .second, .val (.int ac), .val (.int bc), .val (.int sp), .val (.ref b1), .val (.ref b10), .val (.int (1 : Int32)), .val (.int (Int32.ofNat fr)), .unset] []))
      refine own_go (fun t_ k_ => XS.iconst X16.here hx rfl (hb hby at_190) k_) ?_
      show OwnFin p e below s _ _ _ (T16.setTop (mkF m 191 #[.val (.long xx), .second, .val (.long yy), .second, .val (.long zz), .second, .val (.int ac), .val (.int bc), .val (.int sp), .val (.ref b1), .val (.ref b10), .val (.int (1 : Int32)), .val (.int (Int32.ofNat fr)), .unset] [(.int (1 : Int32))]))
      refine own_go (fun t_ k_ => XS.goto X16.here hx rfl (pc0 := 191) (pc' := 195) rfl (hb hby at_191) (by decide) (by decide) k_) ?_
      show OwnFin p e below s _ _ _ (T16.setTop (mkF m 195 #[.val (.long xx), .second, .val (.long yy), .second, .val (.long zz), .second, .val (.int ac), .val (.int bc), .val (.int sp), .val (.ref b1), .val (.ref b10), .val (.int (1 : Int32)), .val (.int (Int32.ofNat fr)), .unset] [(.int (1 : Int32))]))
      refine own_go (fun t_ k_ => XS.istore X16.here hx rfl (hb hby at_195) rfl (l' := #[.val (.long xx), .second, .val (.long yy), .second, .val (.long zz), .second, .val (.int ac), .val (.int bc), .val (.int sp), .val (.ref b1), .val (.ref b10), .val (.int (1 : Int32)), .val (.int (Int32.ofNat fr)), .val (.int (1 : Int32))]) rfl k_) ?_
      show OwnFin p e below s _ _ _ (T16.setTop (mkF m 197 #[.val (.long xx), .second, .val (.long yy), .second, .val (.long zz), .second, .val (.int ac), .val (.int bc), .val (.int sp), .val (.ref b1), .val (.ref b10), .val (.int (1 : Int32)), .val (.int (Int32.ofNat fr)), .val (.int (1 : Int32))] []))
      refine own_go (fun t_ k_ => XS.aload X16.here hx rfl (hb hby at_197) rfl rfl k_) ?_
      show OwnFin p e below s _ _ _ (T16.setTop (mkF m 199 #[.val (.long xx), .second, .val (.long yy), .second, .val (.long zz), .second, .val (.int ac), .val (.int bc), .val (.int sp), .val (.ref b1), .val (.ref b10), .val (.int (1 : Int32)), .val (.int (Int32.ofNat fr)), .val (.int (1 : Int32))] [(.ref b1)]))
      refine own_go (fun t_ k_ => XS.iload X16.here hx rfl (hb hby at_199) rfl k_) ?_
      show OwnFin p e below s _ _ _ (T16.setTop (mkF m 201 #[.val (.long xx), .second, .val (.long yy), .second, .val (.long zz), .second, .val (.int ac), .val (.int bc), .val (.int sp), .val (.ref b1), .val (.ref b10), .val (.int (1 : Int32)), .val (.int (Int32.ofNat fr)), .val (.int (1 : Int32))] [(.int (Int32.ofNat fr)), (.ref b1)]))
      refine own_go (fun t_ k_ => XS.aload X16.here hx rfl (hb hby at_201) rfl rfl k_) ?_
      show OwnFin p e below s _ _ _ (T16.setTop (mkF m 203 #[.val (.long xx), .second, .val (.long yy), .second, .val (.long zz), .second, .val (.int ac), .val (.int bc), .val (.int sp), .val (.ref b1), .val (.ref b10), .val (.int (1 : Int32)), .val (.int (Int32.ofNat fr)), .val (.int (1 : Int32))] [(.ref b10), (.int (Int32.ofNat fr)), (.ref b1)]))
      refine own_go (fun t_ k_ => XS.iload X16.here hx rfl (hb hby at_203) rfl k_) ?_
      show OwnFin p e below s _ _ _ (T16.setTop (mkF m 205 #[.val (.long xx), .second, .val (.long yy), .second, .val (.long zz), .second, .val (.int ac), .val (.int bc), .val (.int sp), .val (.ref b1), .val (.ref b10), .val (.int (1 : Int32)), .val (.int (Int32.ofNat fr)), .val (.int (1 : Int32))] [(.int (1 : Int32)), (.ref b10), (.int (Int32.ofNat fr)), (.ref b1)]))
      obtain ⟨v18, T18, L18, X18, hQ18, st18⟩ := own_callS X16 hx hZ (y := (⟨"com/example/trapline/trapline/collect/NumberedSet", "equal", "([JI[JI)Z"⟩ : MethodName)) hown (hw _ (List.mem_of_getElem? (i := 5) rfl)) (hw _ (List.mem_of_getElem? (i := 6) rfl)) (hw _ (List.mem_of_getElem? (i := 7) rfl)) (hw _ (List.mem_of_getElem? (i := 8) rfl)) (by decide) (W := 0) (rm2 l Z a0 hw [] b1 (Int32.ofNat fr) b10 (1 : Int32) fA fB 4 3 fr 1 h16 n0 Z16 VfA VfB rfl rfl (by omega) (by omega) (by decide)) (by decide) (by decide) (g := (mkF m 205 #[.val (.long xx), .second, .val (.long yy), .second, .val (.long zz), .second, .val (.int ac), .val (.int bc), .val (.int sp), .val (.ref b1), .val (.ref b10), .val (.int (1 : Int32)), .val (.int (Int32.ofNat fr)), .val (.int (1 : Int32))] [(.int (1 : Int32)), (.ref b10), (.int (Int32.ofNat fr)), (.ref b1)])) rfl (by rw [hml]; rfl) (argsL := [(.ref b1), (.int (Int32.ofNat fr)), (.ref b10), (.int (1 : Int32))]) (rest := []) (lenOf pd_0_1 rfl) rfl (by show 2 * 0 + _ ≤ _; exact Nat.le_of_eq rfl) (hb hby at_205) e16 rfl (by decide) (by decide)
      obtain ⟨rfl, Nq18, e18⟩ := hQ18
      have N18 := Fr.app N16 Nq18
      refine own_go st18 ?_
      show OwnFin p e below s _ _ _ (T18.setTop (mkF m 208 #[.val (.long xx), .second, .val (.long yy), .second, .val (.long zz), .second, .val (.int ac), .val (.int bc), .val (.int sp), .val (.ref b1), .val (.ref b10), .val (.int (1 : Int32)), .val (.int (Int32.ofNat fr)), .val (.int (1 : Int32))] [(.int (own_eq fA fB fr 1))]))
      refine own_go (fun t_ k_ => XS.iload X18.here hx rfl (hb hby at_208) rfl k_) ?_
      show OwnFin p e below s _ _ _ (T18.setTop (mkF m 210 #[.val (.long xx), .second, .val (.long yy), .second, .val (.long zz), .second, .val (.int ac), .val (.int bc), .val (.int sp), .val (.ref b1), .val (.ref b10), .val (.int (1 : Int32)), .val (.int (Int32.ofNat fr)), .val (.int (1 : Int32))] [(.int (1 : Int32)), (.int (own_eq fA fB fr 1))]))
      by_cases hc210 : (own_eq fA fB fr 1) = (1 : Int32)
      · refine own_go (fun t_ k_ => XS.icmpNo X18.here hx rfl (hb hby at_210) rfl (teq hc210).2 k_) ?_
        show OwnFin p e below s _ _ _ (T18.setTop (mkF m 213 #[.val (.long xx), .second, .val (.long yy), .second, .val (.long zz), .second, .val (.int ac), .val (.int bc), .val (.int sp), .val (.ref b1), .val (.ref b10), .val (.int (1 : Int32)), .val (.int (Int32.ofNat fr)), .val (.int (1 : Int32))] []))
        refine own_go (fun t_ k_ => XS.iconst X18.here hx rfl (hb hby at_213) k_) ?_
        show OwnFin p e below s _ _ _ (T18.setTop (mkF m 214 #[.val (.long xx), .second, .val (.long yy), .second, .val (.long zz), .second, .val (.int ac), .val (.int bc), .val (.int sp), .val (.ref b1), .val (.ref b10), .val (.int (1 : Int32)), .val (.int (Int32.ofNat fr)), .val (.int (1 : Int32))] [(.int (1 : Int32))]))
        refine own_go (fun t_ k_ => XS.goto X18.here hx rfl (pc0 := 214) (pc' := 218) rfl (hb hby at_214) (by decide) (by decide) k_) ?_
        show OwnFin p e below s _ _ _ (T18.setTop (mkF m 218 #[.val (.long xx), .second, .val (.long yy), .second, .val (.long zz), .second, .val (.int ac), .val (.int bc), .val (.int sp), .val (.ref b1), .val (.ref b10), .val (.int (1 : Int32)), .val (.int (Int32.ofNat fr)), .val (.int (1 : Int32))] [(.int (1 : Int32))]))
        refine own_ret X18 (v := some (.int (1 : Int32))) hlk (fun hh => by rw [hret] at hh; cases hh) (fun fs hr => retN X18 hx (t := .boolean) hret (by simp) (hb hby at_218) hr) (by decide) (by decide) ?_
        exact ⟨rfl, N18⟩
      · refine own_go (fun t_ k_ => XS.icmpYes X18.here hx rfl (pc0 := 210) (pc' := 217) rfl (hb hby at_210) rfl (feq hc210).2 (by decide) (by decide) k_) ?_
        show OwnFin p e below s _ _ _ (T18.setTop (mkF m 217 #[.val (.long xx), .second, .val (.long yy), .second, .val (.long zz), .second, .val (.int ac), .val (.int bc), .val (.int sp), .val (.ref b1), .val (.ref b10), .val (.int (1 : Int32)), .val (.int (Int32.ofNat fr)), .val (.int (1 : Int32))] []))
        refine own_go (fun t_ k_ => XS.iconst X18.here hx rfl (hb hby at_217) k_) ?_
        show OwnFin p e below s _ _ _ (T18.setTop (mkF m 218 #[.val (.long xx), .second, .val (.long yy), .second, .val (.long zz), .second, .val (.int ac), .val (.int bc), .val (.int sp), .val (.ref b1), .val (.ref b10), .val (.int (1 : Int32)), .val (.int (Int32.ofNat fr)), .val (.int (1 : Int32))] [(.int (0 : Int32))]))
        refine absurd (own_eq1 (fA := fA) (fB := fB) (fr := fr) (len := 1) (fun i hi => ?_)) hc210
        have hi' : i = 0 := by omega
        rcases hi' with rfl
        · exact hc145
    · refine own_go (fun t_ k_ => XS.ifYes X16.here hx rfl (pc0 := 145) (pc' := 194) rfl (hb hby at_145) rfl ((if0 _ _).trans (feq (mt (lw_eq (fA fr) (fB 0)).mp hc145)).2) (by decide) (by decide) k_) ?_
      show OwnFin p e below s _ _ _ (T16.setTop (mkF m 194 #[.val (.long xx), .second, .val (.long yy), .second, .val (.long zz), .second, .val (.int ac), .val (.int bc), .val (.int sp), .val (.ref b1), .val (.ref b10), .val (.int (1 : Int32)), .val (.int (Int32.ofNat fr)), .unset] []))
      refine own_go (fun t_ k_ => XS.iconst X16.here hx rfl (hb hby at_194) k_) ?_
      show OwnFin p e below s _ _ _ (T16.setTop (mkF m 195 #[.val (.long xx), .second, .val (.long yy), .second, .val (.long zz), .second, .val (.int ac), .val (.int bc), .val (.int sp), .val (.ref b1), .val (.ref b10), .val (.int (1 : Int32)), .val (.int (Int32.ofNat fr)), .unset] [(.int (0 : Int32))]))
      refine own_go (fun t_ k_ => XS.istore X16.here hx rfl (hb hby at_195) rfl (l' := #[.val (.long xx), .second, .val (.long yy), .second, .val (.long zz), .second, .val (.int ac), .val (.int bc), .val (.int sp), .val (.ref b1), .val (.ref b10), .val (.int (1 : Int32)), .val (.int (Int32.ofNat fr)), .val (.int (0 : Int32))]) rfl k_) ?_
      show OwnFin p e below s _ _ _ (T16.setTop (mkF m 197 #[.val (.long xx), .second, .val (.long yy), .second, .val (.long zz), .second, .val (.int ac), .val (.int bc), .val (.int sp), .val (.ref b1), .val (.ref b10), .val (.int (1 : Int32)), .val (.int (Int32.ofNat fr)), .val (.int (0 : Int32))] []))
      refine own_go (fun t_ k_ => XS.aload X16.here hx rfl (hb hby at_197) rfl rfl k_) ?_
      show OwnFin p e below s _ _ _ (T16.setTop (mkF m 199 #[.val (.long xx), .second, .val (.long yy), .second, .val (.long zz), .second, .val (.int ac), .val (.int bc), .val (.int sp), .val (.ref b1), .val (.ref b10), .val (.int (1 : Int32)), .val (.int (Int32.ofNat fr)), .val (.int (0 : Int32))] [(.ref b1)]))
      refine own_go (fun t_ k_ => XS.iload X16.here hx rfl (hb hby at_199) rfl k_) ?_
      show OwnFin p e below s _ _ _ (T16.setTop (mkF m 201 #[.val (.long xx), .second, .val (.long yy), .second, .val (.long zz), .second, .val (.int ac), .val (.int bc), .val (.int sp), .val (.ref b1), .val (.ref b10), .val (.int (1 : Int32)), .val (.int (Int32.ofNat fr)), .val (.int (0 : Int32))] [(.int (Int32.ofNat fr)), (.ref b1)]))
      refine own_go (fun t_ k_ => XS.aload X16.here hx rfl (hb hby at_201) rfl rfl k_) ?_
      show OwnFin p e below s _ _ _ (T16.setTop (mkF m 203 #[.val (.long xx), .second, .val (.long yy), .second, .val (.long zz), .second, .val (.int ac), .val (.int bc), .val (.int sp), .val (.ref b1), .val (.ref b10), .val (.int (1 : Int32)), .val (.int (Int32.ofNat fr)), .val (.int (0 : Int32))] [(.ref b10), (.int (Int32.ofNat fr)), (.ref b1)]))
      refine own_go (fun t_ k_ => XS.iload X16.here hx rfl (hb hby at_203) rfl k_) ?_
      show OwnFin p e below s _ _ _ (T16.setTop (mkF m 205 #[.val (.long xx), .second, .val (.long yy), .second, .val (.long zz), .second, .val (.int ac), .val (.int bc), .val (.int sp), .val (.ref b1), .val (.ref b10), .val (.int (1 : Int32)), .val (.int (Int32.ofNat fr)), .val (.int (0 : Int32))] [(.int (1 : Int32)), (.ref b10), (.int (Int32.ofNat fr)), (.ref b1)]))
      obtain ⟨v19, T19, L19, X19, hQ19, st19⟩ := own_callS X16 hx hZ (y := (⟨"com/example/trapline/trapline/collect/NumberedSet", "equal", "([JI[JI)Z"⟩ : MethodName)) hown (hw _ (List.mem_of_getElem? (i := 5) rfl)) (hw _ (List.mem_of_getElem? (i := 6) rfl)) (hw _ (List.mem_of_getElem? (i := 7) rfl)) (hw _ (List.mem_of_getElem? (i := 8) rfl)) (by decide) (W := 0) (rm2 l Z a0 hw [] b1 (Int32.ofNat fr) b10 (1 : Int32) fA fB 4 3 fr 1 h16 n0 Z16 VfA VfB rfl rfl (by omega) (by omega) (by decide)) (by decide) (by decide) (g := (mkF m 205 #[.val (.long xx), .second, .val (.long yy), .second, .val (.long zz), .second, .val (.int ac), .val (.int bc), .val (.int sp), .val (.ref b1), .val (.ref b10), .val (.int (1 : Int32)), .val (.int (Int32.ofNat fr)), .val (.int (0 : Int32))] [(.int (1 : Int32)), (.ref b10), (.int (Int32.ofNat fr)), (.ref b1)])) rfl (by rw [hml]; rfl) (argsL := [(.ref b1), (.int (Int32.ofNat fr)), (.ref b10), (.int (1 : Int32))]) (rest := []) (lenOf pd_0_1 rfl) rfl (by show 2 * 0 + _ ≤ _; exact Nat.le_of_eq rfl) (hb hby at_205) e16 rfl (by decide) (by decide)
      obtain ⟨rfl, Nq19, e19⟩ := hQ19
      have N19 := Fr.app N16 Nq19
      refine own_go st19 ?_
      show OwnFin p e below s _ _ _ (T19.setTop (mkF m 208 #[.val (.long xx), .second, .val (.long yy), .second, .val (.long zz), .second, .val (.int ac), .val (.int bc), .val (.int sp), .val (.ref b1), .val (.ref b10), .val (.int (1 : Int32)), .val (.int (Int32.ofNat fr)), .val (.int (0 : Int32))] [(.int (own_eq fA fB fr 1))]))
      refine own_go (fun t_ k_ => XS.iload X19.here hx rfl (hb hby at_208) rfl k_) ?_
      show OwnFin p e below s _ _ _ (T19.setTop (mkF m 210 #[.val (.long xx), .second, .val (.long yy), .second, .val (.long zz), .second, .val (.int ac), .val (.int bc), .val (.int sp), .val (.ref b1), .val (.ref b10), .val (.int (1 : Int32)), .val (.int (Int32.ofNat fr)), .val (.int (0 : Int32))] [(.int (0 : Int32)), (.int (own_eq fA fB fr 1))]))
      by_cases hc210 : (own_eq fA fB fr 1) = (0 : Int32)
      · refine own_go (fun t_ k_ => XS.icmpNo X19.here hx rfl (hb hby at_210) rfl (teq hc210).2 k_) ?_
        show OwnFin p e below s _ _ _ (T19.setTop (mkF m 213 #[.val (.long xx), .second, .val (.long yy), .second, .val (.long zz), .second, .val (.int ac), .val (.int bc), .val (.int sp), .val (.ref b1), .val (.ref b10), .val (.int (1 : Int32)), .val (.int (Int32.ofNat fr)), .val (.int (0 : Int32))] []))
        refine own_go (fun t_ k_ => XS.iconst X19.here hx rfl (hb hby at_213) k_) ?_
        show OwnFin p e below s _ _ _ (T19.setTop (mkF m 214 #[.val (.long xx), .second, .val (.long yy), .second, .val (.long zz), .second, .val (.int ac), .val (.int bc), .val (.int sp), .val (.ref b1), .val (.ref b10), .val (.int (1 : Int32)), .val (.int (Int32.ofNat fr)), .val (.int (0 : Int32))] [(.int (1 : Int32))]))
        refine own_go (fun t_ k_ => XS.goto X19.here hx rfl (pc0 := 214) (pc' := 218) rfl (hb hby at_214) (by decide) (by decide) k_) ?_
        show OwnFin p e below s _ _ _ (T19.setTop (mkF m 218 #[.val (.long xx), .second, .val (.long yy), .second, .val (.long zz), .second, .val (.int ac), .val (.int bc), .val (.int sp), .val (.ref b1), .val (.ref b10), .val (.int (1 : Int32)), .val (.int (Int32.ofNat fr)), .val (.int (0 : Int32))] [(.int (1 : Int32))]))
        refine own_ret X19 (v := some (.int (1 : Int32))) hlk (fun hh => by rw [hret] at hh; cases hh) (fun fs hr => retN X19 hx (t := .boolean) hret (by simp) (hb hby at_218) hr) (by decide) (by decide) ?_
        exact ⟨rfl, N19⟩
      · refine own_go (fun t_ k_ => XS.icmpYes X19.here hx rfl (pc0 := 210) (pc' := 217) rfl (hb hby at_210) rfl (feq hc210).2 (by decide) (by decide) k_) ?_
        show OwnFin p e below s _ _ _ (T19.setTop (mkF m 217 #[.val (.long xx), .second, .val (.long yy), .second, .val (.long zz), .second, .val (.int ac), .val (.int bc), .val (.int sp), .val (.ref b1), .val (.ref b10), .val (.int (1 : Int32)), .val (.int (Int32.ofNat fr)), .val (.int (0 : Int32))] []))
        refine own_go (fun t_ k_ => XS.iconst X19.here hx rfl (hb hby at_217) k_) ?_
        show OwnFin p e below s _ _ _ (T19.setTop (mkF m 218 #[.val (.long xx), .second, .val (.long yy), .second, .val (.long zz), .second, .val (.int ac), .val (.int bc), .val (.int sp), .val (.ref b1), .val (.ref b10), .val (.int (1 : Int32)), .val (.int (Int32.ofNat fr)), .val (.int (0 : Int32))] [(.int (0 : Int32))]))
        exact absurd (own_eq0 (fA := fA) (fB := fB) (fr := fr) (len := 1) (i := 0) (by decide) hc145) hc210
  · show OwnFin p e below s _ _ _ (T16.setTop (mkF m 118 #[.val (.long xx), .second, .val (.long yy), .second, .val (.long zz), .second, .val (.int ac), .val (.int bc), .val (.int sp), .val (.ref b1), .val (.ref b10), .val (.int (2 : Int32)), .unset, .unset] []))
    refine own_go (fun t_ k_ => XS.iload X16.here hx rfl (hb hby at_118) rfl k_) ?_
    show OwnFin p e below s _ _ _ (T16.setTop (mkF m 120 #[.val (.long xx), .second, .val (.long yy), .second, .val (.long zz), .second, .val (.int ac), .val (.int bc), .val (.int sp), .val (.ref b1), .val (.ref b10), .val (.int (2 : Int32)), .unset, .unset] [(.int sp)]))
    refine own_go (fun t_ k_ => XS.iconst X16.here hx rfl (hb hby at_120) k_) ?_
    show OwnFin p e below s _ _ _ (T16.setTop (mkF m 121 #[.val (.long xx), .second, .val (.long yy), .second, .val (.long zz), .second, .val (.int ac), .val (.int bc), .val (.int sp), .val (.ref b1), .val (.ref b10), .val (.int (2 : Int32)), .unset, .unset] [(.int (2 : Int32)), (.int sp)]))
    refine own_go (fun t_ k_ => XS.iushr X16.here hx rfl (hb hby at_121) rfl k_) ?_
    show OwnFin p e below s _ _ _ (T16.setTop (mkF m 122 #[.val (.long xx), .second, .val (.long yy), .second, .val (.long zz), .second, .val (.int ac), .val (.int bc), .val (.int sp), .val (.ref b1), .val (.ref b10), .val (.int (2 : Int32)), .unset, .unset] [(.int ((sp.toUInt32 >>> ((2 : Int32) &&& 31).toUInt32).toInt32))]))
    refine own_go (fun t_ k_ => XS.iconst X16.here hx rfl (hb hby at_122) k_) ?_
    show OwnFin p e below s _ _ _ (T16.setTop (mkF m 123 #[.val (.long xx), .second, .val (.long yy), .second, .val (.long zz), .second, .val (.int ac), .val (.int bc), .val (.int sp), .val (.ref b1), .val (.ref b10), .val (.int (2 : Int32)), .unset, .unset] [(.int (5 : Int32)), (.int ((sp.toUInt32 >>> ((2 : Int32) &&& 31).toUInt32).toInt32))]))
    refine own_go (fun t_ k_ => XS.iload X16.here hx rfl (hb hby at_123) rfl k_) ?_
    show OwnFin p e below s _ _ _ (T16.setTop (mkF m 125 #[.val (.long xx), .second, .val (.long yy), .second, .val (.long zz), .second, .val (.int ac), .val (.int bc), .val (.int sp), .val (.ref b1), .val (.ref b10), .val (.int (2 : Int32)), .unset, .unset] [(.int (2 : Int32)), (.int (5 : Int32)), (.int ((sp.toUInt32 >>> ((2 : Int32) &&& 31).toUInt32).toInt32))]))
    refine own_go (fun t_ k_ => XS.isub X16.here hx rfl (hb hby at_125) rfl k_) ?_
    show OwnFin p e below s _ _ _ (T16.setTop (mkF m 126 #[.val (.long xx), .second, .val (.long yy), .second, .val (.long zz), .second, .val (.int ac), .val (.int bc), .val (.int sp), .val (.ref b1), .val (.ref b10), .val (.int (2 : Int32)), .unset, .unset] [(.int ((5 : Int32) - (2 : Int32))), (.int ((sp.toUInt32 >>> ((2 : Int32) &&& 31).toUInt32).toInt32))]))
    refine own_go (fun t_ k_ => Jvm.RoadKit.iremM X16 hx rfl (hb hby at_126) rfl (by decide) k_) ?_
    show OwnFin p e below s _ _ _ (T16.setTop (mkF m 127 #[.val (.long xx), .second, .val (.long yy), .second, .val (.long zz), .second, .val (.int ac), .val (.int bc), .val (.int sp), .val (.ref b1), .val (.ref b10), .val (.int (2 : Int32)), .unset, .unset] [(.int (((sp.toUInt32 >>> ((2 : Int32) &&& 31).toUInt32).toInt32) % ((5 : Int32) - (2 : Int32))))]))
    refine own_go (fun t_ k_ => XS.istore X16.here hx rfl (hb hby at_127) rfl (l' := #[.val (.long xx), .second, .val (.long yy), .second, .val (.long zz), .second, .val (.int ac), .val (.int bc), .val (.int sp), .val (.ref b1), .val (.ref b10), .val (.int (2 : Int32)), .val (.int (((sp.toUInt32 >>> ((2 : Int32) &&& 31).toUInt32).toInt32) % ((5 : Int32) - (2 : Int32)))), .unset]) rfl k_) ?_
    show OwnFin p e below s _ _ _ (T16.setTop (mkF m 129 #[.val (.long xx), .second, .val (.long yy), .second, .val (.long zz), .second, .val (.int ac), .val (.int bc), .val (.int sp), .val (.ref b1), .val (.ref b10), .val (.int (2 : Int32)), .val (.int (((sp.toUInt32 >>> ((2 : Int32) &&& 31).toUInt32).toInt32) % ((5 : Int32) - (2 : Int32)))), .unset] []))
    obtain ⟨fr, hfr, hfl⟩ := own_from sp (d := 3) (by decide) (by decide) (q := (5 : Int32) - (2 : Int32)) (by decide)
    rw [hfr]
    show OwnFin p e below s _ _ _ (T16.setTop (mkF m 129 #[.val (.long xx), .second, .val (.long yy), .second, .val (.long zz), .second, .val (.int ac), .val (.int bc), .val (.int sp), .val (.ref b1), .val (.ref b10), .val (.int (2 : Int32)), .val (.int (Int32.ofNat fr)), .unset] []))
    refine own_go (fun t_ k_ => XS.iload X16.here hx rfl (hb hby at_129) rfl k_) ?_
    show OwnFin p e below s _ _ _ (T16.setTop (mkF m 131 #[.val (.long xx), .second, .val (.long yy), .second, .val (.long zz), .second, .val (.int ac), .val (.int bc), .val (.int sp), .val (.ref b1), .val (.ref b10), .val (.int (2 : Int32)), .val (.int (Int32.ofNat fr)), .unset] [(.int (2 : Int32))]))
    refine own_go (fun t_ k_ => XS.iconst X16.here hx rfl (hb hby at_131) k_) ?_
    show OwnFin p e below s _ _ _ (T16.setTop (mkF m 132 #[.val (.long xx), .second, .val (.long yy), .second, .val (.long zz), .second, .val (.int ac), .val (.int bc), .val (.int sp), .val (.ref b1), .val (.ref b10), .val (.int (2 : Int32)), .val (.int (Int32.ofNat fr)), .unset] [(.int (1 : Int32)), (.int (2 : Int32))]))
    refine own_go (fun t_ k_ => XS.icmpNo X16.here hx rfl (hb hby at_132) rfl (flt (by decide)).1 k_) ?_
    show OwnFin p e below s _ _ _ (T16.setTop (mkF m 135 #[.val (.long xx), .second, .val (.long yy), .second, .val (.long zz), .second, .val (.int ac), .val (.int bc), .val (.int sp), .val (.ref b1), .val (.ref b10), .val (.int (2 : Int32)), .val (.int (Int32.ofNat fr)), .unset] []))
    refine own_go (fun t_ k_ => XS.aload X16.here hx rfl (hb hby at_135) rfl rfl k_) ?_
    show OwnFin p e below s _ _ _ (T16.setTop (mkF m 137 #[.val (.long xx), .second, .val (.long yy), .second, .val (.long zz), .second, .val (.int ac), .val (.int bc), .val (.int sp), .val (.ref b1), .val (.ref b10), .val (.int (2 : Int32)), .val (.int (Int32.ofNat fr)), .unset] [(.ref b1)]))
    refine own_go (fun t_ k_ => XS.iload X16.here hx rfl (hb hby at_137) rfl k_) ?_
    show OwnFin p e below s _ _ _ (T16.setTop (mkF m 139 #[.val (.long xx), .second, .val (.long yy), .second, .val (.long zz), .second, .val (.int ac), .val (.int bc), .val (.int sp), .val (.ref b1), .val (.ref b10), .val (.int (2 : Int32)), .val (.int (Int32.ofNat fr)), .unset] [(.int (Int32.ofNat fr)), (.ref b1)]))
    refine own_go (own_laload X16 hx hZ e16 VfA (i := fr) rfl (by omega) (g := (mkF m 139 #[.val (.long xx), .second, .val (.long yy), .second, .val (.long zz), .second, .val (.int ac), .val (.int bc), .val (.int sp), .val (.ref b1), .val (.ref b10), .val (.int (2 : Int32)), .val (.int (Int32.ofNat fr)), .unset] [(.int (Int32.ofNat fr)), (.ref b1)])) rfl rfl (hb hby at_139)) ?_
    show OwnFin p e below s _ _ _ (T16.setTop (mkF m 140 #[.val (.long xx), .second, .val (.long yy), .second, .val (.long zz), .second, .val (.int ac), .val (.int bc), .val (.int sp), .val (.ref b1), .val (.ref b10), .val (.int (2 : Int32)), .val (.int (Int32.ofNat fr)), .unset] [(.long (fA fr))]))
    refine own_go (fun t_ k_ => XS.aload X16.here hx rfl (hb hby at_140) rfl rfl k_) ?_
    show OwnFin p e below s _ _ _ (T16.setTop (mkF m 142 #[.val (.long xx), .second, .val (.long yy), .second, .val (.long zz), .second, .val (.int ac), .val (.int bc), .val (.int sp), .val (.ref b1), .val (.ref b10), .val (.int (2 : Int32)), .val (.int (Int32.ofNat fr)), .unset] [(.ref b10), (.long (fA fr))]))
    refine own_go (fun t_ k_ => XS.iconst X16.here hx rfl (hb hby at_142) k_) ?_
    show OwnFin p e below s _ _ _ (T16.setTop (mkF m 143 #[.val (.long xx), .second, .val (.long yy), .second, .val (.long zz), .second, .val (.int ac), .val (.int bc), .val (.int sp), .val (.ref b1), .val (.ref b10), .val (.int (2 : Int32)), .val (.int (Int32.ofNat fr)), .unset] [(.int (0 : Int32)), (.ref b10), (.long (fA fr))]))
    refine own_go (own_laload X16 hx hZ e16 VfB (i := 0) (by decide) (by decide) (g := (mkF m 143 #[.val (.long xx), .second, .val (.long yy), .second, .val (.long zz), .second, .val (.int ac), .val (.int bc), .val (.int sp), .val (.ref b1), .val (.ref b10), .val (.int (2 : Int32)), .val (.int (Int32.ofNat fr)), .unset] [(.int (0 : Int32)), (.ref b10), (.long (fA fr))])) rfl rfl (hb hby at_143)) ?_
    show OwnFin p e below s _ _ _ (T16.setTop (mkF m 144 #[.val (.long xx), .second, .val (.long yy), .second, .val (.long zz), .second, .val (.int ac), .val (.int bc), .val (.int sp), .val (.ref b1), .val (.ref b10), .val (.int (2 : Int32)), .val (.int (Int32.ofNat fr)), .unset] [(.long (fB 0)), (.long (fA fr))]))
    refine own_go (fun t_ k_ => XS.lcmp X16.here hx rfl (hb hby at_144) rfl k_) ?_
    show OwnFin p e below s _ _ _ (T16.setTop (mkF m 145 #[.val (.long xx), .second, .val (.long yy), .second, .val (.long zz), .second, .val (.int ac), .val (.int bc), .val (.int sp), .val (.ref b1), .val (.ref b10), .val (.int (2 : Int32)), .val (.int (Int32.ofNat fr)), .unset] [(.int (lcmpW (fA fr) (fB 0)))]))
    by_cases hc145 : (fA fr) = (fB 0)
    · refine own_go (fun t_ k_ => XS.ifNo X16.here hx rfl (hb hby at_145) rfl ((if0 _ _).trans (teq ((lw_eq (fA fr) (fB 0)).mpr hc145)).2) k_) ?_
      show OwnFin p e below s _ _ _ (T16.setTop (mkF m 148 #[.val (.long xx), .second, .val (.long yy), .second, .val (.long zz), .second, .val (.int ac), .val (.int bc), .val (.int sp), .val (.ref b1), .val (.ref b10), .val (.int (2 : Int32)), .val (.int (Int32.ofNat fr)), .unset] []))
      refine own_go (fun t_ k_ => XS.iload X16.here hx rfl (hb hby at_148) rfl k_) ?_
      show OwnFin p e below s _ _ _ (T16.setTop (mkF m 150 #[.val (.long xx), .second, .val (.long yy), .second, .val (.long zz), .second, .val (.int ac), .val (.int bc), .val (.int sp), .val (.ref b1), .val (.ref b10), .val (.int (2 : Int32)), .val (.int (Int32.ofNat fr)), .unset] [(.int (2 : Int32))]))
      refine own_go (fun t_ k_ => XS.iconst X16.here hx rfl (hb hby at_150) k_) ?_
      show OwnFin p e below s _ _ _ (T16.setTop (mkF m 151 #[.val (.long xx), .second, .val (.long yy), .second, .val (.long zz), .second, .val (.int ac), .val (.int bc), .val (.int sp), .val (.ref b1), .val (.ref b10), .val (.int (2 : Int32)), .val (.int (Int32.ofNat fr)), .unset] [(.int (2 : Int32)), (.int (2 : Int32))]))
      refine own_go (fun t_ k_ => XS.icmpNo X16.here hx rfl (hb hby at_151) rfl (flt (by decide)).1 k_) ?_
      show OwnFin p e below s _ _ _ (T16.setTop (mkF m 154 #[.val (.long xx), .second, .val (.long yy), .second, .val (.long zz), .second, .val (.int ac), .val (.int bc), .val (.int sp), .val (.ref b1), .val (.ref b10), .val (.int (2 : Int32)), .val (.int (Int32.ofNat fr)), .unset] []))
      refine own_go (fun t_ k_ => XS.aload X16.here hx rfl (hb hby at_154) rfl rfl k_) ?_
      show OwnFin p e below s _ _ _ (T16.setTop (mkF m 156 #[.val (.long xx), .second, .val (.long yy), .second, .val (.long zz), .second, .val (.int ac), .val (.int bc), .val (.int sp), .val (.ref b1), .val (.ref b10), .val (.int (2 : Int32)), .val (.int (Int32.ofNat fr)), .unset] [(.ref b1)]))
      refine own_go (fun t_ k_ => XS.iload X16.here hx rfl (hb hby at_156) rfl k_) ?_
      show OwnFin p e below s _ _ _ (T16.setTop (mkF m 158 #[.val (.long xx), .second, .val (.long yy), .second, .val (.long zz), .second, .val (.int ac), .val (.int bc), .val (.int sp), .val (.ref b1), .val (.ref b10), .val (.int (2 : Int32)), .val (.int (Int32.ofNat fr)), .unset] [(.int (Int32.ofNat fr)), (.ref b1)]))
      refine own_go (fun t_ k_ => XS.iconst X16.here hx rfl (hb hby at_158) k_) ?_
      show OwnFin p e below s _ _ _ (T16.setTop (mkF m 159 #[.val (.long xx), .second, .val (.long yy), .second, .val (.long zz), .second, .val (.int ac), .val (.int bc), .val (.int sp), .val (.ref b1), .val (.ref b10), .val (.int (2 : Int32)), .val (.int (Int32.ofNat fr)), .unset] [(.int (1 : Int32)), (.int (Int32.ofNat fr)), (.ref b1)]))
      refine own_go (fun t_ k_ => XS.iadd X16.here hx rfl (hb hby at_159) rfl k_) ?_
      show OwnFin p e below s _ _ _ (T16.setTop (mkF m 160 #[.val (.long xx), .second, .val (.long yy), .second, .val (.long zz), .second, .val (.int ac), .val (.int bc), .val (.int sp), .val (.ref b1), .val (.ref b10), .val (.int (2 : Int32)), .val (.int (Int32.ofNat fr)), .unset] [(.int ((Int32.ofNat fr) + (1 : Int32))), (.ref b1)]))
      refine own_go (own_laload X16 hx hZ e16 VfA (i := (fr + 1)) (own_addN fr 1) (by omega) (g := (mkF m 160 #[.val (.long xx), .second, .val (.long yy), .second, .val (.long zz), .second, .val (.int ac), .val (.int bc), .val (.int sp), .val (.ref b1), .val (.ref b10), .val (.int (2 : Int32)), .val (.int (Int32.ofNat fr)), .unset] [(.int ((Int32.ofNat fr) + (1 : Int32))), (.ref b1)])) rfl rfl (hb hby at_160)) ?_
      show OwnFin p e below s _ _ _ (T16.setTop (mkF m 161 #[.val (.long xx), .second, .val (.long yy), .second, .val (.long zz), .second, .val (.int ac), .val (.int bc), .val (.int sp), .val (.ref b1), .val (.ref b10), .val (.int (2 : Int32)), .val (.int (Int32.ofNat fr)), .unset] [(.long (fA ((fr + 1))))]))
      refine own_go (fun t_ k_ => XS.aload X16.here hx rfl (hb hby at_161) rfl rfl k_) ?_
      show OwnFin p e below s _ _ _ (T16.setTop (mkF m 163 #[.val (.long xx), .second, .val (.long yy), .second, .val (.long zz), .second, .val (.int ac), .val (.int bc), .val (.int sp), .val (.ref b1), .val (.ref b10), .val (.int (2 : Int32)), .val (.int (Int32.ofNat fr)), .unset] [(.ref b10), (.long (fA ((fr + 1))))]))
      refine own_go (fun t_ k_ => XS.iconst X16.here hx rfl (hb hby at_163) k_) ?_
      show OwnFin p e below s _ _ _ (T16.setTop (mkF m 164 #[.val (.long xx), .second, .val (.long yy), .second, .val (.long zz), .second, .val (.int ac), .val (.int bc), .val (.int sp), .val (.ref b1), .val (.ref b10), .val (.int (2 : Int32)), .val (.int (Int32.ofNat fr)), .unset] [(.int (1 : Int32)), (.ref b10), (.long (fA ((fr + 1))))]))
      refine own_go (own_laload X16 hx hZ e16 VfB (i := 1) (by decide) (by decide) (g := (mkF m 164 #[.val (.long xx), .second, .val (.long yy), .second, .val (.long zz), .second, .val (.int ac), .val (.int bc), .val (.int sp), .val (.ref b1), .val (.ref b10), .val (.int (2 : Int32)), .val (.int (Int32.ofNat fr)), .unset] [(.int (1 : Int32)), (.ref b10), (.long (fA ((fr + 1))))])) rfl rfl (hb hby at_164)) ?_
      show OwnFin p e below s _ _ _ (T16.setTop (mkF m 165 #[.val (.long xx), .second, .val (.long yy), .second, .val (.long zz), .second, .val (.int ac), .val (.int bc), .val (.int sp), .val (.ref b1), .val (.ref b10), .val (.int (2 : Int32)), .val (.int (Int32.ofNat fr)), .unset] [(.long (fB 1)), (.long (fA ((fr + 1))))]))
      refine own_go (fun t_ k_ => XS.lcmp X16.here hx rfl (hb hby at_165) rfl k_) ?_
      show OwnFin p e below s _ _ _ (T16.setTop (mkF m 166 #[.val (.long xx), .second, .val (.long yy), .second, .val (.long zz), .second, .val (.int ac), .val (.int bc), .val (.int sp), .val (.ref b1), .val (.ref b10), .val (.int (2 : Int32)), .val (.int (Int32.ofNat fr)), .unset] [(.int (lcmpW (fA ((fr + 1))) (fB 1)))]))
      by_cases hc166 : (fA ((fr + 1))) = (fB 1)
      · refine own_go (fun t_ k_ => XS.ifNo X16.here hx rfl (hb hby at_166) rfl ((if0 _ _).trans (teq ((lw_eq (fA ((fr + 1))) (fB 1)).mpr hc166)).2) k_) ?_
        show OwnFin p e below s _ _ _ (T16.setTop (mkF m 169 #[.val (.long xx), .second, .val (.long yy), .second, .val (.long zz), .second, .val (.int ac), .val (.int bc), .val (.int sp), .val (.ref b1), .val (.ref b10), .val (.int (2 : Int32)), .val (.int (Int32.ofNat fr)), .unset] []))
        refine own_go (fun t_ k_ => XS.iload X16.here hx rfl (hb hby at_169) rfl k_) ?_
        show OwnFin p e below s _ _ _ (T16.setTop (mkF m 171 #[.val (.long xx), .second, .val (.long yy), .second, .val (.long zz), .second, .val (.int ac), .val (.int bc), .val (.int sp), .val (.ref b1), .val (.ref b10), .val (.int (2 : Int32)), .val (.int (Int32.ofNat fr)), .unset] [(.int (2 : Int32))]))
        refine own_go (fun t_ k_ => XS.iconst X16.here hx rfl (hb hby at_171) k_) ?_
        show OwnFin p e below s _ _ _ (T16.setTop (mkF m 172 #[.val (.long xx), .second, .val (.long yy), .second, .val (.long zz), .second, .val (.int ac), .val (.int bc), .val (.int sp), .val (.ref b1), .val (.ref b10), .val (.int (2 : Int32)), .val (.int (Int32.ofNat fr)), .unset] [(.int (3 : Int32)), (.int (2 : Int32))]))
        refine own_go (fun t_ k_ => XS.icmpYes X16.here hx rfl (pc0 := 172) (pc' := 190) rfl (hb hby at_172) rfl (tlt (by decide)).1 (by decide) (by decide) k_) ?_
        show OwnFin p e below s _ _ _ (T16.setTop (mkF m 190 #[.val (.long xx), .second, .val (.long yy), .second, .val (.long zz), .second, .val (.int ac), .val (.int bc), .val (.int sp), .val (.ref b1), .val (.ref b10), .val (.int (2 : Int32)), .val (.int (Int32.ofNat fr)), .unset] []))
        refine own_go (fun t_ k_ => XS.iconst X16.here hx rfl (hb hby at_190) k_) ?_
        show OwnFin p e below s _ _ _ (T16.setTop (mkF m 191 #[.val (.long xx), .second, .val (.long yy), .second, .val (.long zz), .second, .val (.int ac), .val (.int bc), .val (.int sp), .val (.ref b1), .val (.ref b10), .val (.int (2 : Int32)), .val (.int (Int32.ofNat fr)), .unset] [(.int (1 : Int32))]))
        refine own_go (fun t_ k_ => XS.goto X16.here hx rfl (pc0 := 191) (pc' := 195) rfl (hb hby at_191) (by decide) (by decide) k_) ?_
        show OwnFin p e below s _ _ _ (T16.setTop (mkF m 195 #[.val (.long xx), .second, .val (.long yy), .second, .val (.long zz), .second, .val (.int ac), .val (.int bc), .val (.int sp), .val (.ref b1), .val (.ref b10), .val (.int (2 : Int32)), .val (.int (Int32.ofNat fr)), .unset] [(.int (1 : Int32))]))
        refine own_go (fun t_ k_ => XS.istore X16.here hx rfl (hb hby at_195) rfl (l' := #[.val (.long xx), .second, .val (.long yy), .second, .val (.long zz), .second, .val (.int ac), .val (.int bc), .val (.int sp), .val (.ref b1), .val (.ref b10), .val (.int (2 : Int32)), .val (.int (Int32.ofNat fr)), .val (.int (1 : Int32))]) rfl k_) ?_
        show OwnFin p e below s _ _ _ (T16.setTop (mkF m 197 #[.val (.long xx), .second, .val (.long yy), .second, .val (.long zz), .second, .val (.int ac), .val (.int bc), .val (.int sp), .val (.ref b1), .val (.ref b10), .val (.int (2 : Int32)), .val (.int (Int32.ofNat fr)), .val (.int (1 : Int32))] []))
        refine own_go (fun t_ k_ => XS.aload X16.here hx rfl (hb hby at_197) rfl rfl k_) ?_
        show OwnFin p e below s _ _ _ (T16.setTop (mkF m 199 #[.val (.long xx), .second, .val (.long yy), .second, .val (.long zz), .second, .val (.int ac), .val (.int bc), .val (.int sp), .val (.ref b1), .val (.ref b10), .val (.int (2 : Int32)), .val (.int (Int32.ofNat fr)), .val (.int (1 : Int32))] [(.ref b1)]))
        refine own_go (fun t_ k_ => XS.iload X16.here hx rfl (hb hby at_199) rfl k_) ?_
        show OwnFin p e below s _ _ _ (T16.setTop (mkF m 201 #[.val (.long xx), .second, .val (.long yy), .second, .val (.long zz), .second, .val (.int ac), .val (.int bc), .val (.int sp), .val (.ref b1), .val (.ref b10), .val (.int (2 : Int32)), .val (.int (Int32.ofNat fr)), .val (.int (1 : Int32))] [(.int (Int32.ofNat fr)), (.ref b1)]))
        refine own_go (fun t_ k_ => XS.aload X16.here hx rfl (hb hby at_201) rfl rfl k_) ?_
        show OwnFin p e below s _ _ _ (T16.setTop (mkF m 203 #[.val (.long xx), .second, .val (.long yy), .second, .val (.long zz), .second, .val (.int ac), .val (.int bc), .val (.int sp), .val (.ref b1), .val (.ref b10), .val (.int (2 : Int32)), .val (.int (Int32.ofNat fr)), .val (.int (1 : Int32))] [(.ref b10), (.int (Int32.ofNat fr)), (.ref b1)]))
        refine own_go (fun t_ k_ => XS.iload X16.here hx rfl (hb hby at_203) rfl k_) ?_
        show OwnFin p e below s _ _ _ (T16.setTop (mkF m 205 #[.val (.long xx), .second, .val (.long yy), .second, .val (.long zz), .second, .val (.int ac), .val (.int bc), .val (.int sp), .val (.ref b1), .val (.ref b10), .val (.int (2 : Int32)), .val (.int (Int32.ofNat fr)), .val (.int (1 : Int32))] [(.int (2 : Int32)), (.ref b10), (.int (Int32.ofNat fr)), (.ref b1)]))
        obtain ⟨v20, T20, L20, X20, hQ20, st20⟩ := own_callS X16 hx hZ (y := (⟨"com/example/trapline/trapline/collect/NumberedSet", "equal", "([JI[JI)Z"⟩ : MethodName)) hown (hw _ (List.mem_of_getElem? (i := 5) rfl)) (hw _ (List.mem_of_getElem? (i := 6) rfl)) (hw _ (List.mem_of_getElem? (i := 7) rfl)) (hw _ (List.mem_of_getElem? (i := 8) rfl)) (by decide) (W := 0) (rm2 l Z a0 hw [] b1 (Int32.ofNat fr) b10 (2 : Int32) fA fB 4 3 fr 2 h16 n0 Z16 VfA VfB rfl rfl (by omega) (by omega) (by decide)) (by decide) (by decide) (g := (mkF m 205 #[.val (.long xx), .second, .val (.long yy), .second, .val (.long zz), .second, .val (.int ac), .val (.int bc), .val (.int sp), .val (.ref b1), .val (.ref b10), .val (.int (2 : Int32)), .val (.int (Int32.ofNat fr)), .val (.int (1 : Int32))] [(.int (2 : Int32)), (.ref b10), (.int (Int32.ofNat fr)), (.ref b1)])) rfl (by rw [hml]; rfl) (argsL := [(.ref b1), (.int (Int32.ofNat fr)), (.ref b10), (.int (2 : Int32))]) (rest := []) (lenOf pd_0_1 rfl) rfl (by show 2 * 0 + _ ≤ _; exact Nat.le_of_eq rfl) (hb hby at_205) e16 rfl (by decide) (by decide)
        obtain ⟨rfl, Nq20, e20⟩ := hQ20
        have N20 := Fr.app N16 Nq20
        refine own_go st20 ?_
        show OwnFin p e below s _ _ _ (T20.setTop (mkF m 208 #[.val (.long xx), .second, .val (.long yy), .second, .val (.long zz), .second, .val (.int ac), .val (.int bc), .val (.int sp), .val (.ref b1), .val (.ref b10), .val (.int (2 : Int32)), .val (.int (Int32.ofNat fr)), .val (.int (1 : Int32))] [(.int (own_eq fA fB fr 2))]))
        refine own_go (fun t_ k_ => XS.iload X20.here hx rfl (hb hby at_208) rfl k_) ?_
        show OwnFin p e below s _ _ _ (T20.setTop (mkF m 210 #[.val (.long xx), .second, .val (.long yy), .second, .val (.long zz), .second, .val (.int ac), .val (.int bc), .val (.int sp), .val (.ref b1), .val (.ref b10), .val (.int (2 : Int32)), .val (.int (Int32.ofNat fr)), .val (.int (1 : Int32))] [(.int (1 : Int32)), (.int (own_eq fA fB fr 2))]))
        by_cases hc210 : (own_eq fA fB fr 2) = (1 : Int32)
        · refine own_go (fun t_ k_ => XS.icmpNo X20.here hx rfl (hb hby at_210) rfl (teq hc210).2 k_) ?_
          show OwnFin p e below s _ _ _ (T20.setTop (mkF m 213 #[.val (.long xx), .second, .val (.long yy), .second, .val (.long zz), .second, .val (.int ac), .val (.int bc), .val (.int sp), .val (.ref b1), .val (.ref b10), .val (.int (2 : Int32)), .val (.int (Int32.ofNat fr)), .val (.int (1 : Int32))] []))
          refine own_go (fun t_ k_ => XS.iconst X20.here hx rfl (hb hby at_213) k_) ?_
          show OwnFin p e below s _ _ _ (T20.setTop (mkF m 214 #[.val (.long xx), .second, .val (.long yy), .second, .val (.long zz), .second, .val (.int ac), .val (.int bc), .val (.int sp), .val (.ref b1), .val (.ref b10), .val (.int (2 : Int32)), .val (.int (Int32.ofNat fr)), .val (.int (1 : Int32))] [(.int (1 : Int32))]))
          refine own_go (fun t_ k_ => XS.goto X20.here hx rfl (pc0 := 214) (pc' := 218) rfl (hb hby at_214) (by decide) (by decide) k_) ?_
          show OwnFin p e below s _ _ _ (T20.setTop (mkF m 218 #[.val (.long xx), .second, .val (.long yy), .second, .val (.long zz), .second, .val (.int ac), .val (.int bc), .val (.int sp), .val (.ref b1), .val (.ref b10), .val (.int (2 : Int32)), .val (.int (Int32.ofNat fr)), .val (.int (1 : Int32))] [(.int (1 : Int32))]))
          refine own_ret X20 (v := some (.int (1 : Int32))) hlk (fun hh => by rw [hret] at hh; cases hh) (fun fs hr => retN X20 hx (t := .boolean) hret (by simp) (hb hby at_218) hr) (by decide) (by decide) ?_
          exact ⟨rfl, N20⟩
        · refine own_go (fun t_ k_ => XS.icmpYes X20.here hx rfl (pc0 := 210) (pc' := 217) rfl (hb hby at_210) rfl (feq hc210).2 (by decide) (by decide) k_) ?_
          show OwnFin p e below s _ _ _ (T20.setTop (mkF m 217 #[.val (.long xx), .second, .val (.long yy), .second, .val (.long zz), .second, .val (.int ac), .val (.int bc), .val (.int sp), .val (.ref b1), .val (.ref b10), .val (.int (2 : Int32)), .val (.int (Int32.ofNat fr)), .val (.int (1 : Int32))] []))
          refine own_go (fun t_ k_ => XS.iconst X20.here hx rfl (hb hby at_217) k_) ?_
          show OwnFin p e below s _ _ _ (T20.setTop (mkF m 218 #[.val (.long xx), .second, .val (.long yy), .second, .val (.long zz), .second, .val (.int ac), .val (.int bc), .val (.int sp), .val (.ref b1), .val (.ref b10), .val (.int (2 : Int32)), .val (.int (Int32.ofNat fr)), .val (.int (1 : Int32))] [(.int (0 : Int32))]))
          refine absurd (own_eq1 (fA := fA) (fB := fB) (fr := fr) (len := 2) (fun i hi => ?_)) hc210
          have hi' : i = 0 ∨ i = 1 := by omega
          rcases hi' with rfl | rfl
          · exact hc145
          · exact hc166
      · refine own_go (fun t_ k_ => XS.ifYes X16.here hx rfl (pc0 := 166) (pc' := 194) rfl (hb hby at_166) rfl ((if0 _ _).trans (feq (mt (lw_eq (fA ((fr + 1))) (fB 1)).mp hc166)).2) (by decide) (by decide) k_) ?_
        show OwnFin p e below s _ _ _ (T16.setTop (mkF m 194 #[.val (.long xx), .second, .val (.long yy), .second, .val (.long zz), .second, .val (.int ac), .val (.int bc), .val (.int sp), .val (.ref b1), .val (.ref b10), .val (.int (2 : Int32)), .val (.int (Int32.ofNat fr)), .unset] []))
        refine own_go (fun t_ k_ => XS.iconst X16.here hx rfl (hb hby at_194) k_) ?_
        show OwnFin p e below s _ _ _ (T16.setTop (mkF m 195 #[.val (.long xx), .second, .val (.long yy), .second, .val (.long zz), .second, .val (.int ac), .val (.int bc), .val (.int sp), .val (.ref b1), .val (.ref b10), .val (.int (2 : Int32)), .val (.int (Int32.ofNat fr)), .unset] [(.int (0 : Int32))]))
        refine own_go (fun t_ k_ => XS.istore X16.here hx rfl (hb hby at_195) rfl (l' := #[.val (.long xx), .second, .val (.long yy), .second, .val (.long zz), .second, .val (.int ac), .val (.int bc), .val (.int sp), .val (.ref b1), .val (.ref b10), .val (.int (2 : Int32)), .val (.int (Int32.ofNat fr)), .val (.int (0 : Int32))]) rfl k_) ?_
        show OwnFin p e below s _ _ _ (T16.setTop (mkF m 197 #[.val (.long xx), .second, .val (.long yy), .second, .val (.long zz), .second, .val (.int ac), .val (.int bc), .val (.int sp), .val (.ref b1), .val (.ref b10), .val (.int (2 : Int32)), .val (.int (Int32.ofNat fr)), .val (.int (0 : Int32))] []))
        refine own_go (fun t_ k_ => XS.aload X16.here hx rfl (hb hby at_197) rfl rfl k_) ?_
        show OwnFin p e below s _ _ _ (T16.setTop (mkF m 199 #[.val (.long xx), .second, .val (.long yy), .second, .val (.long zz), .second, .val (.int ac), .val (.int bc), .val (.int sp), .val (.ref b1), .val (.ref b10), .val (.int (2 : Int32)), .val (.int (Int32.ofNat fr)), .val (.int (0 : Int32))] [(.ref b1)]))
        refine own_go (fun t_ k_ => XS.iload X16.here hx rfl (hb hby at_199) rfl k_) ?_
        show OwnFin p e below s _ _ _ (T16.setTop (mkF m 201 #[.val (.long xx), .second, .val (.long yy), .second, .val (.long zz), .second, .val (.int ac), .val (.int bc), .val (.int sp), .val (.ref b1), .val (.ref b10), .val (.int (2 : Int32)), .val (.int (Int32.ofNat fr)), .val (.int (0 : Int32))] [(.int (Int32.ofNat fr)), (.ref b1)]))
        refine own_go (fun t_ k_ => XS.aload X16.here hx rfl (hb hby at_201) rfl rfl k_) ?_
        show OwnFin p e below s _ _ _ (T16.setTop (mkF m 203 #[.val (.long xx), .second, .val (.long yy), .second, .val (.long zz), .second, .val (.int ac), .val (.int bc), .val (.int sp), .val (.ref b1), .val (.ref b10), .val (.int (2 : Int32)), .val (.int (Int32.ofNat fr)), .val (.int (0 : Int32))] [(.ref b10), (.int (Int32.ofNat fr)), (.ref b1)]))
        refine own_go (fun t_ k_ => XS.iload X16.here hx rfl (hb hby at_203) rfl k_) ?_
        show OwnFin p e below s _ _ _ (T16.setTop (mkF m 205 #[.val (.long xx), .second, .val (.long yy), .second, .val (.long zz), .second, .val (.int ac), .val (.int bc), .val (.int sp), .val (.ref b1), .val (.ref b10), .val (.int (2 : Int32)), .val (.int (Int32.ofNat fr)), .val (.int (0 : Int32))] [(.int (2 : Int32)), (.ref b10), (.int (Int32.ofNat fr)), (.ref b1)]))
        obtain ⟨v21, T21, L21, X21, hQ21, st21⟩ := own_callS X16 hx hZ (y := (⟨"com/example/trapline/trapline/collect/NumberedSet", "equal", "([JI[JI)Z"⟩ : MethodName)) hown (hw _ (List.mem_of_getElem? (i := 5) rfl)) (hw _ (List.mem_of_getElem? (i := 6) rfl)) (hw _ (List.mem_of_getElem? (i := 7) rfl)) (hw _ (List.mem_of_getElem? (i := 8) rfl)) (by decide) (W := 0) (rm2 l Z a0 hw [] b1 (Int32.ofNat fr) b10 (2 : Int32) fA fB 4 3 fr 2 h16 n0 Z16 VfA VfB rfl rfl (by omega) (by omega) (by decide)) (by decide) (by decide) (g := (mkF m 205 #[.val (.long xx), .second, .val (.long yy), .second, .val (.long zz), .second, .val (.int ac), .val (.int bc), .val (.int sp), .val (.ref b1), .val (.ref b10), .val (.int (2 : Int32)), .val (.int (Int32.ofNat fr)), .val (.int (0 : Int32))] [(.int (2 : Int32)), (.ref b10), (.int (Int32.ofNat fr)), (.ref b1)])) rfl (by rw [hml]; rfl) (argsL := [(.ref b1), (.int (Int32.ofNat fr)), (.ref b10), (.int (2 : Int32))]) (rest := []) (lenOf pd_0_1 rfl) rfl (by show 2 * 0 + _ ≤ _; exact Nat.le_of_eq rfl) (hb hby at_205) e16 rfl (by decide) (by decide)
        obtain ⟨rfl, Nq21, e21⟩ := hQ21
        have N21 := Fr.app N16 Nq21
        refine own_go st21 ?_
        show OwnFin p e below s _ _ _ (T21.setTop (mkF m 208 #[.val (.long xx), .second, .val (.long yy), .second, .val (.long zz), .second, .val (.int ac), .val (.int bc), .val (.int sp), .val (.ref b1), .val (.ref b10), .val (.int (2 : Int32)), .val (.int (Int32.ofNat fr)), .val (.int (0 : Int32))] [(.int (own_eq fA fB fr 2))]))
        refine own_go (fun t_ k_ => XS.iload X21.here hx rfl (hb hby at_208) rfl k_) ?_
        show OwnFin p e below s _ _ _ (T21.setTop (mkF m 210 #[.val (.long xx), .second, .val (.long yy), .second, .val (.long zz), .second, .val (.int ac), .val (.int bc), .val (.int sp), .val (.ref b1), .val (.ref b10), .val (.int (2 : Int32)), .val (.int (Int32.ofNat fr)), .val (.int (0 : Int32))] [(.int (0 : Int32)), (.int (own_eq fA fB fr 2))]))
        by_cases hc210 : (own_eq fA fB fr 2) = (0 : Int32)
        · refine own_go (fun t_ k_ => XS.icmpNo X21.here hx rfl (hb hby at_210) rfl (teq hc210).2 k_) ?_
          show OwnFin p e below s _ _ _ (T21.setTop (mkF m 213 #[.val (.long xx), .second, .val (.long yy), .second, .val (.long zz), .second, .val (.int ac), .val (.int bc), .val (.int sp), .val (.ref b1), .val (.ref b10), .val (.int (2 : Int32)), .val (.int (Int32.ofNat fr)), .val (.int (0 : Int32))] []))
          refine own_go (fun t_ k_ => XS.iconst X21.here hx rfl (hb hby at_213) k_) ?_
          show OwnFin p e below s _ _ _ (T21.setTop (mkF m 214 #[.val (.long xx), .second, .val (.long yy), .second, .val (.long zz), .second, .val (.int ac), .val (.int bc), .val (.int sp), .val (.ref b1), .val (.ref b10), .val (.int (2 : Int32)), .val (.int (Int32.ofNat fr)), .val (.int (0 : Int32))] [(.int (1 : Int32))]))
          refine own_go (fun t_ k_ => XS.goto X21.here hx rfl (pc0 := 214) (pc' := 218) rfl (hb hby at_214) (by decide) (by decide) k_) ?_
          show OwnFin p e below s _ _ _ (T21.setTop (mkF m 218 #[.val (.long xx), .second, .val (.long yy), .second, .val (.long zz), .second, .val (.int ac), .val (.int bc), .val (.int sp), .val (.ref b1), .val (.ref b10), .val (.int (2 : Int32)), .val (.int (Int32.ofNat fr)), .val (.int (0 : Int32))] [(.int (1 : Int32))]))
          refine own_ret X21 (v := some (.int (1 : Int32))) hlk (fun hh => by rw [hret] at hh; cases hh) (fun fs hr => retN X21 hx (t := .boolean) hret (by simp) (hb hby at_218) hr) (by decide) (by decide) ?_
          exact ⟨rfl, N21⟩
        · refine own_go (fun t_ k_ => XS.icmpYes X21.here hx rfl (pc0 := 210) (pc' := 217) rfl (hb hby at_210) rfl (feq hc210).2 (by decide) (by decide) k_) ?_
          show OwnFin p e below s _ _ _ (T21.setTop (mkF m 217 #[.val (.long xx), .second, .val (.long yy), .second, .val (.long zz), .second, .val (.int ac), .val (.int bc), .val (.int sp), .val (.ref b1), .val (.ref b10), .val (.int (2 : Int32)), .val (.int (Int32.ofNat fr)), .val (.int (0 : Int32))] []))
          refine own_go (fun t_ k_ => XS.iconst X21.here hx rfl (hb hby at_217) k_) ?_
          show OwnFin p e below s _ _ _ (T21.setTop (mkF m 218 #[.val (.long xx), .second, .val (.long yy), .second, .val (.long zz), .second, .val (.int ac), .val (.int bc), .val (.int sp), .val (.ref b1), .val (.ref b10), .val (.int (2 : Int32)), .val (.int (Int32.ofNat fr)), .val (.int (0 : Int32))] [(.int (0 : Int32))]))
          exact absurd (own_eq0 (fA := fA) (fB := fB) (fr := fr) (len := 2) (i := 1) (by decide) hc166) hc210
    · refine own_go (fun t_ k_ => XS.ifYes X16.here hx rfl (pc0 := 145) (pc' := 194) rfl (hb hby at_145) rfl ((if0 _ _).trans (feq (mt (lw_eq (fA fr) (fB 0)).mp hc145)).2) (by decide) (by decide) k_) ?_
      show OwnFin p e below s _ _ _ (T16.setTop (mkF m 194 #[.val (.long xx), .second, .val (.long yy), .second, .val (.long zz), .second, .val (.int ac), .val (.int bc), .val (.int sp), .val (.ref b1), .val (.ref b10), .val (.int (2 : Int32)), .val (.int (Int32.ofNat fr)), .unset] []))
      refine own_go (fun t_ k_ => XS.iconst X16.here hx rfl (hb hby at_194) k_) ?_
      show OwnFin p e below s _ _ _ (T16.setTop (mkF m 195 #[.val (.long xx), .second, .val (.long yy), .second, .val (.long zz), .second, .val (.int ac), .val (.int bc), .val (.int sp), .val (.ref b1), .val (.ref b10), .val (.int (2 : Int32)), .val (.int (Int32.ofNat fr)), .unset] [(.int (0 : Int32))]))
      refine own_go (fun t_ k_ => XS.istore X16.here hx rfl (hb hby at_195) rfl (l' := #[.val (.long xx), .second, .val (.long yy), .second, .val (.long zz), .second, .val (.int ac), .val (.int bc), .val (.int sp), .val (.ref b1), .val (.ref b10), .val (.int (2 : Int32)), .val (.int (Int32.ofNat fr)), .val (.int (0 : Int32))]) rfl k_) ?_
      show OwnFin p e below s _ _ _ (T16.setTop (mkF m 197 #[.val (.long xx), .second, .val (.long yy), .second, .val (.long zz), .second, .val (.int ac), .val (.int bc), .val (.int sp), .val (.ref b1), .val (.ref b10), .val (.int (2 : Int32)), .val (.int (Int32.ofNat fr)), .val (.int (0 : Int32))] []))
      refine own_go (fun t_ k_ => XS.aload X16.here hx rfl (hb hby at_197) rfl rfl k_) ?_
      show OwnFin p e below s _ _ _ (T16.setTop (mkF m 199 #[.val (.long xx), .second, .val (.long yy), .second, .val (.long zz), .second, .val (.int ac), .val (.int bc), .val (.int sp), .val (.ref b1), .val (.ref b10), .val (.int (2 : Int32)), .val (.int (Int32.ofNat fr)), .val (.int (0 : Int32))] [(.ref b1)]))
      refine own_go (fun t_ k_ => XS.iload X16.here hx rfl (hb hby at_199) rfl k_) ?_
      show OwnFin p e below s _ _ _ (T16.setTop (mkF m 201 #[.val (.long xx), .second, .val (.long yy), .second, .val (.long zz), .second, .val (.int ac), .val (.int bc), .val (.int sp), .val (.ref b1), .val (.ref b10), .val (.int (2 : Int32)), .val (.int (Int32.ofNat fr)), .val (.int (0 : Int32))] [(.int (Int32.ofNat fr)), (.ref b1)]))
      refine own_go (fun t_ k_ => XS.aload X16.here hx rfl (hb hby at_201) rfl rfl k_) ?_
      show OwnFin p e below s _ _ _ (T16.setTop (mkF m 203 #[.val (.long xx), .second, .val (.long yy), .second, .val (.long zz), .second, .val (.int ac), .val (.int bc), .val (.int sp), .val (.ref b1), .val (.ref b10), .val (.int (2 : Int32)), .val (.int (Int32.ofNat fr)), .val (.int (0 : Int32))] [(.ref b10), (.int (Int32.ofNat fr)), (.ref b1)]))
      refine own_go (fun t_ k_ => XS.iload X16.here hx rfl (hb hby at_203) rfl k_) ?_
      show OwnFin p e below s _ _ _ (T16.setTop (mkF m 205 #[.val (.long xx), .second, .val (.long yy), .second, .val (.long zz), .second, .val (.int ac), .val (.int bc), .val (.int sp), .val (.ref b1), .val (.ref b10), .val (.int (2 : Int32)), .val (.int (Int32.ofNat fr)), .val (.int (0 : Int32))] [(.int (2 : Int32)), (.ref b10), (.int (Int32.ofNat fr)), (.ref b1)]))
      obtain ⟨v22, T22, L22, X22, hQ22, st22⟩ := own_callS X16 hx hZ (y := (⟨"com/example/trapline/trapline/collect/NumberedSet", "equal", "([JI[JI)Z"⟩ : MethodName)) hown (hw _ (List.mem_of_getElem? (i := 5) rfl)) (hw _ (List.mem_of_getElem? (i := 6) rfl)) (hw _ (List.mem_of_getElem? (i := 7) rfl)) (hw _ (List.mem_of_getElem? (i := 8) rfl)) (by decide) (W := 0) (rm2 l Z a0 hw [] b1 (Int32.ofNat fr) b10 (2 : Int32) fA fB 4 3 fr 2 h16 n0 Z16 VfA VfB rfl rfl (by omega) (by omega) (by decide)) (by decide) (by decide) (g := (mkF m 205 #[.val (.long xx), .second, .val (.long yy), .second, .val (.long zz), .second, .val (.int ac), .val (.int bc), .val (.int sp), .val (.ref b1), .val (.ref b10), .val (.int (2 : Int32)), .val (.int (Int32.ofNat fr)), .val (.int (0 : Int32))] [(.int (2 : Int32)), (.ref b10), (.int (Int32.ofNat fr)), (.ref b1)])) rfl (by rw [hml]; rfl) (argsL := [(.ref b1), (.int (Int32.ofNat fr)), (.ref b10), (.int (2 : Int32))]) (rest := []) (lenOf pd_0_1 rfl) rfl (by show 2 * 0 + _ ≤ _; exact Nat.le_of_eq rfl) (hb hby at_205) e16 rfl (by decide) (by decide)
      obtain ⟨rfl, Nq22, e22⟩ := hQ22
      have N22 := Fr.app N16 Nq22
      refine own_go st22 ?_
      show OwnFin p e below s _ _ _ (T22.setTop (mkF m 208 #[.val (.long xx), .second, .val (.long yy), .second, .val (.long zz), .second, .val (.int ac), .val (.int bc), .val (.int sp), .val (.ref b1), .val (.ref b10), .val (.int (2 : Int32)), .val (.int (Int32.ofNat fr)), .val (.int (0 : Int32))] [(.int (own_eq fA fB fr 2))]))
      refine own_go (fun t_ k_ => XS.iload X22.here hx rfl (hb hby at_208) rfl k_) ?_
      show OwnFin p e below s _ _ _ (T22.setTop (mkF m 210 #[.val (.long xx), .second, .val (.long yy), .second, .val (.long zz), .second, .val (.int ac), .val (.int bc), .val (.int sp), .val (.ref b1), .val (.ref b10), .val (.int (2 : Int32)), .val (.int (Int32.ofNat fr)), .val (.int (0 : Int32))] [(.int (0 : Int32)), (.int (own_eq fA fB fr 2))]))
      by_cases hc210 : (own_eq fA fB fr 2) = (0 : Int32)
      · refine own_go (fun t_ k_ => XS.icmpNo X22.here hx rfl (hb hby at_210) rfl (teq hc210).2 k_) ?_
        show OwnFin p e below s _ _ _ (T22.setTop (mkF m 213 #[.val (.long xx), .second, .val (.long yy), .second, .val (.long zz), .second, .val (.int ac), .val (.int bc), .val (.int sp), .val (.ref b1), .val (.ref b10), .val (.int (2 : Int32)), .val (.int (Int32.ofNat fr)), .val (.int (0 : Int32))] []))
        refine own_go (fun t_ k_ => XS.iconst X22.here hx rfl (hb hby at_213) k_) ?_
        show OwnFin p e below s _ _ _ (T22.setTop (mkF m 214 #[.val (.long xx), .second, .val (.long yy), .second, .val (.long zz), .second, .val (.int ac), .val (.int bc), .val (.int sp), .val (.ref b1), .val (.ref b10), .val (.int (2 : Int32)), .val (.int (Int32.ofNat fr)), .val (.int (0 : Int32))] [(.int (1 : Int32))]))
        refine own_go (fun t_ k_ => XS.goto X22.here hx rfl (pc0 := 214) (pc' := 218) rfl (hb hby at_214) (by decide) (by decide) k_) ?_
        show OwnFin p e below s _ _ _ (T22.setTop (mkF m 218 #[.val (.long xx), .second, .val (.long yy), .second, .val (.long zz), .second, .val (.int ac), .val (.int bc), .val (.int sp), .val (.ref b1), .val (.ref b10), .val (.int (2 : Int32)), .val (.int (Int32.ofNat fr)), .val (.int (0 : Int32))] [(.int (1 : Int32))]))
        refine own_ret X22 (v := some (.int (1 : Int32))) hlk (fun hh => by rw [hret] at hh; cases hh) (fun fs hr => retN X22 hx (t := .boolean) hret (by simp) (hb hby at_218) hr) (by decide) (by decide) ?_
        exact ⟨rfl, N22⟩
      · refine own_go (fun t_ k_ => XS.icmpYes X22.here hx rfl (pc0 := 210) (pc' := 217) rfl (hb hby at_210) rfl (feq hc210).2 (by decide) (by decide) k_) ?_
        show OwnFin p e below s _ _ _ (T22.setTop (mkF m 217 #[.val (.long xx), .second, .val (.long yy), .second, .val (.long zz), .second, .val (.int ac), .val (.int bc), .val (.int sp), .val (.ref b1), .val (.ref b10), .val (.int (2 : Int32)), .val (.int (Int32.ofNat fr)), .val (.int (0 : Int32))] []))
        refine own_go (fun t_ k_ => XS.iconst X22.here hx rfl (hb hby at_217) k_) ?_
        show OwnFin p e below s _ _ _ (T22.setTop (mkF m 218 #[.val (.long xx), .second, .val (.long yy), .second, .val (.long zz), .second, .val (.int ac), .val (.int bc), .val (.int sp), .val (.ref b1), .val (.ref b10), .val (.int (2 : Int32)), .val (.int (Int32.ofNat fr)), .val (.int (0 : Int32))] [(.int (0 : Int32))]))
        exact absurd (own_eq0 (fA := fA) (fB := fB) (fr := fr) (len := 2) (i := 0) (by decide) hc145) hc210
  · show OwnFin p e below s _ _ _ (T16.setTop (mkF m 118 #[.val (.long xx), .second, .val (.long yy), .second, .val (.long zz), .second, .val (.int ac), .val (.int bc), .val (.int sp), .val (.ref b1), .val (.ref b10), .val (.int (3 : Int32)), .unset, .unset] []))
    refine own_go (fun t_ k_ => XS.iload X16.here hx rfl (hb hby at_118) rfl k_) ?_
    show OwnFin p e below s _ _ _ (T16.setTop (mkF m 120 #[.val (.long xx), .second, .val (.long yy), .second, .val (.long zz), .second, .val (.int ac), .val (.int bc), .val (.int sp), .val (.ref b1), .val (.ref b10), .val (.int (3 : Int32)), .unset, .unset] [(.int sp)]))
    refine own_go (fun t_ k_ => XS.iconst X16.here hx rfl (hb hby at_120) k_) ?_
    show OwnFin p e below s _ _ _ (T16.setTop (mkF m 121 #[.val (.long xx), .second, .val (.long yy), .second, .val (.long zz), .second, .val (.int ac), .val (.int bc), .val (.int sp), .val (.ref b1), .val (.ref b10), .val (.int (3 : Int32)), .unset, .unset] [(.int (2 : Int32)), (.int sp)]))
    refine own_go (fun t_ k_ => XS.iushr X16.here hx rfl (hb hby at_121) rfl k_) ?_
    show OwnFin p e below s _ _ _ (T16.setTop (mkF m 122 #[.val (.long xx), .second, .val (.long yy), .second, .val (.long zz), .second, .val (.int ac), .val (.int bc), .val (.int sp), .val (.ref b1), .val (.ref b10), .val (.int (3 : Int32)), .unset, .unset] [(.int ((sp.toUInt32 >>> ((2 : Int32) &&& 31).toUInt32).toInt32))]))
    refine own_go (fun t_ k_ => XS.iconst X16.here hx rfl (hb hby at_122) k_) ?_
    show OwnFin p e below s _ _ _ (T16.setTop (mkF m 123 #[.val (.long xx), .second, .val (.long yy), .second, .val (.long zz), .second, .val (.int ac), .val (.int bc), .val (.int sp), .val (.ref b1), .val (.ref b10), .val (.int (3 : Int32)), .unset, .unset] [(.int (5 : Int32)), (.int ((sp.toUInt32 >>> ((2 : Int32) &&& 31).toUInt32).toInt32))]))
    refine own_go (fun t_ k_ => XS.iload X16.here hx rfl (hb hby at_123) rfl k_) ?_
    show OwnFin p e below s _ _ _ (T16.setTop (mkF m 125 #[.val (.long xx), .second, .val (.long yy), .second, .val (.long zz), .second, .val (.int ac), .val (.int bc), .val (.int sp), .val (.ref b1), .val (.ref b10), .val (.int (3 : Int32)), .unset, .unset] [(.int (3 : Int32)), (.int (5 : Int32)), (.int ((sp.toUInt32 >>> ((2 : Int32) &&& 31).toUInt32).toInt32))]))
    refine own_go (fun t_ k_ => XS.isub X16.here hx rfl (hb hby at_125) rfl k_) ?_
    show OwnFin p e below s _ _ _ (T16.setTop (mkF m 126 #[.val (.long xx), .second, .val (.long yy), .second, .val (.long zz), .second, .val (.int ac), .val (.int bc), .val (.int sp), .val (.ref b1), .val (.ref b10), .val (.int (3 : Int32)), .unset, .unset] [(.int ((5 : Int32) - (3 : Int32))), (.int ((sp.toUInt32 >>> ((2 : Int32) &&& 31).toUInt32).toInt32))]))
    refine own_go (fun t_ k_ => Jvm.RoadKit.iremM X16 hx rfl (hb hby at_126) rfl (by decide) k_) ?_
    show OwnFin p e below s _ _ _ (T16.setTop (mkF m 127 #[.val (.long xx), .second, .val (.long yy), .second, .val (.long zz), .second, .val (.int ac), .val (.int bc), .val (.int sp), .val (.ref b1), .val (.ref b10), .val (.int (3 : Int32)), .unset, .unset] [(.int (((sp.toUInt32 >>> ((2 : Int32) &&& 31).toUInt32).toInt32) % ((5 : Int32) - (3 : Int32))))]))
    refine own_go (fun t_ k_ => XS.istore X16.here hx rfl (hb hby at_127) rfl (l' := #[.val (.long xx), .second, .val (.long yy), .second, .val (.long zz), .second, .val (.int ac), .val (.int bc), .val (.int sp), .val (.ref b1), .val (.ref b10), .val (.int (3 : Int32)), .val (.int (((sp.toUInt32 >>> ((2 : Int32) &&& 31).toUInt32).toInt32) % ((5 : Int32) - (3 : Int32)))), .unset]) rfl k_) ?_
    show OwnFin p e below s _ _ _ (T16.setTop (mkF m 129 #[.val (.long xx), .second, .val (.long yy), .second, .val (.long zz), .second, .val (.int ac), .val (.int bc), .val (.int sp), .val (.ref b1), .val (.ref b10), .val (.int (3 : Int32)), .val (.int (((sp.toUInt32 >>> ((2 : Int32) &&& 31).toUInt32).toInt32) % ((5 : Int32) - (3 : Int32)))), .unset] []))
    obtain ⟨fr, hfr, hfl⟩ := own_from sp (d := 2) (by decide) (by decide) (q := (5 : Int32) - (3 : Int32)) (by decide)
    rw [hfr]
    show OwnFin p e below s _ _ _ (T16.setTop (mkF m 129 #[.val (.long xx), .second, .val (.long yy), .second, .val (.long zz), .second, .val (.int ac), .val (.int bc), .val (.int sp), .val (.ref b1), .val (.ref b10), .val (.int (3 : Int32)), .val (.int (Int32.ofNat fr)), .unset] []))
    refine own_go (fun t_ k_ => XS.iload X16.here hx rfl (hb hby at_129) rfl k_) ?_
    show OwnFin p e below s _ _ _ (T16.setTop (mkF m 131 #[.val (.long xx), .second, .val (.long yy), .second, .val (.long zz), .second, .val (.int ac), .val (.int bc), .val (.int sp), .val (.ref b1), .val (.ref b10), .val (.int (3 : Int32)), .val (.int (Int32.ofNat fr)), .unset] [(.int (3 : Int32))]))
    refine own_go (fun t_ k_ => XS.iconst X16.here hx rfl (hb hby at_131) k_) ?_
    show OwnFin p e below s _ _ _ (T16.setTop (mkF m 132 #[.val (.long xx), .second, .val (.long yy), .second, .val (.long zz), .second, .val (.int ac), .val (.int bc), .val (.int sp), .val (.ref b1), .val (.ref b10), .val (.int (3 : Int32)), .val (.int (Int32.ofNat fr)), .unset] [(.int (1 : Int32)), (.int (3 : Int32))]))
    refine own_go (fun t_ k_ => XS.icmpNo X16.here hx rfl (hb hby at_132) rfl (flt (by decide)).1 k_) ?_
    show OwnFin p e below s _ _ _ (T16.setTop (mkF m 135 #[.val (.long xx), .second, .val (.long yy), .second, .val (.long zz), .second, .val (.int ac), .val (.int bc), .val (.int sp), .val (.ref b1), .val (.ref b10), .val (.int (3 : Int32)), .val (.int (Int32.ofNat fr)), .unset] []))
    refine own_go (fun t_ k_ => XS.aload X16.here hx rfl (hb hby at_135) rfl rfl k_) ?_
    show OwnFin p e below s _ _ _ (T16.setTop (mkF m 137 #[.val (.long xx), .second, .val (.long yy), .second, .val (.long zz), .second, .val (.int ac), .val (.int bc), .val (.int sp), .val (.ref b1), .val (.ref b10), .val (.int (3 : Int32)), .val (.int (Int32.ofNat fr)), .unset] [(.ref b1)]))
    refine own_go (fun t_ k_ => XS.iload X16.here hx rfl (hb hby at_137) rfl k_) ?_
    show OwnFin p e below s _ _ _ (T16.setTop (mkF m 139 #[.val (.long xx), .second, .val (.long yy), .second, .val (.long zz), .second, .val (.int ac), .val (.int bc), .val (.int sp), .val (.ref b1), .val (.ref b10), .val (.int (3 : Int32)), .val (.int (Int32.ofNat fr)), .unset] [(.int (Int32.ofNat fr)), (.ref b1)]))
    refine own_go (own_laload X16 hx hZ e16 VfA (i := fr) rfl (by omega) (g := (mkF m 139 #[.val (.long xx), .second, .val (.long yy), .second, .val (.long zz), .second, .val (.int ac), .val (.int bc), .val (.int sp), .val (.ref b1), .val (.ref b10), .val (.int (3 : Int32)), .val (.int (Int32.ofNat fr)), .unset] [(.int (Int32.ofNat fr)), (.ref b1)])) rfl rfl (hb hby at_139)) ?_
    show OwnFin p e below s _ _ _ (T16.setTop (mkF m 140 #[.val (.long xx), .second, .val (.long yy), .second, .val (.long zz), .second, .val (.int ac), .val (.int bc), .val (.int sp), .val (.ref b1), .val (.ref b10), .val (.int (3 : Int32)), .val (.int (Int32.ofNat fr)), .unset] [(.long (fA fr))]))
    refine own_go (fun t_ k_ => XS.aload X16.here hx rfl (hb hby at_140) rfl rfl k_) ?_
    show OwnFin p e below s _ _ _ (T16.setTop (mkF m 142 #[.val (.long xx), .second, .val (.long yy), .second, .val (.long zz), .second, .val (.int ac), .val (.int bc), .val (.int sp), .val (.ref b1), .val (.ref b10), .val (.int (3 : Int32)), .val (.int (Int32.ofNat fr)), .unset] [(.ref b10), (.long (fA fr))]))
    refine own_go (fun t_ k_ => XS.iconst X16.here hx rfl (hb hby at_142) k_) ?_
    show OwnFin p e below s _ _ _ (T16.setTop (mkF m 143 #[.val (.long xx), .second, .val (.long yy), .second, .val (.long zz), .second, .val (.int ac), .val (.int bc), .val (.int sp), .val (.ref b1), .val (.ref b10), .val (.int (3 : Int32)), .val (.int (Int32.ofNat fr)), .unset] [(.int (0 : Int32)), (.ref b10), (.long (fA fr))]))
    refine own_go (own_laload X16 hx hZ e16 VfB (i := 0) (by decide) (by decide) (g := (mkF m 143 #[.val (.long xx), .second, .val (.long yy), .second, .val (.long zz), .second, .val (.int ac), .val (.int bc), .val (.int sp), .val (.ref b1), .val (.ref b10), .val (.int (3 : Int32)), .val (.int (Int32.ofNat fr)), .unset] [(.int (0 : Int32)), (.ref b10), (.long (fA fr))])) rfl rfl (hb hby at_143)) ?_
    show OwnFin p e below s _ _ _ (T16.setTop (mkF m 144 #[.val (.long xx), .second, .val (.long yy), .second, .val (.long zz), .second, .val (.int ac), .val (.int bc), .val (.int sp), .val (.ref b1), .val (.ref b10), .val (.int (3 : Int32)), .val (.int (Int32.ofNat fr)), .unset] [(.long (fB 0)), (.long (fA fr))]))
    refine own_go (fun t_ k_ => XS.lcmp X16.here hx rfl (hb hby at_144) rfl k_) ?_
    show OwnFin p e below s _ _ _ (T16.setTop (mkF m 145 #[.val (.long xx), .second, .val (.long yy), .second, .val (.long zz), .second, .val (.int ac), .val (.int bc), .val (.int sp), .val (.ref b1), .val (.ref b10), .val (.int (3 : Int32)), .val (.int (Int32.ofNat fr)), .unset] [(.int (lcmpW (fA fr) (fB 0)))]))
    by_cases hc145 : (fA fr) = (fB 0)
    · refine own_go (fun t_ k_ => XS.ifNo X16.here hx rfl (hb hby at_145) rfl ((if0 _ _).trans (teq ((lw_eq (fA fr) (fB 0)).mpr hc145)).2) k_) ?_
      show OwnFin p e below s _ _ _ (T16.setTop (mkF m 148 #[.val (.long xx), .second, .val (.long yy), .second, .val (.long zz), .second, .val (.int ac), .val (.int bc), .val (.int sp), .val (.ref b1), .val (.ref b10), .val (.int (3 : Int32)), .val (.int (Int32.ofNat fr)), .unset] []))
      refine own_go (fun t_ k_ => XS.iload X16.here hx rfl (hb hby at_148) rfl k_) ?_
      show OwnFin p e below s _ _ _ (T16.setTop (mkF m 150 #[.val (.long xx), .second, .val (.long yy), .second, .val (.long zz), .second, .val (.int ac), .val (.int bc), .val (.int sp), .val (.ref b1), .val (.ref b10), .val (.int (3 : Int32)), .val (.int (Int32.ofNat fr)), .unset] [(.int (3 : Int32))]))
      refine own_go (fun t_ k_ => XS.iconst X16.here hx rfl (hb hby at_150) k_) ?_
      show OwnFin p e below s _ _ _ (T16.setTop (mkF m 151 #[.val (.long xx), .second, .val (.long yy), .second, .val (.long zz), .second, .val (.int ac), .val (.int bc), .val (.int sp), .val (.ref b1), .val (.ref b10), .val (.int (3 : Int32)), .val (.int (Int32.ofNat fr)), .unset] [(.int (2 : Int32)), (.int (3 : Int32))]))
      refine own_go (fun t_ k_ => XS.icmpNo X16.here hx rfl (hb hby at_151) rfl (flt (by decide)).1 k_) ?_
      show OwnFin p e below s _ _ _ (T16.setTop (mkF m 154 #[.val (.long xx), .second, .val (.long yy), .second, .val (.long zz), .second, .val (.int ac), .val (.int bc), .val (.int sp), .val (.ref b1), .val (.ref b10), .val (.int (3 : Int32)), .val (.int (Int32.ofNat fr)), .unset] []))
      refine own_go (fun t_ k_ => XS.aload X16.here hx rfl (hb hby at_154) rfl rfl k_) ?_
      show OwnFin p e below s _ _ _ (T16.setTop (mkF m 156 #[.val (.long xx), .second, .val (.long yy), .second, .val (.long zz), .second, .val (.int ac), .val (.int bc), .val (.int sp), .val (.ref b1), .val (.ref b10), .val (.int (3 : Int32)), .val (.int (Int32.ofNat fr)), .unset] [(.ref b1)]))
      refine own_go (fun t_ k_ => XS.iload X16.here hx rfl (hb hby at_156) rfl k_) ?_
      show OwnFin p e below s _ _ _ (T16.setTop (mkF m 158 #[.val (.long xx), .second, .val (.long yy), .second, .val (.long zz), .second, .val (.int ac), .val (.int bc), .val (.int sp), .val (.ref b1), .val (.ref b10), .val (.int (3 : Int32)), .val (.int (Int32.ofNat fr)), .unset] [(.int (Int32.ofNat fr)), (.ref b1)]))
      refine own_go (fun t_ k_ => XS.iconst X16.here hx rfl (hb hby at_158) k_) ?_
      show OwnFin p e below s _ _ _ (T16.setTop (mkF m 159 #[.val (.long xx), .second, .val (.long yy), .second, .val (.long zz), .second, .val (.int ac), .val (.int bc), .val (.int sp), .val (.ref b1), .val (.ref b10), .val (.int (3 : Int32)), .val (.int (Int32.ofNat fr)), .unset] [(.int (1 : Int32)), (.int (Int32.ofNat fr)), (.ref b1)]))
      refine own_go (fun t_ k_ => XS.iadd X16.here hx rfl (hb hby at_159) rfl k_) ?_
      show OwnFin p e below s _ _ _ (T16.setTop (mkF m 160 #[.val (.long xx), .second, .val (.long yy), .second, .val (.long zz), .second, .val (.int ac), .val (.int bc), .val (.int sp), .val (.ref b1), .val (.ref b10), .val (.int (3 : Int32)), .val (.int (Int32.ofNat fr)), .unset] [(.int ((Int32.ofNat fr) + (1 : Int32))), (.ref b1)]))
      refine own_go (own_laload X16 hx hZ e16 VfA (i := (fr + 1)) (own_addN fr 1) (by omega) (g := (mkF m 160 #[.val (.long xx), .second, .val (.long yy), .second, .val (.long zz), .second, .val (.int ac), .val (.int bc), .val (.int sp), .val (.ref b1), .val (.ref b10), .val (.int (3 : Int32)), .val (.int (Int32.ofNat fr)), .unset] [(.int ((Int32.ofNat fr) + (1 : Int32))), (.ref b1)])) rfl rfl (hb hby at_160)) ?_
      show OwnFin p e below s _ _ _ (T16.setTop (mkF m 161 #[.val (.long xx), .second, .val (.long yy), .second, .val (.long zz), .second, .val (.int ac), .val (.int bc), .val (.int sp), .val (.ref b1), .val (.ref b10), .val (.int (3 : Int32)), .val (.int (Int32.ofNat fr)), .unset] [(.long (fA ((fr + 1))))]))
      refine own_go (fun t_ k_ => XS.aload X16.here hx rfl (hb hby at_161) rfl rfl k_) ?_
      show OwnFin p e below s _ _ _ (T16.setTop (mkF m 163 #[.val (.long xx), .second, .val (.long yy), .second, .val (.long zz), .second, .val (.int ac), .val (.int bc), .val (.int sp), .val (.ref b1), .val (.ref b10), .val (.int (3 : Int32)), .val (.int (Int32.ofNat fr)), .unset] [(.ref b10), (.long (fA ((fr + 1))))]))
      refine own_go (fun t_ k_ => XS.iconst X16.here hx rfl (hb hby at_163) k_) ?_
      show OwnFin p e below s _ _ _ (T16.setTop (mkF m 164 #[.val (.long xx), .second, .val (.long yy), .second, .val (.long zz), .second, .val (.int ac), .val (.int bc), .val (.int sp), .val (.ref b1), .val (.ref b10), .val (.int (3 : Int32)), .val (.int (Int32.ofNat fr)), .unset] [(.int (1 : Int32)), (.ref b10), (.long (fA ((fr + 1))))]))
      refine own_go (own_laload X16 hx hZ e16 VfB (i := 1) (by decide) (by decide) (g := (mkF m 164 #[.val (.long xx), .second, .val (.long yy), .second, .val (.long zz), .second, .val (.int ac), .val (.int bc), .val (.int sp), .val (.ref b1), .val (.ref b10), .val (.int (3 : Int32)), .val (.int (Int32.ofNat fr)), .unset] [(.int (1 : Int32)), (.ref b10), (.long (fA ((fr + 1))))])) rfl rfl (hb hby at_164)) ?_
      show OwnFin p e below s _ _ _ (T16.setTop (mkF m 165 #[.val (.long xx), .second, .val (.long yy), .second, .val (.long zz), .second, .val (.int ac), .val (.int bc), .val (.int sp), .val (.ref b1), .val (.ref b10), .val (.int (3 : Int32)), .val (.int (Int32.ofNat fr)), .unset] [(.long (fB 1)), (.long (fA ((fr + 1))))]))
      refine own_go (fun t_ k_ => XS.lcmp X16.here hx rfl (hb hby at_165) rfl k_) ?_
      show OwnFin p e below s _ _ _ (T16.setTop (mkF m 166 #[.val (.long xx), .second, .val (.long yy), .second, .val (.long zz), .second, .val (.int ac), .val (.int bc), .val (.int sp), .val (.ref b1), .val (.ref b10), .val (.int (3 : Int32)), .val (.int (Int32.ofNat fr)), .unset] [(.int (lcmpW (fA ((fr + 1))) (fB 1)))]))
      by_cases hc166 : (fA ((fr + 1))) = (fB 1)
      · refine own_go (fun t_ k_ => XS.ifNo X16.here hx rfl (hb hby at_166) rfl ((if0 _ _).trans (teq ((lw_eq (fA ((fr + 1))) (fB 1)).mpr hc166)).2) k_) ?_
        show OwnFin p e below s _ _ _ (T16.setTop (mkF m 169 #[.val (.long xx), .second, .val (.long yy), .second, .val (.long zz), .second, .val (.int ac), .val (.int bc), .val (.int sp), .val (.ref b1), .val (.ref b10), .val (.int (3 : Int32)), .val (.int (Int32.ofNat fr)), .unset] []))
        refine own_go (fun t_ k_ => XS.iload X16.here hx rfl (hb hby at_169) rfl k_) ?_
        show OwnFin p e below s _ _ _ (T16.setTop (mkF m 171 #[.val (.long xx), .second, .val (.long yy), .second, .val (.long zz), .second, .val (.int ac), .val (.int bc), .val (.int sp), .val (.ref b1), .val (.ref b10), .val (.int (3 : Int32)), .val (.int (Int32.ofNat fr)), .unset] [(.int (3 : Int32))]))
        refine own_go (fun t_ k_ => XS.iconst X16.here hx rfl (hb hby at_171) k_) ?_
        show OwnFin p e below s _ _ _ (T16.setTop (mkF m 172 #[.val (.long xx), .second, .val (.long yy), .second, .val (.long zz), .second, .val (.int ac), .val (.int bc), .val (.int sp), .val (.ref b1), .val (.ref b10), .val (.int (3 : Int32)), .val (.int (Int32.ofNat fr)), .unset] [(.int (3 : Int32)), (.int (3 : Int32))]))
        refine own_go (fun t_ k_ => XS.icmpNo X16.here hx rfl (hb hby at_172) rfl (flt (by decide)).1 k_) ?_
        show OwnFin p e below s _ _ _ (T16.setTop (mkF m 175 #[.val (.long xx), .second, .val (.long yy), .second, .val (.long zz), .second, .val (.int ac), .val (.int bc), .val (.int sp), .val (.ref b1), .val (.ref b10), .val (.int (3 : Int32)), .val (.int (Int32.ofNat fr)), .unset] []))
        refine own_go (fun t_ k_ => XS.aload X16.here hx rfl (hb hby at_175) rfl rfl k_) ?_
        show OwnFin p e below s _ _ _ (T16.setTop (mkF m 177 #[.val (.long xx), .second, .val (.long yy), .second, .val (.long zz), .second, .val (.int ac), .val (.int bc), .val (.int sp), .val (.ref b1), .val (.ref b10), .val (.int (3 : Int32)), .val (.int (Int32.ofNat fr)), .unset] [(.ref b1)]))
        refine own_go (fun t_ k_ => XS.iload X16.here hx rfl (hb hby at_177) rfl k_) ?_
        show OwnFin p e below s _ _ _ (T16.setTop (mkF m 179 #[.val (.long xx), .second, .val (.long yy), .second, .val (.long zz), .second, .val (.int ac), .val (.int bc), .val (.int sp), .val (.ref b1), .val (.ref b10), .val (.int (3 : Int32)), .val (.int (Int32.ofNat fr)), .unset] [(.int (Int32.ofNat fr)), (.ref b1)]))
        refine own_go (fun t_ k_ => XS.iconst X16.here hx rfl (hb hby at_179) k_) ?_
        show OwnFin p e below s _ _ _ (T16.setTop (mkF m 180 #[.val (.long xx), .second, .val (.long yy), .second, .val (.long zz), .second, .val (.int ac), .val (.int bc), .val (.int sp), .val (.ref b1), .val (.ref b10), .val (.int (3 : Int32)), .val (.int (Int32.ofNat fr)), .unset] [(.int (2 : Int32)), (.int (Int32.ofNat fr)), (.ref b1)]))
        refine own_go (fun t_ k_ => XS.iadd X16.here hx rfl (hb hby at_180) rfl k_) ?_
        show OwnFin p e below s _ _ _ (T16.setTop (mkF m 181 #[.val (.long xx), .second, .val (.long yy), .second, .val (.long zz), .second, .val (.int ac), .val (.int bc), .val (.int sp), .val (.ref b1), .val (.ref b10), .val (.int (3 : Int32)), .val (.int (Int32.ofNat fr)), .unset] [(.int ((Int32.ofNat fr) + (2 : Int32))), (.ref b1)]))
        refine own_go (own_laload X16 hx hZ e16 VfA (i := (fr + 2)) (own_addN fr 2) (by omega) (g := (mkF m 181 #[.val (.long xx), .second, .val (.long yy), .second, .val (.long zz), .second, .val (.int ac), .val (.int bc), .val (.int sp), .val (.ref b1), .val (.ref b10), .val (.int (3 : Int32)), .val (.int (Int32.ofNat fr)), .unset] [(.int ((Int32.ofNat fr) + (2 : Int32))), (.ref b1)])) rfl rfl (hb hby at_181)) ?_
        show OwnFin p e below s _ _ _ (T16.setTop (mkF m 182 #[.val (.long xx), .second, .val (.long yy), .second, .val (.long zz), .second, .val (.int ac), .val (.int bc), .val (.int sp), .val (.ref b1), .val (.ref b10), .val (.int (3 : Int32)), .val (.int (Int32.ofNat fr)), .unset] [(.long (fA ((fr + 2))))]))
        refine own_go (fun t_ k_ => XS.aload X16.here hx rfl (hb hby at_182) rfl rfl k_) ?_
        show OwnFin p e below s _ _ _ (T16.setTop (mkF m 184 #[.val (.long xx), .second, .val (.long yy), .second, .val (.long zz), .second, .val (.int ac), .val (.int bc), .val (.int sp), .val (.ref b1), .val (.ref b10), .val (.int (3 : Int32)), .val (.int (Int32.ofNat fr)), .unset] [(.ref b10), (.long (fA ((fr + 2))))]))
        refine own_go (fun t_ k_ => XS.iconst X16.here hx rfl (hb hby at_184) k_) ?_
        show OwnFin p e below s _ _ _ (T16.setTop (mkF m 185 #[.val (.long xx), .second, .val (.long yy), .second, .val (.long zz), .second, .val (.int ac), .val (.int bc), .val (.int sp), .val (.ref b1), .val (.ref b10), .val (.int (3 : Int32)), .val (.int (Int32.ofNat fr)), .unset] [(.int (2 : Int32)), (.ref b10), (.long (fA ((fr + 2))))]))
        refine own_go (own_laload X16 hx hZ e16 VfB (i := 2) (by decide) (by decide) (g := (mkF m 185 #[.val (.long xx), .second, .val (.long yy), .second, .val (.long zz), .second, .val (.int ac), .val (.int bc), .val (.int sp), .val (.ref b1), .val (.ref b10), .val (.int (3 : Int32)), .val (.int (Int32.ofNat fr)), .unset] [(.int (2 : Int32)), (.ref b10), (.long (fA ((fr + 2))))])) rfl rfl (hb hby at_185)) ?_
        show OwnFin p e below s _ _ _ (T16.setTop (mkF m 186 #[.val (.long xx), .second, .val (.long yy), .second, .val (.long zz), .second, .val (.int ac), .val (.int bc), .val (.int sp), .val (.ref b1), .val (.ref b10), .val (.int (3 : Int32)), .val (.int (Int32.ofNat fr)), .unset] [(.long (fB 2)), (.long (fA ((fr + 2))))]))
        refine own_go (fun t_ k_ => XS.lcmp X16.here hx rfl (hb hby at_186) rfl k_) ?_
        show OwnFin p e below s _ _ _ (T16.setTop (mkF m 187 #[.val (.long xx), .second, .val (.long yy), .second, .val (.long zz), .second, .val (.int ac), .val (.int bc), .val (.int sp), .val (.ref b1), .val (.ref b10), .val (.int (3 : Int32)), .val (.int (Int32.ofNat fr)), .unset] [(.int (lcmpW (fA ((fr + 2))) (fB 2)))]))
        by_cases hc187 : (fA ((fr + 2))) = (fB 2)
        · refine own_go (fun t_ k_ => XS.ifNo X16.here hx rfl (hb hby at_187) rfl ((if0 _ _).trans (teq ((lw_eq (fA ((fr + 2))) (fB 2)).mpr hc187)).2) k_) ?_
          show OwnFin p e below s _ _ _ (T16.setTop (mkF m 190 #[.val (.long xx), .second, .val (.long yy), .second, .val (.long zz), .second, .val (.int ac), .val (.int bc), .val (.int sp), .val (.ref b1), .val (.ref b10), .val (.int (3 : Int32)), .val (.int (Int32.ofNat fr)), .unset] []))
          refine own_go (fun t_ k_ => XS.iconst X16.here hx rfl (hb hby at_190) k_) ?_
          show OwnFin p e below s _ _ _ (T16.setTop (mkF m 191 #[.val (.long xx), .second, .val (.long yy), .second, .val (.long zz), .second, .val (.int ac), .val (.int bc), .val (.int sp), .val (.ref b1), .val (.ref b10), .val (.int (3 : Int32)), .val (.int (Int32.ofNat fr)), .unset] [(.int (1 : Int32))]))
          refine own_go (fun t_ k_ => XS.goto X16.here hx rfl (pc0 := 191) (pc' := 195) rfl (hb hby at_191) (by decide) (by decide) k_) ?_
          show OwnFin p e below s _ _ _ (T16.setTop (mkF m 195 #[.val (.long xx), .second, .val (.long yy), .second, .val (.long zz), .second, .val (.int ac), .val (.int bc), .val (.int sp), .val (.ref b1), .val (.ref b10), .val (.int (3 : Int32)), .val (.int (Int32.ofNat fr)), .unset] [(.int (1 : Int32))]))
          refine own_go (fun t_ k_ => XS.istore X16.here hx rfl (hb hby at_195) rfl (l' := #[.val (.long xx), .second, .val (.long yy), .second, .val (.long zz), .second, .val (.int ac), .val (.int bc), .val (.int sp), .val (.ref b1), .val (.ref b10), .val (.int (3 : Int32)), .val (.int (Int32.ofNat fr)), .val (.int (1 : Int32))]) rfl k_) ?_
          show OwnFin p e below s _ _ _ (T16.setTop (mkF m 197 #[.val (.long xx), .second, .val (.long yy), .second, .val (.long zz), .second, .val (.int ac), .val (.int bc), .val (.int sp), .val (.ref b1), .val (.ref b10), .val (.int (3 : Int32)), .val (.int (Int32.ofNat fr)), .val (.int (1 : Int32))] []))
          refine own_go (fun t_ k_ => XS.aload X16.here hx rfl (hb hby at_197) rfl rfl k_) ?_
          show OwnFin p e below s _ _ _ (T16.setTop (mkF m 199 #[.val (.long xx), .second, .val (.long yy), .second, .val (.long zz), .second, .val (.int ac), .val (.int bc), .val (.int sp), .val (.ref b1), .val (.ref b10), .val (.int (3 : Int32)), .val (.int (Int32.ofNat fr)), .val (.int (1 : Int32))] [(.ref b1)]))
          refine own_go (fun t_ k_ => XS.iload X16.here hx rfl (hb hby at_199) rfl k_) ?_
          show OwnFin p e below s _ _ _ (T16.setTop (mkF m 201 #[.val (.long xx), .second, .val (.long yy), .second, .val (.long zz), .second, .val (.int ac), .val (.int bc), .val (.int sp), .val (.ref b1), .val (.ref b10), .val (.int (3 : Int32)), .val (.int (Int32.ofNat fr)), .val (.int (1 : Int32))] [(.int (Int32.ofNat fr)), (.ref b1)]))
          refine own_go (fun t_ k_ => XS.aload X16.here hx rfl (hb hby at_201) rfl rfl k_) ?_
          show OwnFin p e below s _ _ _ (T16.setTop (mkF m 203 #[.val (.long xx), .second, .val (.long yy), .second, .val (.long zz), .second, .val (.int ac), .val (.int bc), .val (.int sp), .val (.ref b1), .val (.ref b10), .val (.int (3 : Int32)), .val (.int (Int32.ofNat fr)), .val (.int (1 : Int32))] [(.ref b10), (.int (Int32.ofNat fr)), (.ref b1)]))
          refine own_go (fun t_ k_ => XS.iload X16.here hx rfl (hb hby at_203) rfl k_) ?_
          show OwnFin p e below s _ _ _ (T16.setTop (mkF m 205 #[.val (.long xx), .second, .val (.long yy), .second, .val (.long zz), .second, .val (.int ac), .val (.int bc), .val (.int sp), .val (.ref b1), .val (.ref b10), .val (.int (3 : Int32)), .val (.int (Int32.ofNat fr)), .val (.int (1 : Int32))] [(.int (3 : Int32)), (.ref b10), (.int (Int32.ofNat fr)), (.ref b1)]))
          obtain ⟨v23, T23, L23, X23, hQ23, st23⟩ := own_callS X16 hx hZ (y := (⟨"com/example/trapline/trapline/collect/NumberedSet", "equal", "([JI[JI)Z"⟩ : MethodName)) hown (hw _ (List.mem_of_getElem? (i := 5) rfl)) (hw _ (List.mem_of_getElem? (i := 6) rfl)) (hw _ (List.mem_of_getElem? (i := 7) rfl)) (hw _ (List.mem_of_getElem? (i := 8) rfl)) (by decide) (W := 0) (rm2 l Z a0 hw [] b1 (Int32.ofNat fr) b10 (3 : Int32) fA fB 4 3 fr 3 h16 n0 Z16 VfA VfB rfl rfl (by omega) (by omega) (by decide)) (by decide) (by decide) (g := (mkF m 205 #[.val (.long xx), .second, .val (.long yy), .second, .val (.long zz), .second, .val (.int ac), .val (.int bc), .val (.int sp), .val (.ref b1), .val (.ref b10), .val (.int (3 : Int32)), .val (.int (Int32.ofNat fr)), .val (.int (1 : Int32))] [(.int (3 : Int32)), (.ref b10), (.int (Int32.ofNat fr)), (.ref b1)])) rfl (by rw [hml]; rfl) (argsL := [(.ref b1), (.int (Int32.ofNat fr)), (.ref b10), (.int (3 : Int32))]) (rest := []) (lenOf pd_0_1 rfl) rfl (by show 2 * 0 + _ ≤ _; exact Nat.le_of_eq rfl) (hb hby at_205) e16 rfl (by decide) (by decide)
          obtain ⟨rfl, Nq23, e23⟩ := hQ23
          have N23 := Fr.app N16 Nq23
          refine own_go st23 ?_
          show OwnFin p e below s _ _ _ (T23.setTop (mkF m 208 #[.val (.long xx), .second, .val (.long yy), .second, .val (.long zz), .second, .val (.int ac), .val (.int bc), .val (.int sp), .val (.ref b1), .val (.ref b10), .val (.int (3 : Int32)), .val (.int (Int32.ofNat fr)), .val (.int (1 : Int32))] [(.int (own_eq fA fB fr 3))]))
          refine own_go (fun t_ k_ => XS.iload X23.here hx rfl (hb hby at_208) rfl k_) ?_
          show OwnFin p e below s _ _ _ (T23.setTop (mkF m 210 #[.val (.long xx), .second, .val (.long yy), .second, .val (.long zz), .second, .val (.int ac), .val (.int bc), .val (.int sp), .val (.ref b1), .val (.ref b10), .val (.int (3 : Int32)), .val (.int (Int32.ofNat fr)), .val (.int (1 : Int32))] [(.int (1 : Int32)), (.int (own_eq fA fB fr 3))]))
          by_cases hc210 : (own_eq fA fB fr 3) = (1 : Int32)
          · refine own_go (fun t_ k_ => XS.icmpNo X23.here hx rfl (hb hby at_210) rfl (teq hc210).2 k_) ?_
            show OwnFin p e below s _ _ _ (T23.setTop (mkF m 213 #[.val (.long xx), .second, .val (.long yy), .second, .val (.long zz), .second, .val (.int ac), .val (.int bc), .val (.int sp), .val (.ref b1), .val (.ref b10), .val (.int (3 : Int32)), .val (.int (Int32.ofNat fr)), .val (.int (1 : Int32))] []))
            refine own_go (fun t_ k_ => XS.iconst X23.here hx rfl (hb hby at_213) k_) ?_
            show OwnFin p e below s _ _ _ (T23.setTop (mkF m 214 #[.val (.long xx), .second, .val (.long yy), .second, .val (.long zz), .second, .val (.int ac), .val (.int bc), .val (.int sp), .val (.ref b1), .val (.ref b10), .val (.int (3 : Int32)), .val (.int (Int32.ofNat fr)), .val (.int (1 : Int32))] [(.int (1 : Int32))]))
            refine own_go (fun t_ k_ => XS.goto X23.here hx rfl (pc0 := 214) (pc' := 218) rfl (hb hby at_214) (by decide) (by decide) k_) ?_
            show OwnFin p e below s _ _ _ (T23.setTop (mkF m 218 #[.val (.long xx), .second, .val (.long yy), .second, .val (.long zz), .second, .val (.int ac), .val (.int bc), .val (.int sp), .val (.ref b1), .val (.ref b10), .val (.int (3 : Int32)), .val (.int (Int32.ofNat fr)), .val (.int (1 : Int32))] [(.int (1 : Int32))]))
            refine own_ret X23 (v := some (.int (1 : Int32))) hlk (fun hh => by rw [hret] at hh; cases hh) (fun fs hr => retN X23 hx (t := .boolean) hret (by simp) (hb hby at_218) hr) (by decide) (by decide) ?_
            exact ⟨rfl, N23⟩
          · refine own_go (fun t_ k_ => XS.icmpYes X23.here hx rfl (pc0 := 210) (pc' := 217) rfl (hb hby at_210) rfl (feq hc210).2 (by decide) (by decide) k_) ?_
            show OwnFin p e below s _ _ _ (T23.setTop (mkF m 217 #[.val (.long xx), .second, .val (.long yy), .second, .val (.long zz), .second, .val (.int ac), .val (.int bc), .val (.int sp), .val (.ref b1), .val (.ref b10), .val (.int (3 : Int32)), .val (.int (Int32.ofNat fr)), .val (.int (1 : Int32))] []))
            refine own_go (fun t_ k_ => XS.iconst X23.here hx rfl (hb hby at_217) k_) ?_
            show OwnFin p e below s _ _ _ (T23.setTop (mkF m 218 #[.val (.long xx), .second, .val (.long yy), .second, .val (.long zz), .second, .val (.int ac), .val (.int bc), .val (.int sp), .val (.ref b1), .val (.ref b10), .val (.int (3 : Int32)), .val (.int (Int32.ofNat fr)), .val (.int (1 : Int32))] [(.int (0 : Int32))]))
            refine absurd (own_eq1 (fA := fA) (fB := fB) (fr := fr) (len := 3) (fun i hi => ?_)) hc210
            have hi' : i = 0 ∨ i = 1 ∨ i = 2 := by omega
            rcases hi' with rfl | rfl | rfl
            · exact hc145
            · exact hc166
            · exact hc187
        · refine own_go (fun t_ k_ => XS.ifYes X16.here hx rfl (pc0 := 187) (pc' := 194) rfl (hb hby at_187) rfl ((if0 _ _).trans (feq (mt (lw_eq (fA ((fr + 2))) (fB 2)).mp hc187)).2) (by decide) (by decide) k_) ?_
          show OwnFin p e below s _ _ _ (T16.setTop (mkF m 194 #[.val (.long xx), .second, .val (.long yy), .second, .val (.long zz), .second, .val (.int ac), .val (.int bc), .val (.int sp), .val (.ref b1), .val (.ref b10), .val (.int (3 : Int32)), .val (.int (Int32.ofNat fr)), .unset] []))
          refine own_go (fun t_ k_ => XS.iconst X16.here hx rfl (hb hby at_194) k_) ?_
          show OwnFin p e below s _ _ _ (T16.setTop (mkF m 195 #[.val (.long xx), .second, .val (.long yy), .second, .val (.long zz), .second, .val (.int ac), .val (.int bc), .val (.int sp), .val (.ref b1), .val (.ref b10), .val (.int (3 : Int32)), .val (.int (Int32.ofNat fr)), .unset] [(.int (0 : Int32))]))
          refine own_go (fun t_ k_ => XS.istore X16.here hx rfl (hb hby at_195) rfl (l' := #[.val (.long xx), .second, .val (.long yy), .second, .val (.long zz), .second, .val (.int ac), .val (.int bc), .val (.int sp), .val (.ref b1), .val (.ref b10), .val (.int (3 : Int32)), .val (.int (Int32.ofNat fr)), .val (.int (0 : Int32))]) rfl k_) ?_
          show OwnFin p e below s _ _ _ (T16.setTop (mkF m 197 #[.val (.long xx), .second, .val (.long yy), .second, .val (.long zz), .second, .val (.int ac), .val (.int bc), .val (.int sp), .val (.ref b1), .val (.ref b10), .val (.int (3 : Int32)), .val (.int (Int32.ofNat fr)), .val (.int (0 : Int32))] []))
          refine own_go (fun t_ k_ => XS.aload X16.here hx rfl (hb hby at_197) rfl rfl k_) ?_
          show OwnFin p e below s _ _ _ (T16.setTop (mkF m 199 #[.val (.long xx), .second, .val (.long yy), .second, .val (.long zz), .second, .val (.int ac), .val (.int bc), .val (.int sp), .val (.ref b1), .val (.ref b10), .val (.int (3 : Int32)), .val (.int (Int32.ofNat fr)), .val (.int (0 : Int32))] [(.ref b1)]))
          refine own_go (fun t_ k_ => XS.iload X16.here hx rfl (hb hby at_199) rfl k_) ?_
          show OwnFin p e below s _ _ _ (T16.setTop (mkF m 201 #[.val (.long xx), .second, .val (.long yy), .second, .val (.long zz), .second, .val (.int ac), .val (.int bc), .val (.int sp), .val (.ref b1), .val (.ref b10), .val (.int (3 : Int32)), .val (.int (Int32.ofNat fr)), .val (.int (0 : Int32))] [(.int (Int32.ofNat fr)), (.ref b1)]))
          refine own_go (fun t_ k_ => XS.aload X16.here hx rfl (hb hby at_201) rfl rfl k_) ?_
          show OwnFin p e below s _ _ _ (T16.setTop (mkF m 203 #[.val (.long xx), .second, .val (.long yy), .second, .val (.long zz), .second, .val (.int ac), .val (.int bc), .val (.int sp), .val (.ref b1), .val (.ref b10), .val (.int (3 : Int32)), .val (.int (Int32.ofNat fr)), .val (.int (0 : Int32))] [(.ref b10), (.int (Int32.ofNat fr)), (.ref b1)]))
          refine own_go (fun t_ k_ => XS.iload X16.here hx rfl (hb hby at_203) rfl k_) ?_
          show OwnFin p e below s _ _ _ (T16.setTop (mkF m 205 #[.val (.long xx), .second, .val (.long yy), .second, .val (.long zz), .second, .val (.int ac), .val (.int bc), .val (.int sp), .val (.ref b1), .val (.ref b10), .val (.int (3 : Int32)), .val (.int (Int32.ofNat fr)), .val (.int (0 : Int32))] [(.int (3 : Int32)), (.ref b10), (.int (Int32.ofNat fr)), (.ref b1)]))
          obtain ⟨v24, T24, L24, X24, hQ24, st24⟩ := own_callS X16 hx hZ (y := (⟨"com/example/trapline/trapline/collect/NumberedSet", "equal", "([JI[JI)Z"⟩ : MethodName)) hown (hw _ (List.mem_of_getElem? (i := 5) rfl)) (hw _ (List.mem_of_getElem? (i := 6) rfl)) (hw _ (List.mem_of_getElem? (i := 7) rfl)) (hw _ (List.mem_of_getElem? (i := 8) rfl)) (by decide) (W := 0) (rm2 l Z a0 hw [] b1 (Int32.ofNat fr) b10 (3 : Int32) fA fB 4 3 fr 3 h16 n0 Z16 VfA VfB rfl rfl (by omega) (by omega) (by decide)) (by decide) (by decide) (g := (mkF m 205 #[.val (.long xx), .second, .val (.long yy), .second, .val (.long zz), .second, .val (.int ac), .val (.int bc), .val (.int sp), .val (.ref b1), .val (.ref b10), .val (.int (3 : Int32)), .val (.int (Int32.ofNat fr)), .val (.int (0 : Int32))] [(.int (3 : Int32)), (.ref b10), (.int (Int32.ofNat fr)), (.ref b1)])) rfl (by rw [hml]; rfl) (argsL := [(.ref b1), (.int (Int32.ofNat fr)), (.ref b10), (.int (3 : Int32))]) (rest := []) (lenOf pd_0_1 rfl) rfl (by show 2 * 0 + _ ≤ _; exact Nat.le_of_eq rfl) (hb hby at_205) e16 rfl (by decide) (by decide)
          obtain ⟨rfl, Nq24, e24⟩ := hQ24
          have N24 := Fr.app N16 Nq24
          refine own_go st24 ?_
          show OwnFin p e below s _ _ _ (T24.setTop (mkF m 208 #[.val (.long xx), .second, .val (.long yy), .second, .val (.long zz), .second, .val (.int ac), .val (.int bc), .val (.int sp), .val (.ref b1), .val (.ref b10), .val (.int (3 : Int32)), .val (.int (Int32.ofNat fr)), .val (.int (0 : Int32))] [(.int (own_eq fA fB fr 3))]))
          refine own_go (fun t_ k_ => XS.iload X24.here hx rfl (hb hby at_208) rfl k_) ?_
          show OwnFin p e below s _ _ _ (T24.setTop (mkF m 210 #[.val (.long xx), .second, .val (.long yy), .second, .val (.long zz), .second, .val (.int ac), .val (.int bc), .val (.int sp), .val (.ref b1), .val (.ref b10), .val (.int (3 : Int32)), .val (.int (Int32.ofNat fr)), .val (.int (0 : Int32))] [(.int (0 : Int32)), (.int (own_eq fA fB fr 3))]))
          by_cases hc210 : (own_eq fA fB fr 3) = (0 : Int32)
          · refine own_go (fun t_ k_ => XS.icmpNo X24.here hx rfl (hb hby at_210) rfl (teq hc210).2 k_) ?_
            show OwnFin p e below s _ _ _ (T24.setTop (mkF m 213 #[.val (.long xx), .second, .val (.long yy), .second, .val (.long zz), .second, .val (.int ac), .val (.int bc), .val (.int sp), .val (.ref b1), .val (.ref b10), .val (.int (3 : Int32)), .val (.int (Int32.ofNat fr)), .val (.int (0 : Int32))] []))
            refine own_go (fun t_ k_ => XS.iconst X24.here hx rfl (hb hby at_213) k_) ?_
            show OwnFin p e below s _ _ _ (T24.setTop (mkF m 214 #[.val (.long xx), .second, .val (.long yy), .second, .val (.long zz), .second, .val (.int ac), .val (.int bc), .val (.int sp), .val (.ref b1), .val (.ref b10), .val (.int (3 : Int32)), .val (.int (Int32.ofNat fr)), .val (.int (0 : Int32))] [(.int (1 : Int32))]))
            refine own_go (fun t_ k_ => XS.goto X24.here hx rfl (pc0 := 214) (pc' := 218) rfl (hb hby at_214) (by decide) (by decide) k_) ?_
            show OwnFin p e below s _ _ _ (T24.setTop (mkF m 218 #[.val (.long xx), .second, .val (.long yy), .second, .val (.long zz), .second, .val (.int ac), .val (.int bc), .val (.int sp), .val (.ref b1), .val (.ref b10), .val (.int (3 : Int32)), .val (.int (Int32.ofNat fr)), .val (.int (0 : Int32))] [(.int (1 : Int32))]))
            refine own_ret X24 (v := some (.int (1 : Int32))) hlk (fun hh => by rw [hret] at hh; cases hh) (fun fs hr => retN X24 hx (t := .boolean) hret (by simp) (hb hby at_218) hr) (by decide) (by decide) ?_
            exact ⟨rfl, N24⟩
          · refine own_go (fun t_ k_ => XS.icmpYes X24.here hx rfl (pc0 := 210) (pc' := 217) rfl (hb hby at_210) rfl (feq hc210).2 (by decide) (by decide) k_) ?_
            show OwnFin p e below s _ _ _ (T24.setTop (mkF m 217 #[.val (.long xx), .second, .val (.long yy), .second, .val (.long zz), .second, .val (.int ac), .val (.int bc), .val (.int sp), .val (.ref b1), .val (.ref b10), .val (.int (3 : Int32)), .val (.int (Int32.ofNat fr)), .val (.int (0 : Int32))] []))
            refine own_go (fun t_ k_ => XS.iconst X24.here hx rfl (hb hby at_217) k_) ?_
            show OwnFin p e below s _ _ _ (T24.setTop (mkF m 218 #[.val (.long xx), .second, .val (.long yy), .second, .val (.long zz), .second, .val (.int ac), .val (.int bc), .val (.int sp), .val (.ref b1), .val (.ref b10), .val (.int (3 : Int32)), .val (.int (Int32.ofNat fr)), .val (.int (0 : Int32))] [(.int (0 : Int32))]))
            exact absurd (own_eq0 (fA := fA) (fB := fB) (fr := fr) (len := 3) (i := 2) (by decide) hc187) hc210
      · refine own_go (fun t_ k_ => XS.ifYes X16.here hx rfl (pc0 := 166) (pc' := 194) rfl (hb hby at_166) rfl ((if0 _ _).trans (feq (mt (lw_eq (fA ((fr + 1))) (fB 1)).mp hc166)).2) (by decide) (by decide) k_) ?_
        show OwnFin p e below s _ _ _ (T16.setTop (mkF m 194 #[.val (.long xx), .second, .val (.long yy), .second, .val (.long zz), .second, .val (.int ac), .val (.int bc), .val (.int sp), .val (.ref b1), .val (.ref b10), .val (.int (3 : Int32)), .val (.int (Int32.ofNat fr)), .unset] []))
        refine own_go (fun t_ k_ => XS.iconst X16.here hx rfl (hb hby at_194) k_) ?_
        show OwnFin p e below s _ _ _ (T16.setTop (mkF m 195 #[.val (.long xx), .second, .val (.long yy), .second, .val (.long zz), .second, .val (.int ac), .val (.int bc), .val (.int sp), .val (.ref b1), .val (.ref b10), .val (.int (3 : Int32)), .val (.int (Int32.ofNat fr)), .unset] [(.int (0 : Int32))]))
        refine own_go (fun t_ k_ => XS.istore X16.here hx rfl (hb hby at_195) rfl (l' := #[.val (.long xx), .second, .val (.long yy), .second, .val (.long zz), .second, .val (.int ac), .val (.int bc), .val (.int sp), .val (.ref b1), .val (.ref b10), .val (.int (3 : Int32)), .val (.int (Int32.ofNat fr)), .val (.int (0 : Int32))]) rfl k_) ?_
        show OwnFin p e below s _ _ _ (T16.setTop (mkF m 197 #[.val (.long xx), .second, .val (.long yy), .second, .val (.long zz), .second, .val (.int ac), .val (.int bc), .val (.int sp), .val (.ref b1), .val (.ref b10), .val (.int (3 : Int32)), .val (.int (Int32.ofNat fr)), .val (.int (0 : Int32))] []))
        refine own_go (fun t_ k_ => XS.aload X16.here hx rfl (hb hby at_197) rfl rfl k_) ?_
        show OwnFin p e below s _ _ _ (T16.setTop (mkF m 199 #[.val (.long xx), .second, .val (.long yy), .second, .val (.long zz), .second, .val (.int ac), .val (.int bc), .val (.int sp), .val (.ref b1), .val (.ref b10), .val (.int (3 : Int32)), .val (.int (Int32.ofNat fr)), .val (.int (0 : Int32))] [(.ref b1)]))
        refine own_go (fun t_ k_ => XS.iload X16.here hx rfl (hb hby at_199) rfl k_) ?_
        show OwnFin p e below s _ _ _ (T16.setTop (mkF m 201 #[.val (.long xx), .second, .val (.long yy), .second, .val (.long zz), .second, .val (.int ac), .val (.int bc), .val (.int sp), .val (.ref b1), .val (.ref b10), .val (.int (3 : Int32)), .val (.int (Int32.ofNat fr)), .val (.int (0 : Int32))] [(.int (Int32.ofNat fr)), (.ref b1)]))
        refine own_go (fun t_ k_ => XS.aload X16.here hx rfl (hb hby at_201) rfl rfl k_) ?_
        show OwnFin p e below s _ _ _ (T16.setTop (mkF m 203 #[.val (.long xx), .second, .val (.long yy), .second, .val (.long zz), .second, .val (.int ac), .val (.int bc), .val (.int sp), .val (.ref b1), .val (.ref b10), .val (.int (3 : Int32)), .val (.int (Int32.ofNat fr)), .val (.int (0 : Int32))] [(.ref b10), (.int (Int32.ofNat fr)), (.ref b1)]))
        refine own_go (fun t_ k_ => XS.iload X16.here hx rfl (hb hby at_203) rfl k_) ?_
        show OwnFin p e below s _ _ _ (T16.setTop (mkF m 205 #[.val (.long xx), .second, .val (.long yy), .second, .val (.long zz), .second, .val (.int ac), .val (.int bc), .val (.int sp), .val (.ref b1), .val (.ref b10), .val (.int (3 : Int32)), .val (.int (Int32.ofNat fr)), .val (.int (0 : Int32))] [(.int (3 : Int32)), (.ref b10), (.int (Int32.ofNat fr)), (.ref b1)]))
        obtain ⟨v25, T25, L25, X25, hQ25, st25⟩ := own_callS X16 hx hZ (y := (⟨"com/example/trapline/trapline/collect/NumberedSet", "equal", "([JI[JI)Z"⟩ : MethodName)) hown (hw _ (List.mem_of_getElem? (i := 5) rfl)) (hw _ (List.mem_of_getElem? (i := 6) rfl)) (hw _ (List.mem_of_getElem? (i := 7) rfl)) (hw _ (List.mem_of_getElem? (i := 8) rfl)) (by decide) (W := 0) (rm2 l Z a0 hw [] b1 (Int32.ofNat fr) b10 (3 : Int32) fA fB 4 3 fr 3 h16 n0 Z16 VfA VfB rfl rfl (by omega) (by omega) (by decide)) (by decide) (by decide) (g := (mkF m 205 #[.val (.long xx), .second, .val (.long yy), .second, .val (.long zz), .second, .val (.int ac), .val (.int bc), .val (.int sp), .val (.ref b1), .val (.ref b10), .val (.int (3 : Int32)), .val (.int (Int32.ofNat fr)), .val (.int (0 : Int32))] [(.int (3 : Int32)), (.ref b10), (.int (Int32.ofNat fr)), (.ref b1)])) rfl (by rw [hml]; rfl) (argsL := [(.ref b1), (.int (Int32.ofNat fr)), (.ref b10), (.int (3 : Int32))]) (rest := []) (lenOf pd_0_1 rfl) rfl (by show 2 * 0 + _ ≤ _; exact Nat.le_of_eq rfl) (hb hby at_205) e16 rfl (by decide) (by decide)
        obtain ⟨rfl, Nq25, e25⟩ := hQ25
        have N25 := Fr.app N16 Nq25
        refine own_go st25 ?_
        show OwnFin p e below s _ _ _ (T25.setTop (mkF m 208 #[.val (.long xx), .second, .val (.long yy), .second, .val (.long zz), .second, .val (.int ac), .val (.int bc), .val (.int sp), .val (.ref b1), .val (.ref b10), .val (.int (3 : Int32)), .val (.int (Int32.ofNat fr)), .val (.int (0 : Int32))] [(.int (own_eq fA fB fr 3))]))
        refine own_go (fun t_ k_ => XS.iload X25.here hx rfl (hb hby at_208) rfl k_) ?_
        show OwnFin p e below s _ _ _ (T25.setTop (mkF m 210 #[.val (.long xx), .second, .val (.long yy), .second, .val (.long zz), .second, .val (.int ac), .val (.int bc), .val (.int sp), .val (.ref b1), .val (.ref b10), .val (.int (3 : Int32)), .val (.int (Int32.ofNat fr)), .val (.int (0 : Int32))] [(.int (0 : Int32)), (.int (own_eq fA fB fr 3))]))
        by_cases hc210 : (own_eq fA fB fr 3) = (0 : Int32)
        · refine own_go (fun t_ k_ => XS.icmpNo X25.here hx rfl (hb hby at_210) rfl (teq hc210).2 k_) ?_
          show OwnFin p e below s _ _ _ (T25.setTop (mkF m 213 #[.val (.long xx), .second, .val (.long yy), .second, .val (.long zz), .second, .val (.int ac), .val (.int bc), .val (.int sp), .val (.ref b1), .val (.ref b10), .val (.int (3 : Int32)), .val (.int (Int32.ofNat fr)), .val (.int (0 : Int32))] []))
          refine own_go (fun t_ k_ => XS.iconst X25.here hx rfl (hb hby at_213) k_) ?_
          show OwnFin p e below s _ _ _ (T25.setTop (mkF m 214 #[.val (.long xx), .second, .val (.long yy), .second, .val (.long zz), .second, .val (.int ac), .val (.int bc), .val (.int sp), .val (.ref b1), .val (.ref b10), .val (.int (3 : Int32)), .val (.int (Int32.ofNat fr)), .val (.int (0 : Int32))] [(.int (1 : Int32))]))
          refine own_go (fun t_ k_ => XS.goto X25.here hx rfl (pc0 := 214) (pc' := 218) rfl (hb hby at_214) (by decide) (by decide) k_) ?_
          show OwnFin p e below s _ _ _ (T25.setTop (mkF m 218 #[.val (.long xx), .second, .val (.long yy), .second, .val (.long zz), .second, .val (.int ac), .val (.int bc), .val (.int sp), .val (.ref b1), .val (.ref b10), .val (.int (3 : Int32)), .val (.int (Int32.ofNat fr)), .val (.int (0 : Int32))] [(.int (1 : Int32))]))
          refine own_ret X25 (v := some (.int (1 : Int32))) hlk (fun hh => by rw [hret] at hh; cases hh) (fun fs hr => retN X25 hx (t := .boolean) hret (by simp) (hb hby at_218) hr) (by decide) (by decide) ?_
          exact ⟨rfl, N25⟩
        · refine own_go (fun t_ k_ => XS.icmpYes X25.here hx rfl (pc0 := 210) (pc' := 217) rfl (hb hby at_210) rfl (feq hc210).2 (by decide) (by decide) k_) ?_
          show OwnFin p e below s _ _ _ (T25.setTop (mkF m 217 #[.val (.long xx), .second, .val (.long yy), .second, .val (.long zz), .second, .val (.int ac), .val (.int bc), .val (.int sp), .val (.ref b1), .val (.ref b10), .val (.int (3 : Int32)), .val (.int (Int32.ofNat fr)), .val (.int (0 : Int32))] []))
          refine own_go (fun t_ k_ => XS.iconst X25.here hx rfl (hb hby at_217) k_) ?_
          show OwnFin p e below s _ _ _ (T25.setTop (mkF m 218 #[.val (.long xx), .second, .val (.long yy), .second, .val (.long zz), .second, .val (.int ac), .val (.int bc), .val (.int sp), .val (.ref b1), .val (.ref b10), .val (.int (3 : Int32)), .val (.int (Int32.ofNat fr)), .val (.int (0 : Int32))] [(.int (0 : Int32))]))
          exact absurd (own_eq0 (fA := fA) (fB := fB) (fr := fr) (len := 3) (i := 1) (by decide) hc166) hc210
    · refine own_go (fun t_ k_ => XS.ifYes X16.here hx rfl (pc0 := 145) (pc' := 194) rfl (hb hby at_145) rfl ((if0 _ _).trans (feq (mt (lw_eq (fA fr) (fB 0)).mp hc145)).2) (by decide) (by decide) k_) ?_
      show OwnFin p e below s _ _ _ (T16.setTop (mkF m 194 #[.val (.long xx), .second, .val (.long yy), .second, .val (.long zz), .second, .val (.int ac), .val (.int bc), .val (.int sp), .val (.ref b1), .val (.ref b10), .val (.int (3 : Int32)), .val (.int (Int32.ofNat fr)), .unset] []))
      refine own_go (fun t_ k_ => XS.iconst X16.here hx rfl (hb hby at_194) k_) ?_
      show OwnFin p e below s _ _ _ (T16.setTop (mkF m 195 #[.val (.long xx), .second, .val (.long yy), .second, .val (.long zz), .second, .val (.int ac), .val (.int bc), .val (.int sp), .val (.ref b1), .val (.ref b10), .val (.int (3 : Int32)), .val (.int (Int32.ofNat fr)), .unset] [(.int (0 : Int32))]))
      refine own_go (fun t_ k_ => XS.istore X16.here hx rfl (hb hby at_195) rfl (l' := #[.val (.long xx), .second, .val (.long yy), .second, .val (.long zz), .second, .val (.int ac), .val (.int bc), .val (.int sp), .val (.ref b1), .val (.ref b10), .val (.int (3 : Int32)), .val (.int (Int32.ofNat fr)), .val (.int (0 : Int32))]) rfl k_) ?_
      show OwnFin p e below s _ _ _ (T16.setTop (mkF m 197 #[.val (.long xx), .second, .val (.long yy), .second, .val (.long zz), .second, .val (.int ac), .val (.int bc), .val (.int sp), .val (.ref b1), .val (.ref b10), .val (.int (3 : Int32)), .val (.int (Int32.ofNat fr)), .val (.int (0 : Int32))] []))
      refine own_go (fun t_ k_ => XS.aload X16.here hx rfl (hb hby at_197) rfl rfl k_) ?_
      show OwnFin p e below s _ _ _ (T16.setTop (mkF m 199 #[.val (.long xx), .second, .val (.long yy), .second, .val (.long zz), .second, .val (.int ac), .val (.int bc), .val (.int sp), .val (.ref b1), .val (.ref b10), .val (.int (3 : Int32)), .val (.int (Int32.ofNat fr)), .val (.int (0 : Int32))] [(.ref b1)]))
      refine own_go (fun t_ k_ => XS.iload X16.here hx rfl (hb hby at_199) rfl k_) ?_
      show OwnFin p e below s _ _ _ (T16.setTop (mkF m 201 #[.val (.long xx), .second, .val (.long yy), .second, .val (.long zz), .second, .val (.int ac), .val (.int bc), .val (.int sp), .val (.ref b1), .val (.ref b10), .val (.int (3 : Int32)), .val (.int (Int32.ofNat fr)), .val (.int (0 : Int32))] [(.int (Int32.ofNat fr)), (.ref b1)]))
      refine own_go (fun t_ k_ => XS.aload X16.here hx rfl (hb hby at_201) rfl rfl k_) ?_
      show OwnFin p e below s _ _ _ (T16.setTop (mkF m 203 #[.val (.long xx), .second, .val (.long yy), .second, .val (.long zz), .second, .val (.int ac), .val (.int bc), .val (.int sp), .val (.ref b1), .val (.ref b10), .val (.int (3 : Int32)), .val (.int (Int32.ofNat fr)), .val (.int (0 : Int32))] [(.ref b10), (.int (Int32.ofNat fr)), (.ref b1)]))
      refine own_go (fun t_ k_ => XS.iload X16.here hx rfl (hb hby at_203) rfl k_) ?_
      show OwnFin p e below s _ _ _ (T16.setTop (mkF m 205 #[.val (.long xx), .second, .val (.long yy), .second, .val (.long zz), .second, .val (.int ac), .val (.int bc), .val (.int sp), .val (.ref b1), .val (.ref b10), .val (.int (3 : Int32)), .val (.int (Int32.ofNat fr)), .val (.int (0 : Int32))] [(.int (3 : Int32)), (.ref b10), (.int (Int32.ofNat fr)), (.ref b1)]))
      obtain ⟨v26, T26, L26, X26, hQ26, st26⟩ := own_callS X16 hx hZ (y := (⟨"com/example/trapline/trapline/collect/NumberedSet", "equal", "([JI[JI)Z"⟩ : MethodName)) hown (hw _ (List.mem_of_getElem? (i := 5) rfl)) (hw _ (List.mem_of_getElem? (i := 6) rfl)) (hw _ (List.mem_of_getElem? (i := 7) rfl)) (hw _ (List.mem_of_getElem? (i := 8) rfl)) (by decide) (W := 0) (rm2 l Z a0 hw [] b1 (Int32.ofNat fr) b10 (3 : Int32) fA fB 4 3 fr 3 h16 n0 Z16 VfA VfB rfl rfl (by omega) (by omega) (by decide)) (by decide) (by decide) (g := (mkF m 205 #[.val (.long xx), .second, .val (.long yy), .second, .val (.long zz), .second, .val (.int ac), .val (.int bc), .val (.int sp), .val (.ref b1), .val (.ref b10), .val (.int (3 : Int32)), .val (.int (Int32.ofNat fr)), .val (.int (0 : Int32))] [(.int (3 : Int32)), (.ref b10), (.int (Int32.ofNat fr)), (.ref b1)])) rfl (by rw [hml]; rfl) (argsL := [(.ref b1), (.int (Int32.ofNat fr)), (.ref b10), (.int (3 : Int32))]) (rest := []) (lenOf pd_0_1 rfl) rfl (by show 2 * 0 + _ ≤ _; exact Nat.le_of_eq rfl) (hb hby at_205) e16 rfl (by decide) (by decide)
      obtain ⟨rfl, Nq26, e26⟩ := hQ26
      have N26 := Fr.app N16 Nq26
      refine own_go st26 ?_
      show OwnFin p e below s _ _ _ (T26.setTop (mkF m 208 #[.val (.long xx), .second, .val (.long yy), .second, .val (.long zz), .second, .val (.int ac), .val (.int bc), .val (.int sp), .val (.ref b1), .val (.ref b10), .val (.int (3 : Int32)), .val (.int (Int32.ofNat fr)), .val (.int (0 : Int32))] [(.int (own_eq fA fB fr 3))]))
      refine own_go (fun t_ k_ => XS.iload X26.here hx rfl (hb hby at_208) rfl k_) ?_
      show OwnFin p e below s _ _ _ (T26.setTop (mkF m 210 #[.val (.long xx), .second, .val (.long yy), .second, .val (.long zz), .second, .val (.int ac), .val (.int bc), .val (.int sp), .val (.ref b1), .val (.ref b10), .val (.int (3 : Int32)), .val (.int (Int32.ofNat fr)), .val (.int (0 : Int32))] [(.int (0 : Int32)), (.int (own_eq fA fB fr 3))]))
      by_cases hc210 : (own_eq fA fB fr 3) = (0 : Int32)
      · refine own_go (fun t_ k_ => XS.icmpNo X26.here hx rfl (hb hby at_210) rfl (teq hc210).2 k_) ?_
        show OwnFin p e below s _ _ _ (T26.setTop (mkF m 213 #[.val (.long xx), .second, .val (.long yy), .second, .val (.long zz), .second, .val (.int ac), .val (.int bc), .val (.int sp), .val (.ref b1), .val (.ref b10), .val (.int (3 : Int32)), .val (.int (Int32.ofNat fr)), .val (.int (0 : Int32))] []))
        refine own_go (fun t_ k_ => XS.iconst X26.here hx rfl (hb hby at_213) k_) ?_
        show OwnFin p e below s _ _ _ (T26.setTop (mkF m 214 #[.val (.long xx), .second, .val (.long yy), .second, .val (.long zz), .second, .val (.int ac), .val (.int bc), .val (.int sp), .val (.ref b1), .val (.ref b10), .val (.int (3 : Int32)), .val (.int (Int32.ofNat fr)), .val (.int (0 : Int32))] [(.int (1 : Int32))]))
        refine own_go (fun t_ k_ => XS.goto X26.here hx rfl (pc0 := 214) (pc' := 218) rfl (hb hby at_214) (by decide) (by decide) k_) ?_
        show OwnFin p e below s _ _ _ (T26.setTop (mkF m 218 #[.val (.long xx), .second, .val (.long yy), .second, .val (.long zz), .second, .val (.int ac), .val (.int bc), .val (.int sp), .val (.ref b1), .val (.ref b10), .val (.int (3 : Int32)), .val (.int (Int32.ofNat fr)), .val (.int (0 : Int32))] [(.int (1 : Int32))]))
        refine own_ret X26 (v := some (.int (1 : Int32))) hlk (fun hh => by rw [hret] at hh; cases hh) (fun fs hr => retN X26 hx (t := .boolean) hret (by simp) (hb hby at_218) hr) (by decide) (by decide) ?_
        exact ⟨rfl, N26⟩
      · refine own_go (fun t_ k_ => XS.icmpYes X26.here hx rfl (pc0 := 210) (pc' := 217) rfl (hb hby at_210) rfl (feq hc210).2 (by decide) (by decide) k_) ?_
        show OwnFin p e below s _ _ _ (T26.setTop (mkF m 217 #[.val (.long xx), .second, .val (.long yy), .second, .val (.long zz), .second, .val (.int ac), .val (.int bc), .val (.int sp), .val (.ref b1), .val (.ref b10), .val (.int (3 : Int32)), .val (.int (Int32.ofNat fr)), .val (.int (0 : Int32))] []))
        refine own_go (fun t_ k_ => XS.iconst X26.here hx rfl (hb hby at_217) k_) ?_
        show OwnFin p e below s _ _ _ (T26.setTop (mkF m 218 #[.val (.long xx), .second, .val (.long yy), .second, .val (.long zz), .second, .val (.int ac), .val (.int bc), .val (.int sp), .val (.ref b1), .val (.ref b10), .val (.int (3 : Int32)), .val (.int (Int32.ofNat fr)), .val (.int (0 : Int32))] [(.int (0 : Int32))]))
        exact absurd (own_eq0 (fA := fA) (fB := fB) (fr := fr) (len := 3) (i := 0) (by decide) hc145) hc210
set_option maxRecDepth 65536 in
set_option maxHeartbeats 40000000 in
theorem comes_1 {Post : Tables → Env → Array Value → State → Outcome → State → Prop} (hpost : ∀ tb e args s v u, (limb_1_1.after args s (.returned v) u = true ∧ limb_1_2.after args s (.returned v) u = true ∧ True) → FrameEnd s (.returned v) u (Jvm.fieldLocs frame_1_writes args s ++ Jvm.arrayLocs frame_1_arrays args s ++ Jvm.staticLocs frame_1_statics s) 16 128 → Post tb e args s (.returned v) u) :
    ArmFor flags0 classFile x code maxLocals ret World_1 tables_1 room_1 Calls_1 rest_1 Pre_1 Post := by
  intro l hfl _ _ p e ha hc hk s m args below hf hA hF happ hP
  obtain ⟨hcalls, hrest, hpre⟩ := hP
  obtain ⟨-, -, -, hnamed, -, -, -, hat⟩ := (Spec.applies_iff hf).mp happ
  obtain ⟨hg, hn⟩ := and_e (Cond.before_iff.mp (show (Jvm.Cond.and given_1 narrow_1).before args s = true from hpre))
  obtain ⟨g1, g2⟩ := and_e hg
  obtain ⟨g3, g4⟩ := and_e g2
  obtain ⟨g5, g6⟩ := and_e g4
  obtain ⟨g7, g8⟩ := and_e g6
  obtain ⟨g9, g10⟩ := and_e g8
  obtain ⟨g11, g12⟩ := and_e g10
  obtain ⟨w0, w1, w2, w3, w4, w5, rfl⟩ : ∃ w0 w1 w2 w3 w4 w5 : Value, args = #[w0, w1, w2, w3, w4, w5] := by
    have hs : args.size = 6 := by simpa [Cond.value, given_1] using g1
    obtain ⟨L⟩ := args
    match L, hs with
    | [w0, w1, w2, w3, w4, w5], _ => exact ⟨w0, w1, w2, w3, w4, w5, rfl⟩
  have hw := fun d (hd : d ∈ tables_1) => atoms_spec (ws := Jvm.Cond.code x code maxLocals ret :: tables_1) hat d (List.mem_cons_of_mem _ hd)
  have hfit : Fit s := fun {y c} hc i hi => by
    obtain ⟨ha, rfl⟩ := Array.getElem?_eq_some_iff.mp hc
    have q := List.all_eq_true.mp ((Array.all_eq_true_iff_forall_mem.mp hF) _ (Array.getElem_mem ha)) i (List.mem_range.mpr hi)
    simpa [Array.getElem?_eq_getElem hi] using q
  obtain ⟨i0, ei0⟩ := isL_v g3
  obtain rfl : w0 = (.long i0) := Option.some.inj ei0
  obtain ⟨i1, ei1⟩ := isL_v g5
  obtain rfl : w1 = (.long i1) := Option.some.inj ei1
  obtain ⟨i2, ei2⟩ := isL_v g7
  obtain rfl : w2 = (.long i2) := Option.some.inj ei2
  obtain ⟨i3, ei3⟩ := is_v g9
  obtain rfl : w3 = (.int i3) := Option.some.inj ei3
  obtain ⟨i4, ei4⟩ := is_v g11
  obtain rfl : w4 = (.int i4) := Option.some.inj ei4
  obtain ⟨i5, ei5⟩ := is_v g12
  obtain rfl : w5 = (.int i5) := Option.some.inj ei5
  obtain ⟨n, o, h1, h2, h3, _, L, rfl, ⟨rfl, N⟩, hq⟩ := rm0 l s _ hw tables_1 i0 i1 i2 i3 i4 i5 s.heap s.heap.size (Nat.le_refl _) p e ha hc hk s m _ below hf ((Spec.applies_iff_loose hf).mp happ).1 ⟨rfl, State.Warmed39.refl s, rfl⟩ trivial
  refine ⟨n, _, h1, h2, h3, hpost _ _ _ _ _ _ ⟨Cond.after_iff.mpr rfl, Cond.after_iff.mpr (eq_i res_at (Term.int_eval (1)) rfl), trivial⟩ ⟨hq.1, hq.2.1, (hq.2.2.sift fun y hy => Or.inr (N y hy)).mono (by decide) (by decide)⟩⟩
theorem main_1_1 : Claimed_1_1 := comes_1 fun _ _ _ _ _ _ h hF => ⟨h.1, hF⟩
theorem main_1_2 : Claimed_1_2 := comes_1 fun _ _ _ _ _ _ h hF => ⟨h.2.1, hF⟩
end Jvm.Pilot.@@N@@
namespace Jvm.Pilot.@@N@@
open Jvm Jvm.ClassFile Sem Op Lib Jvm.Free Jvm.Stand Jvm.Pilot.@@N@@.Jvm.D
/-! MADE BY PROGRAM (witnessworld.py) out of the Statement's table words and the real class files: 11 classes; the members and pool entries that the words name. The judged class is class 1, her method 2. -/
namespace start1
open Jvm.ClassFile
def u (s : String) : CpInfo := .utf8 (stringToUtf16 s)
/-- a pool by its gaps: so many unusable entries, then the entry; so many at the end -/
def gap : Nat → List CpInfo → List CpInfo
  | 0, r => r
  | n + 1, r => .unusable :: gap n r
def poolList (es : List (Nat × CpInfo)) (last : Nat) : List CpInfo := es.foldr (fun e r => gap e.1 (e.2 :: r)) (gap last [])
def pool (es : List (Nat × CpInfo)) (last : Nat) : Array CpInfo := ⟨poolList es last⟩
def fileOf (pool : Array CpInfo) (this : Nat) (attrs : Array Attribute := #[]) (ms : Array MethodInfo := #[]) (fl : Nat := 33) (sup : Nat := 0) (ifs : Array Nat := #[]) (fds : Array FieldInfo := #[]) : ClassFile where
  minorVersion := 0
  majorVersion := 65
  constantPool := pool
  accessFlags := fl
  thisClass := this
  superClass := sup
  interfaces := ifs
  fields := fds
  methods := ms
  attributes := attrs
def plain (name : String) (sup : Option ClassId) : Class where
  name := name
  kind := .ordinary
  loader := none
  accessFlags := 33
  super := sup
  interfaces := #[]
  cf := none
  fields := #[]
  methods := #[]
  instanceTypes := #[]
  staticTypes := #[]
  resolved := #[]
  callSites := []
  init := .initialized
  statics := none
  mirror := none

def pool0 : Array CpInfo := pool [(5, u "<init>"), (0, u "()V"), (1, .class_ 10), (1, u "java/lang/Object")] 113

def k0m0 : Method := { name := "<init>", desc := "()V", sig := { parameters := [], returnType := none }, accessFlags := 1, code := none }
/-- java/lang/Object -/
def k0 : Class := { plain "java/lang/Object" none with
  accessFlags := 33
  interfaces := #[]
  cf := some (fileOf pool0 8 #[] #[{ accessFlags := 1, nameIndex := 5, descriptorIndex := 6, attributes := #[] }] 33 0 #[] #[])
  fields := #[]
  methods := #[k0m0]
  instanceTypes := #[]
  staticTypes := #[]
  resolved := Array.replicate 124 none
  statics := none }

def pool1 : Array CpInfo := pool [(2, .class_ 4), (1, u "java/lang/Object"), (0, u "<init>"), (0, u "()V"), (0, .methodref 8 9), (0, .class_ 10), (0, .nameAndType 11 12), (0, u "com/example/trapline/trapline/collect/NumberedSetEqualPinLaw"), (0, u "pick"), (0, u "(IJJJ)J"), (0, .methodref 14 15), (0, .class_ 16), (0, .nameAndType 17 18), (0, u "com/example/trapline/trapline/collect/NumberedSet"), (0, u "equal"), (0, u "([JI[JI)Z"), (3, u "law"), (0, u "(JJJIII)Z")] 4

def k1m0 : Method := { name := "<init>", desc := "()V", sig := { parameters := [], returnType := none }, accessFlags := 1, code := none }
def k1c1 : Code := { maxStack := 2, maxLocals := 8, code := method_2_code, exceptionTable := #[], attributes := #[] }
def k1m1 : Method := { name := "pick", desc := "(IJJJ)J", sig := { parameters := [.int, .long, .long, .long], returnType := some .long }, accessFlags := 10, code := some k1c1 }
def k1c2 : Code := { maxStack := 9, maxLocals := 14, code := code, exceptionTable := #[], attributes := #[] }
def k1m2 : Method := { name := "law", desc := "(JJJIII)Z", sig := { parameters := [.long, .long, .long, .int, .int, .int], returnType := some .boolean }, accessFlags := 9, code := some k1c2 }
/-- com/example/trapline/trapline/collect/NumberedSetEqualPinLaw -/
def k1 : Class := { plain "com/example/trapline/trapline/collect/NumberedSetEqualPinLaw" (some 0) with
  accessFlags := 49
  interfaces := #[]
  cf := some (fileOf pool1 8 #[] #[{ accessFlags := 1, nameIndex := 5, descriptorIndex := 6, attributes := #[] }, { accessFlags := 10, nameIndex := 11, descriptorIndex := 12, attributes := #[] }, { accessFlags := 9, nameIndex := 22, descriptorIndex := 23, attributes := #[] }] 49 2 #[] #[])
  fields := #[]
  methods := #[k1m0, k1m1, k1m2]
  instanceTypes := #[]
  staticTypes := #[]
  resolved := Array.replicate 28 none
  statics := none }

def pool2 : Array CpInfo := pool [(1, .class_ 2), (0, u "com/example/trapline/trapline/collect/NumberedSet"), (7, .class_ 12), (1, u "java/lang/Object"), (3, u "contents"), (0, u "Ljava/lang/String;"), (2, u "length"), (0, u "I"), (15, u "table"), (0, u "[I"), (10, u "shift"), (2, u "sequences"), (0, u "[J"), (2, u "starts"), (2, u "count"), (58, u "equal"), (0, u "([JI[JI)Z"), (26, u "MAX_TABLE_LENGTH"), (1, u "MOST_SEQUENCES"), (1, u "MOST_LONGS"), (1, u "MOST_ROOM"), (1, u "INITIAL_TABLE_LENGTH"), (1, u "SPREAD"), (0, u "J")] 30

def k2c0 : Code := { maxStack := 4, maxLocals := 5, code := prog_13_method_14_code, exceptionTable := #[], attributes := #[] }
def k2m0 : Method := { name := "equal", desc := "([JI[JI)Z", sig := { parameters := [(.array .long), .int, (.array .long), .int], returnType := some .boolean }, accessFlags := 8, code := some k2c0 }
/-- com/example/trapline/trapline/collect/NumberedSet -/
def k2 : Class := { plain "com/example/trapline/trapline/collect/NumberedSet" (some 0) with
  accessFlags := 49
  interfaces := #[]
  cf := some (fileOf pool2 1 #[] #[{ accessFlags := 8, nameIndex := 118, descriptorIndex := 119, attributes := #[] }] 49 10 #[] #[{ accessFlags := 26, nameIndex := 146, descriptorIndex := 21, attributes := #[] }, { accessFlags := 25, nameIndex := 148, descriptorIndex := 21, attributes := #[] }, { accessFlags := 25, nameIndex := 150, descriptorIndex := 21, attributes := #[] }, { accessFlags := 25, nameIndex := 152, descriptorIndex := 21, attributes := #[] }, { accessFlags := 26, nameIndex := 154, descriptorIndex := 21, attributes := #[] }, { accessFlags := 26, nameIndex := 156, descriptorIndex := 157, attributes := #[] }, { accessFlags := 18, nameIndex := 16, descriptorIndex := 17, attributes := #[] }, { accessFlags := 18, nameIndex := 20, descriptorIndex := 21, attributes := #[] }, { accessFlags := 2, nameIndex := 56, descriptorIndex := 38, attributes := #[] }, { accessFlags := 2, nameIndex := 52, descriptorIndex := 53, attributes := #[] }, { accessFlags := 2, nameIndex := 37, descriptorIndex := 38, attributes := #[] }, { accessFlags := 2, nameIndex := 49, descriptorIndex := 21, attributes := #[] }, { accessFlags := 2, nameIndex := 59, descriptorIndex := 21, attributes := #[] }])
  fields := #[{ name := "MAX_TABLE_LENGTH", type := .int, accessFlags := 26, slot := 0, constantValue := 0 }, { name := "MOST_SEQUENCES", type := .int, accessFlags := 25, slot := 1, constantValue := 0 }, { name := "MOST_LONGS", type := .int, accessFlags := 25, slot := 2, constantValue := 0 }, { name := "MOST_ROOM", type := .int, accessFlags := 25, slot := 3, constantValue := 0 }, { name := "INITIAL_TABLE_LENGTH", type := .int, accessFlags := 26, slot := 4, constantValue := 0 }, { name := "SPREAD", type := .long, accessFlags := 26, slot := 5, constantValue := 0 }, { name := "contents", type := (.object "java/lang/String"), accessFlags := 18, slot := 0, constantValue := 0 }, { name := "length", type := .int, accessFlags := 18, slot := 1, constantValue := 0 }, { name := "starts", type := (.array .int), accessFlags := 2, slot := 2, constantValue := 0 }, { name := "sequences", type := (.array .long), accessFlags := 2, slot := 3, constantValue := 0 }, { name := "table", type := (.array .int), accessFlags := 2, slot := 4, constantValue := 0 }, { name := "shift", type := .int, accessFlags := 2, slot := 5, constantValue := 0 }, { name := "count", type := .int, accessFlags := 2, slot := 6, constantValue := 0 }]
  methods := #[k2m0]
  instanceTypes := #[(.object "java/lang/String"), .int, (.array .int), (.array .long), (.array .int), .int, .int]
  staticTypes := #[.int, .int, .int, .int, .int, .long]
  resolved := Array.replicate 188 none
  statics := none }

def pool3 : Array CpInfo := pool [(1, u "java/lang/Cloneable"), (0, .class_ 1), (0, u "java/lang/Object"), (0, .class_ 3)] 3

/-- java/lang/Cloneable -/
def k3 : Class := { plain "java/lang/Cloneable" (some 0) with
  accessFlags := 1537
  interfaces := #[]
  cf := some (fileOf pool3 2 #[] #[] 1537 4 #[] #[])
  fields := #[]
  methods := #[]
  instanceTypes := #[]
  staticTypes := #[]
  resolved := Array.replicate 8 none
  statics := none }

def pool4 : Array CpInfo := pool [(1, u "java/io/Serializable"), (0, .class_ 1), (0, u "java/lang/Object"), (0, .class_ 3)] 3

/-- java/io/Serializable -/
def k4 : Class := { plain "java/io/Serializable" (some 0) with
  accessFlags := 1537
  interfaces := #[]
  cf := some (fileOf pool4 2 #[] #[] 1537 4 #[] #[])
  fields := #[]
  methods := #[]
  instanceTypes := #[]
  staticTypes := #[]
  resolved := Array.replicate 8 none
  statics := none }

/-- the primitive byte -/
def k5 : Class := { plain "byte" none with kind := .primitive 'B', accessFlags := 0x411 }
/-- [B -/
def k6 : Class := { plain "[B" (some 0) with kind := .array 5 .byte, interfaces := #[3, 4], accessFlags := 1041 }

/-- the primitive int -/
def k7 : Class := { plain "int" none with kind := .primitive 'I', accessFlags := 0x411 }
/-- [I -/
def k8 : Class := { plain "[I" (some 0) with kind := .array 7 .int, interfaces := #[3, 4], accessFlags := 1041 }

/-- the primitive long -/
def k9 : Class := { plain "long" none with kind := .primitive 'J', accessFlags := 0x411 }
/-- [J -/
def k10 : Class := { plain "[J" (some 0) with kind := .array 9 .long, interfaces := #[3, 4], accessFlags := 1041 }

def heap : Heap := #[]
def classes : Array Class := #[k0, k1, k2, k3, k4, k5, k6, k7, k8, k9, k10]
def interned : List (Array UInt16 × Addr) := []
def slotsUsed : Nat := 0
def theMethod : MethodId := ⟨1, 2⟩
def args0 : Array Value := #[.long 5, .long 6, .long 7, .int 27, .int 9, .int 3]
def aboutOver (below : List Frame) : State where
  vm := { classes := classes, interned := interned.toArray }
  heap := heap
  slotsUsed := slotsUsed
  threads := #[{ frames := .invoking theMethod args0 :: below }]
def below0 : List Frame := [.native { method := ⟨0, 0⟩, args := #[] }]
def about1 : State := aboutOver below0
def p0 : Program := .bare "" "" ""
def e0 : Env := launch0.env 0 0 0
theorem w_frames : about1.frames = Frame.invoking theMethod args0 :: below0 := rfl
set_option maxRecDepth 65536 in
theorem w_args : argsFit about1.vm theMethod args0 = true := by decide +kernel
set_option maxRecDepth 65536 in
theorem w_heap : heapFits about1 = true := by decide +kernel
set_option maxRecDepth 65536 in
theorem w_runnable : about1.curStatus? = some .runnable := by decide +kernel
set_option maxRecDepth 65536 in
theorem w_alone : about1.alone = true := by decide +kernel
set_option maxRecDepth 65536 in
theorem w_named : about1.methodNamed? x = some theMethod := by decide +kernel
set_option maxRecDepth 65536 in
theorem w_hears : about1.hears theMethod below0 = true := by decide +kernel
set_option maxRecDepth 65536 in
theorem w_ripe : about1.ripe theMethod args0 below0 = true := by decide +kernel
theorem w_running : about1.status = .running := rfl
set_option maxRecDepth 65536 in
theorem w_room : about1.hasRoom e0.platform room_1 = true :=
  launch0.hasRoom_least _ room_1 (by decide +kernel) (by decide +kernel) (by decide +kernel) (by decide +kernel) (by decide +kernel) (by decide +kernel)
theorem allAtoms_all (ts : List Jvm.Cond) (a : Array Jvm.Value) (st : Jvm.State) : (allAtoms ts).before a st = ts.all (fun c => c.before a st) := by
  induction ts with
  | nil => rfl
  | cons c t ih =>
    show (Jvm.Cond.and c (allAtoms t)).before a st = _
    rw [Jvm.Cond.before_and, ih, List.all_cons]
def words1 : List Jvm.Cond := Jvm.Cond.code x code maxLocals ret :: tables_1
/-- a 'code' word, met by the world's own term for the bytes: nothing is compared byte by byte -/
theorem code_word {y : MethodName} {bytes : ByteArray} {mx : Nat} {rt : Option FieldType} {a : Array Value} {s : State} {m : MethodId} {meth : Method} {c : Code} (h1 : s.methodNamed? y = some m) (h2 : s.vm.method? m = some meth) (h3 : meth.code = some c) (h4 : c.code = bytes)
    (h5 : (c.maxLocals == mx && c.exceptionTable.isEmpty && decide (c.maxStack ≤ mostOperands) && decide (meth.sig.returnType = rt) && !meth.locks && decide (parseMethodDescriptor y.desc = some meth.sig)) = true) : (Jvm.Cond.code y bytes mx rt).before a s = true := by
  simp only [Bool.and_eq_true, beq_iff_eq, Bool.not_eq_true', decide_eq_true_eq] at h5
  obtain ⟨⟨⟨⟨⟨g1, g2⟩, g3⟩, g4⟩, g5⟩, g6⟩ := h5
  simp [Cond.before, Cond.holds, Cond.value, h1, h2, h3, h4, g1, g2, g3, g4, g5, g6]
def isCode : Jvm.Cond → Bool
  | .code _ _ _ _ => true
  | _ => false
theorem all_split {L : List Jvm.Cond} {P : Jvm.Cond → Bool} (h1 : L.all (fun c => isCode c || P c) = true) (h2 : ∀ c ∈ L.filter isCode, P c = true) : L.all P = true := by
  refine List.all_eq_true.mpr fun c hc => ?_
  have h := List.all_eq_true.mp h1 c hc
  rcases Bool.eq_false_or_eq_true (isCode c) with hi | hi
  · exact h2 c (List.mem_filter.mpr ⟨hc, hi⟩)
  · simpa [hi] using h
set_option maxRecDepth 65536 in
theorem w_c0 : (Jvm.Cond.code x code maxLocals ret).before args0 about1 = true := code_word (m := ⟨1, 2⟩) (meth := k1m2) (c := k1c2) (by decide +kernel) rfl rfl rfl (by decide +kernel)
set_option maxRecDepth 65536 in
theorem w_c1 : (Jvm.Cond.code ({ cls := "com/example/trapline/trapline/collect/NumberedSetEqualPinLaw", name := "pick", desc := "(IJJJ)J" } : Jvm.MethodName) method_2_code (8 : Nat) (Option.some Jvm.ClassFile.FieldType.long)).before args0 about1 = true := code_word (m := ⟨1, 1⟩) (meth := k1m1) (c := k1c1) (by decide +kernel) rfl rfl rfl (by decide +kernel)
set_option maxRecDepth 65536 in
theorem w_c2 : (Jvm.Cond.code ({ cls := "com/example/trapline/trapline/collect/NumberedSet", name := "equal", desc := "([JI[JI)Z" } : Jvm.MethodName) prog_13_method_14_code (5 : Nat) (Option.some Jvm.ClassFile.FieldType.boolean)).before args0 about1 = true := code_word (m := ⟨2, 0⟩) (meth := k2m0) (c := k2c0) (by decide +kernel) rfl rfl rfl (by decide +kernel)
def codes1 : List Jvm.Cond := [Jvm.Cond.code x code maxLocals ret, Jvm.Cond.code ({ cls := "com/example/trapline/trapline/collect/NumberedSetEqualPinLaw", name := "pick", desc := "(IJJJ)J" } : Jvm.MethodName) method_2_code (8 : Nat) (Option.some Jvm.ClassFile.FieldType.long), Jvm.Cond.code ({ cls := "com/example/trapline/trapline/collect/NumberedSet", name := "equal", desc := "([JI[JI)Z" } : Jvm.MethodName) prog_13_method_14_code (5 : Nat) (Option.some Jvm.ClassFile.FieldType.boolean)]
set_option maxRecDepth 65536 in
theorem codes_eq : words1.filter isCode = codes1 := rfl
theorem w_codes : ∀ c ∈ words1.filter isCode, c.before args0 about1 = true := by
  rw [codes_eq]
  intro c hc
  simp only [codes1, List.mem_cons, List.not_mem_nil, or_false] at hc
  rcases hc with rfl | rfl | rfl
  · exact w_c0
  · exact w_c1
  · exact w_c2
set_option maxRecDepth 65536 in
theorem w_t1 : words1.all (fun c => isCode c || c.before args0 about1) = true := by decide +kernel
theorem w_tables : (allAtoms (Jvm.Cond.code x code maxLocals ret :: tables_1)).before args0 about1 = true := by
  rw [allAtoms_all]
  show words1.all (fun c => c.before args0 about1) = true
  refine all_split ?_ w_codes
  rw [w_t1]
set_option maxRecDepth 65536 in
theorem w_case : (Jvm.Cond.and given_1 narrow_1).before args0 about1 = true := by decide +kernel
theorem w_applies : (headSpec (Jvm.Cond.code x code maxLocals ret :: tables_1) room_1).applies x e0.platform about1 = true :=
  (Spec.applies_iff w_frames).mpr ⟨w_running, w_runnable, w_alone, w_named, w_hears, w_ripe, w_room, w_tables⟩
theorem atStart : AtStart classFile x code maxLocals ret World_1 tables_1 room_1 Calls_1 rest_1 Pre_1 launch0 p0 e0 about1 theMethod args0 below0 :=
  ⟨lists_1, trivial, launch0.admits_env _ _ _, launch0.least_env, fairChoices_fair.cas, fairChoices_fair.clock, w_frames, w_args, w_heap, w_applies, trivial, trivial, w_case⟩
end start1
theorem witness_1 : WitnessClaimed_1 := ⟨start1.p0, start1.e0, start1.about1, start1.theMethod, start1.args0, start1.below0, start1.atStart⟩
end Jvm.Pilot.@@N@@
