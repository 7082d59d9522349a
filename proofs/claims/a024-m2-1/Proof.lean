import JvmDerived
import JvmDerived.Pilot.@@N@@Statement
import JvmDerived.Pilot.@@N@@Code
set_option linter.unusedVariables false
set_option linter.unusedSimpArgs false
@@BLOCK:NumsL.lean.txt@@
namespace Jvm.Pilot.@@N@@
open Jvm Jvm.ClassFile Sem Op Lib Jvm.Free Jvm.Stand Jvm.LawKit Jvm.RoadKit Bundle Jvm.Pilot.@@N@@.Jvm.D
section Own
variable {p : Program} {l : Launch} {e : Env} {R : Room} {s : State} {m : MethodId} {args : Array Value} {below : List Frame} {meth : Method} {c : Code} {T : State} {locs : List Loc} {cells slots : Nat} {Z : State} {a0 : Array Value} {h : Heap}
/-- from the state A the run comes to the method's end, and Q says what it leaves -/
def OwnFin (p : Program) (e : Env) (below : List Frame) (s : State) (Q : Option Value → Heap → List Loc → Prop) (C S : Nat) (A : State) : Prop :=
  ∃ s₂ o, Steps p.tables e below A s₂ ∧ s₂.status = .running ∧ Ended s₂ below o ∧ ∃ v L, o = .returned v ∧ Q v s₂.heap L ∧ FrameEnd s o s₂ L C S
variable {Q : Option Value → Heap → List Loc → Prop} {C S : Nat}
theorem own_go {A B : State} (h : ∀ t, Steps p.tables e below B t → Steps p.tables e below A t) (k : OwnFin p e below s Q C S B) : OwnFin p e below s Q C S A := by
  obtain ⟨s₂, o, h1, r⟩ := k
  exact ⟨s₂, o, h _ h1, r⟩
theorem own_ret (X : Stand p l e R s m args below meth c T locs cells slots) {v : Option Value} (hlk : meth.locks = false) (hv : meth.sig.returnType = none → v = none) {g : JFrame}
    (hstep : ∀ fs, (∀ (f : JFrame) (acts : List Action), f.method = m → f.locked = none → f.entered = [] → (doReturn e (T.setTop f) acts v).1 = T.setFrames fs) → Steps p.tables e below (T.setTop g) (T.setFrames fs))
    (hc : cells ≤ C) (hs : slots ≤ S) (hQ : Q v T.heap locs) : OwnFin p e below s Q C S (T.setTop g) := by
  obtain ⟨fs, hr, hrun, hended, hW, hsame⟩ := X.leave hv hlk
  exact ⟨_, _, hstep fs hr, hrun, hended, _, _, rfl, hQ, ⟨_, rfl⟩, hW, hsame.mono hc hs⟩
/-- a method's contract, in the form that backOf takes -/
abbrev OwnCtr (l : Launch) (Z : State) (y : MethodName) (ws : List Jvm.Cond) (bytes : ByteArray) (maxL : Nat) (ret : Option FieldType) (rm : Room) (as' : Array Value) (h0 : Heap) (Q : Option Value → Heap → List Loc → Prop) : Prop :=
  MetFree l y (head1 (Jvm.Cond.code y bytes maxL ret :: ws) rm) (fun a U => a = as' ∧ Z.Warmed39 U.vm ∧ U.heap = h0) (fun _ _ _ _ _ => True) (fun _ U o U' => ∃ v L, o = .returned v ∧ Q v U'.heap L ∧ FrameEnd U o U' L rm.cells rm.slots)
theorem own_body {l : Launch} {Z : State} {y : MethodName} {ws : List Jvm.Cond} {bytes : ByteArray} {maxL : Nat} {ret : Option FieldType} {rm : Room} {as' : Array Value} {h0 : Heap} {g0 : MethodId → JFrame}
    (hpl : plainFor y = true) (hef : ∀ m, entryFrame m as' maxL = g0 m)
    (body : ∀ (p : Program) (e : Env) (s : State) (m : MethodId) (below : List Frame) (meth : Method) (c : Code) (s₁ : State), Stand p l e rm s m as' below meth c s₁ [] 0 0 → p.tables.exec = Jvm.exec → c.code = bytes → c.maxLocals = maxL →
      s.vm.findClass y.cls = some m.cls → meth.name = y.name → Z.Warmed39 s.vm → s₁.heap = h0 → meth.sig.returnType = ret → meth.locks = false → OwnFin p e below s Q rm.cells rm.slots (s₁.setTop (g0 m))) :
    OwnCtr l Z y ws bytes maxL ret rm as' h0 Q := by
  refine MetFree.of_bodySF hpl hisR ?_
  intro p e s m args below meth c s₁ Bd hml0 hP hK
  obtain ⟨rfl, hZ, hh⟩ := hP
  have e0 : s₁.heap = h0 := by rw [← hh, Bd.state]; rfl
  have k := body p e s m below meth c s₁ (Stand.of_body Bd) Bd.exec Bd.bytes hml0 (findClass_of_methodNamed Bd.named) (name_of_methodNamed Bd.named Bd.method).1 hZ e0 Bd.returns Bd.notSynchronized
  rw [← hef m] at k
  exact k
/-- a static call by its contract -/
theorem own_callS (X : Stand p l e R s m args below meth c T locs cells slots) (hx : p.tables.exec = Jvm.exec) (hZ : Z.Warmed39 s.vm) {own : String} {index : Nat} {y : MethodName} {bytes : ByteArray} {maxL : Nat} {ret : Option FieldType} {rm : Room} {as' : Array Value} {Q : Option Value → Heap → List Loc → Prop}
    (hown : s.vm.findClass own = some m.cls) (hlink : (Cond.methodLink own index y).before a0 Z = true) (hstat : (Cond.static y).before a0 Z = true) (hinit : (Cond.initialized y.cls).before a0 Z = true) (hcode : (Cond.code y bytes maxL ret).before a0 Z = true)
    (hy : y.cls ≠ "java/lang/invoke/MethodHandle" ∧ y.cls ≠ "java/lang/invoke/VarHandle") {W : Nat} (hM : OwnCtr l Z y [] bytes maxL ret rm as' h Q) (hf : rm.frames + 1 ≤ R.frames) (hl : W + (maxL + 11) + rm.locals ≤ R.locals)
    {g : JFrame} (hg : g.method = m) (hsize : g.locals.size = c.maxLocals) {argsL rest : List Value} (hlen : ∀ sig, parseMethodDescriptor y.desc = some sig → argsL.length = sig.parameters.length)
    (hstack : g.stack = argsL.reverse ++ rest) (hW : 2 * g.monitorRoom + (rest.map fun v => v.category).sum ≤ W) (hdg : decode c.code g.pc = .ok (.invokestatic index, 3)) (eT : T.heap = h) (ha : argsL.toArray = as') (hc : cells + rm.cells ≤ R.cells) (hs : slots + rm.slots ≤ R.slots) :
    ∃ (v : Option Value) (T' : State) (L : List Loc), Stand p l e R s m args below meth c T' (locs ++ L) (cells + rm.cells) (slots + rm.slots) ∧ Q v T'.heap L ∧ ∀ target, Steps p.tables e below (T'.setTop { g with pc := g.pc + 3, stack := v.toList ++ rest }) target → Steps p.tables e below (T.setTop g) target := by
  obtain ⟨v, _, ⟨T', L', k, n⟩, -, X', ⟨L, hQ, l1, y1, z1⟩, st⟩ := Jvm.LawKit.callS X hx (y := y) hown (mvT hZ hlink) (mvT hZ hstat) (mvT hZ hinit) (mvT hZ hcode) hy (backOf (W := W) hM hZ hcode hinit hf hl) hg hsize hlen hstack hW hdg (fun _ _ => ⟨ha, eT, hc, hs⟩)
  dsimp only [Pt.U, Pt.locs, Pt.cells, Pt.slots] at X' l1 y1 z1 st hQ
  subst l1 y1 z1
  exact ⟨v, T', L, X', hQ, st⟩
/-- a constructor by its contract -/
theorem own_callI (X : Stand p l e R s m args below meth c T locs cells slots) (hx : p.tables.exec = Jvm.exec) (hZ : Z.Warmed39 s.vm) {own : String} {index : Nat} {y : MethodName} {bytes : ByteArray} {maxL : Nat} {rm : Room} {as' : Array Value} {Q : Option Value → Heap → List Loc → Prop}
    (hy1 : y.name = "<init>") (hown : s.vm.findClass own = some m.cls) (hlink : (Cond.methodLink own index y).before a0 Z = true) (hinst : (Cond.instanceMethod y).before a0 Z = true) (hinit : (Cond.initialized y.cls).before a0 Z = true) (hcode : (Cond.code y bytes maxL none).before a0 Z = true)
    (hy : y.cls ≠ "java/lang/invoke/MethodHandle" ∧ y.cls ≠ "java/lang/invoke/VarHandle") {W : Nat} (hM : OwnCtr l Z y [] bytes maxL none rm as' h Q) (hf : rm.frames + 1 ≤ R.frames) (hl : W + (maxL + 11) + rm.locals ≤ R.locals)
    {g : JFrame} (hg : g.method = m) (hsize : g.locals.size = c.maxLocals) {a : Addr} {argsL rest : List Value} (hlen : ∀ sig, parseMethodDescriptor y.desc = some sig → argsL.length = sig.parameters.length)
    (hstack : g.stack = argsL.reverse ++ .ref a :: rest) (hW : 2 * g.monitorRoom + (rest.map fun v => v.category).sum ≤ W) (hdg : decode c.code g.pc = .ok (.invokespecial index, 3)) (eT : T.heap = h) (ha : (.ref a :: argsL).toArray = as') (hc : cells + rm.cells ≤ R.cells) (hs : slots + rm.slots ≤ R.slots) :
    ∃ (v : Option Value) (T' : State) (L : List Loc), Stand p l e R s m args below meth c T' (locs ++ L) (cells + rm.cells) (slots + rm.slots) ∧ Q v T'.heap L ∧ ∀ target, Steps p.tables e below (T'.setTop { g with pc := g.pc + 3, stack := v.toList ++ rest }) target → Steps p.tables e below (T.setTop g) target := by
  obtain ⟨v, _, ⟨T', L', k, n⟩, -, X', ⟨L, hQ, l1, y1, z1⟩, st⟩ := X.specialBack hx (y := y) hy1 hown (mvT hZ hlink) (mvT hZ hinst) (mvT hZ hcode) hy (backOf (W := W) hM hZ hcode hinit hf hl) hg hsize (Steps.refl _) hlen hstack hW hdg (fun _ _ => ⟨ha, eT, hc, hs⟩)
  dsimp only [Pt.U, Pt.locs, Pt.cells, Pt.slots] at X' l1 y1 z1 st hQ
  subst l1 y1 z1
  exact ⟨v, T', L, X', hQ, fun t k => st.trans k⟩
/-- an instance method by its contract -/
theorem own_callV (X : Stand p l e R s m args below meth c T locs cells slots) (hx : p.tables.exec = Jvm.exec) (hZ : Z.Warmed39 s.vm) {own K : String} {index : Nat} {y z : MethodName} {bytes : ByteArray} {maxL : Nat} {ret : Option FieldType} {rm : Room} {as' : Array Value} {Q : Option Value → Heap → List Loc → Prop}
    (hown : s.vm.findClass own = some m.cls) (hlink : (Cond.methodLink own index y).before a0 Z = true) (hdecl : (Cond.declares y).before a0 Z = true) (hnf : NotFace s y) (hsel : (Cond.selects K y z).before a0 Z = true) (hinst : (Cond.instanceMethod z).before a0 Z = true) (hinit : (Cond.initialized z.cls).before a0 Z = true) (hcode : (Cond.code z bytes maxL ret).before a0 Z = true)
    (hy : y.cls ≠ "java/lang/invoke/MethodHandle" ∧ y.cls ≠ "java/lang/invoke/VarHandle") {W : Nat} (hM : OwnCtr l Z z [] bytes maxL ret rm as' h Q) (hf : rm.frames + 1 ≤ R.frames) (hl : W + (maxL + 11) + rm.locals ≤ R.locals)
    {b : Addr} (E : Exa Z h b K) {g : JFrame} (hg : g.method = m) (hsize : g.locals.size = c.maxLocals) {argsL rest : List Value} (hlen : ∀ sig, parseMethodDescriptor y.desc = some sig → argsL.length = sig.parameters.length)
    (hstack : g.stack = argsL.reverse ++ .ref b :: rest) (hW : 2 * g.monitorRoom + (rest.map fun v => v.category).sum ≤ W) (hdg : decode c.code g.pc = .ok (.invokevirtual index, 3)) (eT : T.heap = h) (ha : (.ref b :: argsL).toArray = as') (hc : cells + rm.cells ≤ R.cells) (hs : slots + rm.slots ≤ R.slots) :
    ∃ (v : Option Value) (T' : State) (L : List Loc), Stand p l e R s m args below meth c T' (locs ++ L) (cells + rm.cells) (slots + rm.slots) ∧ Q v T'.heap L ∧ ∀ target, Steps p.tables e below (T'.setTop { g with pc := g.pc + 3, stack := v.toList ++ rest }) target → Steps p.tables e below (T.setTop g) target := by
  obtain ⟨cq, kq, qa, qb, qc⟩ := isOf hZ eT E
  obtain ⟨v, _, ⟨T', L', k, n⟩, -, X', ⟨L, hQ, l1, y1, z1⟩, st⟩ := X.virtualBack hx (y := y) (z := z) hown (mvT hZ hlink) (mvT hZ hdecl) hnf (mvT hZ hsel) (mvT hZ hinst) hy (backOf (W := W) hM hZ hcode hinit hf hl) qa qc hg hsize (Steps.refl _) hlen hstack hW hdg (fun _ _ => ⟨ha, eT, hc, hs⟩)
  dsimp only [Pt.U, Pt.locs, Pt.cells, Pt.slots] at X' l1 y1 z1 st hQ
  subst l1 y1 z1
  exact ⟨v, T', L, X', hQ, fun t k => st.trans k⟩
/-- a private instance method, called by invokevirtual, by its contract -/
theorem own_callP (X : Stand p l e R s m args below meth c T locs cells slots) (hx : p.tables.exec = Jvm.exec) (hZ : Z.Warmed39 s.vm) {own : String} {index : Nat} {y : MethodName} {bytes : ByteArray} {maxL : Nat} {ret : Option FieldType} {rm : Room} {as' : Array Value} {Q : Option Value → Heap → List Loc → Prop}
    (hown : s.vm.findClass own = some m.cls) (hlink : (Cond.methodLink own index y).before a0 Z = true) (hinst : (Cond.instanceMethod y).before a0 Z = true) (hsel : (Cond.selects y.cls y y).before a0 Z = true) (hpriv : (Cond.privateMethod y).before a0 Z = true) (hinit : (Cond.initialized y.cls).before a0 Z = true) (hcode : (Cond.code y bytes maxL ret).before a0 Z = true)
    (hy : y.cls ≠ "java/lang/invoke/MethodHandle" ∧ y.cls ≠ "java/lang/invoke/VarHandle") {W : Nat} (hM : OwnCtr l Z y [] bytes maxL ret rm as' h Q) (hf : rm.frames + 1 ≤ R.frames) (hl : W + (maxL + 11) + rm.locals ≤ R.locals)
    {b : Addr} {K : String} (E : Exa Z h b K) {g : JFrame} (hg : g.method = m) (hsize : g.locals.size = c.maxLocals) {argsL rest : List Value} (hlen : ∀ sig, parseMethodDescriptor y.desc = some sig → argsL.length = sig.parameters.length)
    (hstack : g.stack = argsL.reverse ++ .ref b :: rest) (hW : 2 * g.monitorRoom + (rest.map fun v => v.category).sum ≤ W) (hdg : decode c.code g.pc = .ok (.invokevirtual index, 3)) (eT : T.heap = h) (ha : (.ref b :: argsL).toArray = as') (hc : cells + rm.cells ≤ R.cells) (hs : slots + rm.slots ≤ R.slots) :
    ∃ (v : Option Value) (T' : State) (L : List Loc), Stand p l e R s m args below meth c T' (locs ++ L) (cells + rm.cells) (slots + rm.slots) ∧ Q v T'.heap L ∧ ∀ target, Steps p.tables e below (T'.setTop { g with pc := g.pc + 3, stack := v.toList ++ rest }) target → Steps p.tables e below (T.setTop g) target := by
  obtain ⟨cq, q1, q2⟩ := E.cell
  obtain ⟨v, _, ⟨T', L', k, n⟩, -, X', ⟨L, hQ, l1, y1, z1⟩, st⟩ := X.privateBack hx (y := y) hown (mvT hZ hlink) (mvT hZ hinst) (mvT hZ hsel) (Cond.privateMethod_at (mvP hZ hpriv (args := #[]))) (mvT hZ hcode) hy (backOf (W := W) hM hZ hcode hinit hf hl) hg hsize (Steps.refl _) (by rw [eT]; exact q1) q2 hlen hstack hW hdg (fun _ _ => ⟨ha, eT, hc, hs⟩)
  dsimp only [Pt.U, Pt.locs, Pt.cells, Pt.slots] at X' l1 y1 z1 st hQ
  subst l1 y1 z1
  exact ⟨v, T', L, X', hQ, fun t k => st.trans k⟩
theorem own_retI (X : Stand p l e R s m args below meth c T locs cells slots) (hx : p.tables.exec = Jvm.exec) {pc : Nat} {Ls : Array Slot} {z : Int32} {rest : List Value} (hret : meth.sig.returnType = some .int) (hd : decode c.code pc = .ok (.ireturn, 1)) {fs : List Frame}
    (hl : ∀ (f : JFrame) (acts : List Action), f.method = m → f.locked = none → f.entered = [] → (doReturn e (T.setTop f) acts (some (.int z))).1 = T.setFrames fs) : Steps p.tables e below (T.setTop (mkF m pc Ls (.int z :: rest))) (T.setFrames fs) :=
  retOut X hx hret rfl (Or.inl ⟨rfl, Or.inl rfl, _, rfl⟩) hd hl
theorem own_retJ (X : Stand p l e R s m args below meth c T locs cells slots) (hx : p.tables.exec = Jvm.exec) {pc : Nat} {Ls : Array Slot} {z : Int64} {rest : List Value} (hret : meth.sig.returnType = some .long) (hd : decode c.code pc = .ok (.lreturn, 1)) {fs : List Frame}
    (hl : ∀ (f : JFrame) (acts : List Action), f.method = m → f.locked = none → f.entered = [] → (doReturn e (T.setTop f) acts (some (.long z))).1 = T.setFrames fs) : Steps p.tables e below (T.setTop (mkF m pc Ls (.long z :: rest))) (T.setFrames fs) :=
  retOut X hx hret rfl (Or.inr (Or.inl ⟨rfl, rfl, _, rfl⟩)) hd hl
theorem own_retR (X : Stand p l e R s m args below meth c T locs cells slots) (hx : p.tables.exec = Jvm.exec) {pc : Nat} {Ls : Array Slot} {w : Value} {t : FieldType} {rest : List Value} (hret : meth.sig.returnType = some t) (ht : t.isReference = true) (hw : w.isRef = true) (hd : decode c.code pc = .ok (.areturn, 1)) {fs : List Frame}
    (hl : ∀ (f : JFrame) (acts : List Action), f.method = m → f.locked = none → f.entered = [] → (doReturn e (T.setTop f) acts (some w)).1 = T.setFrames fs) : Steps p.tables e below (T.setTop (mkF m pc Ls (w :: rest))) (T.setFrames fs) :=
  retOut X hx hret (by cases t <;> simp [FieldType.isReference] at ht <;> cases w <;> simp [Value.isRef] at hw <;> rfl) (Or.inr (Or.inr (Or.inr (Or.inr ⟨rfl, ht, hw⟩)))) hd hl
theorem own_stakeep {h' : Heap} {O n d : String} {v : Value} (F : Sta Z h O n d v) (K : Keep h h' []) : Sta Z h' O n d v := by
  obtain ⟨cf, i, k, f, st, cell, h1, h2, h3, h4, h5, r⟩ := F
  exact ⟨cf, i, k, f, st, cell, h1, h2, h3, h4, K.2.1 _ _ h5 nin0, r⟩
end Own

section OwnArrays
variable {p : Program} {l : Launch} {e : Env} {R : Room} {s : State} {m : MethodId} {args : Array Value} {below : List Frame} {meth : Method} {c : Code} {T : State} {locs : List Loc} {cells slots : Nat} {Z : State} {a0 : Array Value} {h h' : Heap} {a b : Addr} {ty : FieldType} {n : Nat} {f : Nat → Value}
/-- at a lies an array of n places of the kind ty, and its i-th place holds f i -/
def OwnArr (Z : State) (h : Heap) (a : Addr) (ty : FieldType) (n : Nat) (f : Nat → Value) : Prop := ∃ c : Cell, Arr Z h a c ty ∧ c.slots.size = n ∧ n < 2 ^ 31 ∧ ∀ i, i < n → c.slots[i]? = some (f i)
theorem OwnArr.lt (F : OwnArr Z h a ty n f) : a < h.size := by obtain ⟨c, A, -⟩ := F; exact A.lt
theorem OwnArr.ext (F : OwnArr Z h a ty n f) (E : Ext h h') : OwnArr Z h' a ty n f := by obtain ⟨c, A, r⟩ := F; exact ⟨c, A.ext E, r⟩
theorem OwnArr.other {sl : Nat} {v : Value} (F : OwnArr Z h b ty n f) (W : Wr h h' a sl v) (q : b ≠ a) : OwnArr Z h' b ty n f := by obtain ⟨c, A, r⟩ := F; exact ⟨c, A.other W q, r⟩
theorem OwnArr.keep {ws : List Addr} (F : OwnArr Z h a ty n f) (K : Keep h h' ws) (q : a ∉ ws) : OwnArr Z h' a ty n f := by obtain ⟨c, A, r⟩ := F; exact ⟨c, ⟨K.2.1 a c A.1 q, A.2⟩, r⟩
theorem OwnArr.congr {f' : Nat → Value} (F : OwnArr Z h a ty n f) (q : ∀ i, i < n → f i = f' i) : OwnArr Z h a ty n f' := by obtain ⟨c, A, r1, r2, r3⟩ := F; exact ⟨c, A, r1, r2, fun i hi => by rw [← q i hi]; exact r3 i hi⟩
theorem OwnArr.set {i : Nat} {v : Value} (F : OwnArr Z h a ty n f) (W : Wr h h' a i v) : OwnArr Z h' a ty n (fun k => if k = i then v else f k) := by
  obtain ⟨c, A, r1, r2, r3⟩ := F
  refine ⟨_, A.same W, by rw [sz_set]; exact r1, r2, fun k hk => ?_⟩
  show (c.slots.setIfInBounds i v)[k]? = _
  by_cases e : k = i
  · subst e; simp [r1, hk]
  · rw [Array.getElem?_setIfInBounds_ne (Ne.symm e), r3 k hk]; simp [e]
theorem own_newarr (X : Stand p l e R s m args below meth c T locs cells slots) (hx : p.tables.exec = Jvm.exec) (hZ : Z.Warmed39 s.vm) {aty : ArrayType} (w : (Cond.arrayClass (newarray.typeOf aty)).before a0 Z = true) (eT : T.heap = h) {g : JFrame} (hg : g.method = m) (hd : decode c.code g.pc = .ok (.newarray aty, 2)) {z : Int32} {rest : List Value} (hs : g.stack = .int z :: rest)
    {n cap : Nat} (hz : z = Int32.ofNat n) (hcap : n ≤ cap) (hb : cap * 8 ≤ 536870912) (hc : cells + 1 ≤ R.cells) (hl : slots + cap ≤ R.slots) :
    ∃ T' h', Stand p l e R s m args below meth c T' locs (cells + 1) (slots + cap) ∧ T'.heap = h' ∧ Ext h h' ∧ OwnArr Z h' h.size (newarray.typeOf aty) n (fun _ => defaultValue (newarray.typeOf aty)) ∧
      ∀ target, Steps p.tables e below (T'.setTop { g with pc := g.pc + 2, stack := .ref h.size :: rest }) target → Steps p.tables e below (T.setTop g) target := by
  have hn31 : n < 2 ^ 31 := by omega
  have hcl : z.toNatClampNeg = n := clamp_of hz hn31
  have hnn : ¬ z < 0 := by
    have q := toInt_of hz hn31
    rw [Int32.lt_iff_toInt_lt, q, Int32.toInt_zero]; omega
  obtain ⟨T', h', cA, X', e', E', A', st⟩ := newP X hx hZ w eT hg hd hs hnn (cap := cap) (by rw [hcl]; exact hcap) hb hc hl
  refine ⟨T', h', X', e', E', ⟨_, A', by rw [sz_new, hcl], hn31, fun i hi => ?_⟩, st⟩
  show (Array.replicate z.toNatClampNeg _)[i]? = _
  rw [hcl]; simp [hi]
theorem own_laload (X : Stand p l e R s m args below meth c T locs cells slots) (hx : p.tables.exec = Jvm.exec) (hZ : Z.Warmed39 s.vm) (eT : T.heap = h) (A : OwnArr Z h a .long n f) {j : Int32} {i : Nat} (hj : j = Int32.ofNat i) (hi : i < n) {g : JFrame} (hg : g.method = m) {rest : List Value} (hs : g.stack = .int j :: .ref a :: rest) (hd : decode c.code g.pc = .ok (.laload, 1)) :
    ∀ target, Steps p.tables e below (T.setTop { g with pc := g.pc + 1, stack := f i :: rest }) target → Steps p.tables e below (T.setTop g) target := by
  obtain ⟨cl, A, r1, r2, r3⟩ := A
  exact fun t k => X.laload hx (j := j) (v := f i) (by rw [eT]; exact A.1) (State.isArrayOf_alike hZ.alike A.2.1) A.2.2 (by rw [r1]; exact within hj hi r2) (by rw [clamp_of hj (by omega)]; exact r3 i hi) hg hs hd t k
theorem own_iaload (X : Stand p l e R s m args below meth c T locs cells slots) (hx : p.tables.exec = Jvm.exec) (hZ : Z.Warmed39 s.vm) (eT : T.heap = h) (A : OwnArr Z h a .int n f) {j : Int32} {i : Nat} (hj : j = Int32.ofNat i) (hi : i < n) {g : JFrame} (hg : g.method = m) {rest : List Value} (hs : g.stack = .int j :: .ref a :: rest) (hd : decode c.code g.pc = .ok (.iaload, 1)) :
    ∀ target, Steps p.tables e below (T.setTop { g with pc := g.pc + 1, stack := f i :: rest }) target → Steps p.tables e below (T.setTop g) target := by
  obtain ⟨cl, A, r1, r2, r3⟩ := A
  exact fun t k => X.iaload hx (j := j) (v := f i) (by rw [eT]; exact A.1) (State.isArrayOf_alike hZ.alike A.2.1) A.2.2 (by rw [r1]; exact within hj hi r2) (by rw [clamp_of hj (by omega)]; exact r3 i hi) hg hs hd t k
theorem own_zaload (X : Stand p l e R s m args below meth c T locs cells slots) (hx : p.tables.exec = Jvm.exec) (hZ : Z.Warmed39 s.vm) (eT : T.heap = h) (A : OwnArr Z h a .boolean n f) {j : Int32} {i : Nat} (hj : j = Int32.ofNat i) (hi : i < n) {g : JFrame} (hg : g.method = m) {rest : List Value} (hs : g.stack = .int j :: .ref a :: rest) (hd : decode c.code g.pc = .ok (.baload, 1)) :
    ∀ target, Steps p.tables e below (T.setTop { g with pc := g.pc + 1, stack := f i :: rest }) target → Steps p.tables e below (T.setTop g) target := by
  obtain ⟨cl, A, r1, r2, r3⟩ := A
  exact fun t k => X.baloadBooleans hx (j := j) (v := f i) (by rw [eT]; exact A.1) (State.isArrayOf_alike hZ.alike A.2.1) A.2.2 (by rw [r1]; exact within hj hi r2) (by rw [clamp_of hj (by omega)]; exact r3 i hi) hg hs hd t k
theorem own_alength (X : Stand p l e R s m args below meth c T locs cells slots) (hx : p.tables.exec = Jvm.exec) (hZ : Z.Warmed39 s.vm) (eT : T.heap = h) (A : OwnArr Z h a ty n f) {g : JFrame} (hg : g.method = m) {rest : List Value} (hs : g.stack = .ref a :: rest) (hd : decode c.code g.pc = .ok (.arraylength, 1)) :
    ∀ target, Steps p.tables e below (T.setTop { g with pc := g.pc + 1, stack := .int (Int32.ofNat n) :: rest }) target → Steps p.tables e below (T.setTop g) target := by
  obtain ⟨cl, A, r1, r2, r3⟩ := A
  subst r1
  exact fun t k => X.arraylength hx (by rw [eT]; exact A.1) (State.isArrayOf_alike hZ.alike A.2.1) hg hs hd t k
theorem own_lastore (X : Stand p l e R s m args below meth c T locs cells slots) (hx : p.tables.exec = Jvm.exec) (hZ : Z.Warmed39 s.vm) (eT : T.heap = h) (A : OwnArr Z h a .long n f) {j : Int32} {i : Nat} {x : Int64} (hj : j = Int32.ofNat i) (hi : i < n) {g : JFrame} (hg : g.method = m) {rest : List Value} (hs : g.stack = .long x :: .int j :: .ref a :: rest) (hd : decode c.code g.pc = .ok (.lastore, 1)) :
    ∃ T' h', Stand p l e R s m args below meth c T' (locs ++ [⟨a, i⟩]) cells slots ∧ T'.heap = h' ∧ Wr h h' a i (.long x) ∧ OwnArr Z h' a .long n (fun k => if k = i then .long x else f k) ∧ ∀ target, Steps p.tables e below (T'.setTop { g with pc := g.pc + 1, stack := rest }) target → Steps p.tables e below (T.setTop g) target := by
  have A0 := A
  obtain ⟨cl, A, r1, r2, r3⟩ := A
  obtain ⟨T', h', X', e', W, st⟩ := stJ X hx hZ eT A (j := j) (x := x) (by rw [r1]; exact within hj hi r2) hg hs hd
  rw [clamp_of hj (by omega)] at X' W
  exact ⟨T', h', X', e', W, A0.set W, st⟩
theorem own_iastore (X : Stand p l e R s m args below meth c T locs cells slots) (hx : p.tables.exec = Jvm.exec) (hZ : Z.Warmed39 s.vm) (eT : T.heap = h) (A : OwnArr Z h a .int n f) {j : Int32} {i : Nat} {x : Int32} (hj : j = Int32.ofNat i) (hi : i < n) {g : JFrame} (hg : g.method = m) {rest : List Value} (hs : g.stack = .int x :: .int j :: .ref a :: rest) (hd : decode c.code g.pc = .ok (.iastore, 1)) :
    ∃ T' h', Stand p l e R s m args below meth c T' (locs ++ [⟨a, i⟩]) cells slots ∧ T'.heap = h' ∧ Wr h h' a i (.int x) ∧ OwnArr Z h' a .int n (fun k => if k = i then .int x else f k) ∧ ∀ target, Steps p.tables e below (T'.setTop { g with pc := g.pc + 1, stack := rest }) target → Steps p.tables e below (T.setTop g) target := by
  have A0 := A
  obtain ⟨cl, A, r1, r2, r3⟩ := A
  obtain ⟨T', h', X', e', W, st⟩ := stI X hx hZ eT A (j := j) (x := x) (by rw [r1]; exact within hj hi r2) hg hs hd
  rw [clamp_of hj (by omega)] at X' W
  exact ⟨T', h', X', e', W, A0.set W, st⟩
theorem own_zastore (X : Stand p l e R s m args below meth c T locs cells slots) (hx : p.tables.exec = Jvm.exec) (hZ : Z.Warmed39 s.vm) (eT : T.heap = h) (A : OwnArr Z h a .boolean n f) {j : Int32} {i : Nat} {x : Int32} (hj : j = Int32.ofNat i) (hi : i < n) {g : JFrame} (hg : g.method = m) {rest : List Value} (hs : g.stack = .int x :: .int j :: .ref a :: rest) (hd : decode c.code g.pc = .ok (.bastore, 1)) :
    ∃ T' h', Stand p l e R s m args below meth c T' (locs ++ [⟨a, i⟩]) cells slots ∧ T'.heap = h' ∧ Wr h h' a i (.int (nar .boolean x)) ∧ OwnArr Z h' a .boolean n (fun k => if k = i then .int (nar .boolean x) else f k) ∧ ∀ target, Steps p.tables e below (T'.setTop { g with pc := g.pc + 1, stack := rest }) target → Steps p.tables e below (T.setTop g) target := by
  have A0 := A
  obtain ⟨cl, A, r1, r2, r3⟩ := A
  obtain ⟨T', h', X', e', W, st⟩ := stZ X hx hZ eT A (j := j) (x := x) (by rw [r1]; exact within hj hi r2) hg hs hd
  rw [clamp_of hj (by omega)] at X' W
  exact ⟨T', h', X', e', W, A0.set W, st⟩
theorem own_longs (F : OwnArr Z h a .long n f) (q : ∀ i, i < n → ∃ x : Int64, f i = .long x) : ∃ g : Nat → Int64, OwnArr Z h a .long n (fun i => .long (g i)) := by
  have q' : ∀ i, ∃ x : Int64, i < n → f i = .long x := fun i => by
    by_cases hi : i < n
    · obtain ⟨x, hx⟩ := q i hi; exact ⟨x, fun _ => hx⟩
    · exact ⟨0, fun z => absurd z hi⟩
  exact ⟨fun i => Classical.choose (q' i), F.congr fun i hi => Classical.choose_spec (q' i) hi⟩
end OwnArrays

theorem own_and7 (x : Int32) : ∃ k : Nat, x &&& (7 : Int32) = Int32.ofNat k ∧ k ≤ 7 := by
  have h := c_mask x 7 3 (by decide) (by decide)
  refine ⟨(x &&& 7).toInt.toNat, ?_, by omega⟩
  apply Int32.toInt_inj.mp
  rw [toInt_of (n := Int32.ofNat (x &&& 7).toInt.toNat) rfl (by omega)]
  omega
theorem own_rem (x : Int32) {d : Nat} (hd : 0 < d) (hd7 : d ≤ 7) : ∃ k : Nat, ((x &&& (2147483647 : Int32)) % (Int32.ofNat d)) = Int32.ofNat k ∧ k < d := by
  have h := c_mask x 2147483647 31 (by decide) (by decide)
  have hq' : (Int32.ofNat d).toInt = (d : Int) := toInt_of rfl (by omega)
  have h1 := Jvm.Kit.i32_rem_nonneg (x := (x &&& (2147483647 : Int32))) (y := Int32.ofNat d) (by rw [h]; exact Int.emod_nonneg _ (by decide))
  have h2 : 0 ≤ ((x &&& (2147483647 : Int32)) % (Int32.ofNat d)).toInt := by rw [h1, hq']; exact Int.emod_nonneg _ (by omega)
  have h3 : ((x &&& (2147483647 : Int32)) % (Int32.ofNat d)).toInt < d := by rw [h1, hq']; exact Int.emod_lt_of_pos _ (by omega)
  refine ⟨((x &&& (2147483647 : Int32)) % (Int32.ofNat d)).toInt.toNat, ?_, by omega⟩
  apply Int32.toInt_inj.mp
  rw [toInt_of (n := Int32.ofNat ((x &&& (2147483647 : Int32)) % (Int32.ofNat d)).toInt.toNat) rfl (by omega)]
  omega
theorem own_ofNat_inj {a b : Nat} (ha : a < 100) (hb : b < 100) (h : Int32.ofNat a = Int32.ofNat b) : a = b := by
  have h1 : (Int32.ofNat a).toInt = (a : Int) := toInt_of rfl (by omega)
  have h2 : (Int32.ofNat b).toInt = (b : Int) := toInt_of rfl (by omega)
  rw [h] at h1
  omega
theorem own_nnL (x : Int64) : ¬ (x &&& (9223372036854775807 : Int64)) < (0 : Int64) := by
  have h := c_maskL x 9223372036854775807 63 (by decide) (by decide)
  have z0 : (0 : Int64).toInt = 0 := by decide
  rw [Int64.lt_iff_toInt_lt, h, z0]
  exact Int.not_lt.mpr (Int.emod_nonneg _ (by decide))
theorem own_irr (x : Int64) : ¬ x < x := by rw [Int64.lt_iff_toInt_lt]; omega
theorem d8_0 : decode jdk_30_method_1_code 0 = .ok (.aload_n 0, 1) := by decide +kernel
theorem d8_1 : decode jdk_30_method_1_code 1 = .ok (.invokespecial 1, 3) := by decide +kernel
theorem d8_4 : decode jdk_30_method_1_code 4 = .ok (.return_, 1) := by decide +kernel
theorem pn_8 : plainFor (⟨"java/lang/Record", "<init>", "()V"⟩ : MethodName) = true := plainFor_of_name (by first | (simp [plainName, overriddenIn]; done) | decide +kernel)
theorem ef_8 (m : MethodId) (a1 : Addr) : entryFrame m #[(.ref a1)] 1 = mkF m 0 #[.val (.ref a1)] [] := by first | (simp [entryFrame, mkF, argsToLocals, Value.category]; done) | rfl
set_option maxRecDepth 65536 in
set_option maxHeartbeats 40000000 in
theorem rm8 (l : Launch) (Z : State) (a0 : Array Value) (hw : ∀ d ∈ tables_1, d.before a0 Z = true) (ws : List Jvm.Cond) (a1 : Addr) (h0 : Heap) (n0 : Nat) (Z0 : n0 ≤ h0.size) :
    OwnCtr l Z (⟨"java/lang/Record", "<init>", "()V"⟩ : MethodName) ws jdk_30_method_1_code 1 none ({ frames := 1, cells := 0, slots := 0, locals := 12 } : Room) #[(.ref a1)] h0 (fun v h L => v = none ∧ Fr n0 L ∧ h = h0) := by
  refine own_body (g0 := fun m => mkF m 0 #[.val (.ref a1)] []) pn_8 (fun m => ef_8 m a1) ?_
  intro p e s m below meth c s₁ X0 hx hby hml hown hnm hZ e0 hret hlk
  have hml : c.maxLocals = 1 := hml
  have hown : s.vm.findClass "java/lang/Record" = some m.cls := hown
  have hnm : meth.name = "<init>" := hnm
  have hret : meth.sig.returnType = none := hret
  have N0 := Fr.nil n0
  show OwnFin p e below s _ _ _ (s₁.setTop (mkF m 0 #[.val (.ref a1)] []))
  refine own_go (fun t_ k_ => XS.aloadN X0.here hx rfl (hb hby d8_0) rfl rfl k_) ?_
  show OwnFin p e below s _ _ _ (s₁.setTop (mkF m 1 #[.val (.ref a1)] [(.ref a1)]))
  obtain ⟨T1, X1, e1, st1⟩ := initO X0 hx hZ hown (hw _ (List.mem_of_getElem? (i := 50) rfl)) (hw _ (List.mem_of_getElem? (i := 11) rfl)) (hw _ (List.mem_of_getElem? (i := 12) rfl)) e0 (g := (mkF m 1 #[.val (.ref a1)] [(.ref a1)])) rfl (by rw [hml]; rfl) rfl (hb hby d8_1) (by decide) (W := 0) (by show 2 * 0 + _ ≤ _; exact Nat.le_of_eq rfl) (by decide)
  refine own_go st1 ?_
  show OwnFin p e below s _ _ _ (T1.setTop (mkF m 4 #[.val (.ref a1)] []))
  refine own_ret X1 (v := none) hlk (fun _ => rfl) (fun fs hr => X1.returnOut hx hret (hb hby d8_4) hr) (by decide) (by decide) ?_
  rw [e1]
  exact ⟨rfl, N0, rfl⟩
theorem d2_0 : decode prog_38_method_1_code 0 = .ok (.aload_n 0, 1) := by decide +kernel
theorem d2_1 : decode prog_38_method_1_code 1 = .ok (.invokespecial 1, 3) := by decide +kernel
theorem d2_4 : decode prog_38_method_1_code 4 = .ok (.aload_n 0, 1) := by decide +kernel
theorem d2_5 : decode prog_38_method_1_code 5 = .ok (.aload_n 1, 1) := by decide +kernel
theorem d2_6 : decode prog_38_method_1_code 6 = .ok (.putfield 7, 3) := by decide +kernel
theorem d2_9 : decode prog_38_method_1_code 9 = .ok (.aload_n 0, 1) := by decide +kernel
theorem d2_10 : decode prog_38_method_1_code 10 = .ok (.aload_n 2, 1) := by decide +kernel
theorem d2_11 : decode prog_38_method_1_code 11 = .ok (.putfield 13, 3) := by decide +kernel
theorem d2_14 : decode prog_38_method_1_code 14 = .ok (.aload_n 0, 1) := by decide +kernel
theorem d2_15 : decode prog_38_method_1_code 15 = .ok (.aload_n 3, 1) := by decide +kernel
theorem d2_16 : decode prog_38_method_1_code 16 = .ok (.putfield 16, 3) := by decide +kernel
theorem d2_19 : decode prog_38_method_1_code 19 = .ok (.return_, 1) := by decide +kernel
theorem pn_2 : plainFor (⟨"com/example/thymus/thymus/Times", "<init>", "([J[J[J)V"⟩ : MethodName) = true := plainFor_of_name (by first | (simp [plainName, overriddenIn]; done) | decide +kernel)
theorem ef_2 (m : MethodId) (a1 : Addr) (a2 : Addr) (a3 : Addr) (a4 : Addr) : entryFrame m #[(.ref a1), (.ref a2), (.ref a3), (.ref a4)] 4 = mkF m 0 #[.val (.ref a1), .val (.ref a2), .val (.ref a3), .val (.ref a4)] [] := by first | (simp [entryFrame, mkF, argsToLocals, Value.category]; done) | rfl
set_option maxRecDepth 65536 in
set_option maxHeartbeats 40000000 in
theorem rm2 (l : Launch) (Z : State) (a0 : Array Value) (hw : ∀ d ∈ tables_1, d.before a0 Z = true) (ws : List Jvm.Cond) (a1 : Addr) (a2 : Addr) (a3 : Addr) (a4 : Addr) {u_low : Value} {u_mid : Value} {u_high : Value} (h0 : Heap) (n0 : Nat) (Z0 : n0 ≤ h0.size) (E_a1 : Exa Z h0 a1 "com/example/thymus/thymus/Times") (g_a1 : n0 ≤ a1) (F_low_a1 : Fld Z h0 a1 "com/example/thymus/thymus/Times" "low" "[J" u_low) (F_mid_a1 : Fld Z h0 a1 "com/example/thymus/thymus/Times" "mid" "[J" u_mid) (F_high_a1 : Fld Z h0 a1 "com/example/thymus/thymus/Times" "high" "[J" u_high) :
    OwnCtr l Z (⟨"com/example/thymus/thymus/Times", "<init>", "([J[J[J)V"⟩ : MethodName) ws prog_38_method_1_code 4 none ({ frames := 1, cells := 0, slots := 0, locals := 12 } : Room) #[(.ref a1), (.ref a2), (.ref a3), (.ref a4)] h0 (fun v h L => v = none ∧ Fr n0 L ∧ Keep h0 h [a1] ∧ Exa Z h a1 "com/example/thymus/thymus/Times" ∧ Fld Z h a1 "com/example/thymus/thymus/Times" "low" "[J" (.ref a2) ∧ Fld Z h a1 "com/example/thymus/thymus/Times" "mid" "[J" (.ref a3) ∧ Fld Z h a1 "com/example/thymus/thymus/Times" "high" "[J" (.ref a4)) := by
  refine own_body (g0 := fun m => mkF m 0 #[.val (.ref a1), .val (.ref a2), .val (.ref a3), .val (.ref a4)] []) pn_2 (fun m => ef_2 m a1 a2 a3 a4) ?_
  intro p e s m below meth c s₁ X0 hx hby hml hown hnm hZ e0 hret hlk
  have hml : c.maxLocals = 4 := hml
  have hown : s.vm.findClass "com/example/thymus/thymus/Times" = some m.cls := hown
  have hnm : meth.name = "<init>" := hnm
  have hret : meth.sig.returnType = none := hret
  have N0 := Fr.nil n0
  have K0 := Keep.refl h0 [a1]
  show OwnFin p e below s _ _ _ (s₁.setTop (mkF m 0 #[.val (.ref a1), .val (.ref a2), .val (.ref a3), .val (.ref a4)] []))
  refine own_go (fun t_ k_ => XS.aloadN X0.here hx rfl (hb hby d2_0) rfl rfl k_) ?_
  show OwnFin p e below s _ _ _ (s₁.setTop (mkF m 1 #[.val (.ref a1), .val (.ref a2), .val (.ref a3), .val (.ref a4)] [(.ref a1)]))
  obtain ⟨T1, X1, e1, st1⟩ := initO X0 hx hZ hown (hw _ (List.mem_of_getElem? (i := 10) rfl)) (hw _ (List.mem_of_getElem? (i := 11) rfl)) (hw _ (List.mem_of_getElem? (i := 12) rfl)) e0 (g := (mkF m 1 #[.val (.ref a1), .val (.ref a2), .val (.ref a3), .val (.ref a4)] [(.ref a1)])) rfl (by rw [hml]; rfl) rfl (hb hby d2_1) (by decide) (W := 0) (by show 2 * 0 + _ ≤ _; exact Nat.le_of_eq rfl) (by decide)
  refine own_go st1 ?_
  show OwnFin p e below s _ _ _ (T1.setTop (mkF m 4 #[.val (.ref a1), .val (.ref a2), .val (.ref a3), .val (.ref a4)] []))
  refine own_go (fun t_ k_ => XS.aloadN X1.here hx rfl (hb hby d2_4) rfl rfl k_) ?_
  show OwnFin p e below s _ _ _ (T1.setTop (mkF m 5 #[.val (.ref a1), .val (.ref a2), .val (.ref a3), .val (.ref a4)] [(.ref a1)]))
  refine own_go (fun t_ k_ => XS.aloadN X1.here hx rfl (hb hby d2_5) rfl rfl k_) ?_
  show OwnFin p e below s _ _ _ (T1.setTop (mkF m 6 #[.val (.ref a1), .val (.ref a2), .val (.ref a3), .val (.ref a4)] [(.ref a2), (.ref a1)]))
  obtain ⟨T2, h2, X2, e2, W2, st2⟩ := putF X1 hx hZ hown (host := "") (Or.inl (hw _ (List.mem_of_getElem? (i := 13) rfl))) Via.refl e1 F_low_a1 E_a1 (Or.inr ⟨(hw _ (List.mem_of_getElem? (i := 14) rfl)), rfl, hnm⟩) (hw _ (List.mem_of_getElem? (i := 6) rfl)) (ty := (.array .long)) (by decide) rfl rfl (g := (mkF m 6 #[.val (.ref a1), .val (.ref a2), .val (.ref a3), .val (.ref a4)] [(.ref a2), (.ref a1)])) rfl rfl (hb hby d2_6)
  have E_a1_2 := E_a1.wr W2
  have F_low_a1_2 := F_low_a1.same W2
  have F_mid_a1_2 := F_mid_a1.other W2 (Or.inr (slot_ne (Or.inr (hw _ (List.mem_of_getElem? (i := 16) rfl))) (Or.inr (hw _ (List.mem_of_getElem? (i := 14) rfl))) (by decide) (t := (.array .long)) (t' := (.array .long)) (by decide) (by decide)))
  have F_high_a1_2 := F_high_a1.other W2 (Or.inr (slot_ne (Or.inr (hw _ (List.mem_of_getElem? (i := 18) rfl))) (Or.inr (hw _ (List.mem_of_getElem? (i := 14) rfl))) (by decide) (t := (.array .long)) (t' := (.array .long)) (by decide) (by decide)))
  have Z2 : n0 ≤ h2.size := Nat.le_trans Z0 (Keep.of_wr W2).1
  have K2 : Keep h0 h2 [a1] := K0.wr W2 (Or.inl (List.mem_of_getElem? (i := 0) rfl))
  have N2 := Fr.snoc X2 N0 g_a1
  refine own_go st2 ?_
  show OwnFin p e below s _ _ _ (T2.setTop (mkF m 9 #[.val (.ref a1), .val (.ref a2), .val (.ref a3), .val (.ref a4)] []))
  refine own_go (fun t_ k_ => XS.aloadN X2.here hx rfl (hb hby d2_9) rfl rfl k_) ?_
  show OwnFin p e below s _ _ _ (T2.setTop (mkF m 10 #[.val (.ref a1), .val (.ref a2), .val (.ref a3), .val (.ref a4)] [(.ref a1)]))
  refine own_go (fun t_ k_ => XS.aloadN X2.here hx rfl (hb hby d2_10) rfl rfl k_) ?_
  show OwnFin p e below s _ _ _ (T2.setTop (mkF m 11 #[.val (.ref a1), .val (.ref a2), .val (.ref a3), .val (.ref a4)] [(.ref a3), (.ref a1)]))
  obtain ⟨T3, h3, X3, e3, W3, st3⟩ := putF X2 hx hZ hown (host := "") (Or.inl (hw _ (List.mem_of_getElem? (i := 15) rfl))) Via.refl e2 F_mid_a1_2 E_a1_2 (Or.inr ⟨(hw _ (List.mem_of_getElem? (i := 16) rfl)), rfl, hnm⟩) (hw _ (List.mem_of_getElem? (i := 6) rfl)) (ty := (.array .long)) (by decide) rfl rfl (g := (mkF m 11 #[.val (.ref a1), .val (.ref a2), .val (.ref a3), .val (.ref a4)] [(.ref a3), (.ref a1)])) rfl rfl (hb hby d2_11)
  have E_a1_3 := E_a1_2.wr W3
  have F_low_a1_3 := F_low_a1_2.other W3 (Or.inr (slot_ne (Or.inr (hw _ (List.mem_of_getElem? (i := 14) rfl))) (Or.inr (hw _ (List.mem_of_getElem? (i := 16) rfl))) (by decide) (t := (.array .long)) (t' := (.array .long)) (by decide) (by decide)))
  have F_mid_a1_3 := F_mid_a1_2.same W3
  have F_high_a1_3 := F_high_a1_2.other W3 (Or.inr (slot_ne (Or.inr (hw _ (List.mem_of_getElem? (i := 18) rfl))) (Or.inr (hw _ (List.mem_of_getElem? (i := 16) rfl))) (by decide) (t := (.array .long)) (t' := (.array .long)) (by decide) (by decide)))
  have Z3 : n0 ≤ h3.size := Nat.le_trans Z2 (Keep.of_wr W3).1
  have K3 : Keep h0 h3 [a1] := K2.wr W3 (Or.inl (List.mem_of_getElem? (i := 0) rfl))
  have N3 := Fr.snoc X3 N2 g_a1
  refine own_go st3 ?_
  show OwnFin p e below s _ _ _ (T3.setTop (mkF m 14 #[.val (.ref a1), .val (.ref a2), .val (.ref a3), .val (.ref a4)] []))
  refine own_go (fun t_ k_ => XS.aloadN X3.here hx rfl (hb hby d2_14) rfl rfl k_) ?_
  show OwnFin p e below s _ _ _ (T3.setTop (mkF m 15 #[.val (.ref a1), .val (.ref a2), .val (.ref a3), .val (.ref a4)] [(.ref a1)]))
  refine own_go (fun t_ k_ => XS.aloadN X3.here hx rfl (hb hby d2_15) rfl rfl k_) ?_
  show OwnFin p e below s _ _ _ (T3.setTop (mkF m 16 #[.val (.ref a1), .val (.ref a2), .val (.ref a3), .val (.ref a4)] [(.ref a4), (.ref a1)]))
  obtain ⟨T4, h4, X4, e4, W4, st4⟩ := putF X3 hx hZ hown (host := "") (Or.inl (hw _ (List.mem_of_getElem? (i := 17) rfl))) Via.refl e3 F_high_a1_3 E_a1_3 (Or.inr ⟨(hw _ (List.mem_of_getElem? (i := 18) rfl)), rfl, hnm⟩) (hw _ (List.mem_of_getElem? (i := 6) rfl)) (ty := (.array .long)) (by decide) rfl rfl (g := (mkF m 16 #[.val (.ref a1), .val (.ref a2), .val (.ref a3), .val (.ref a4)] [(.ref a4), (.ref a1)])) rfl rfl (hb hby d2_16)
  have E_a1_4 := E_a1_3.wr W4
  have F_low_a1_4 := F_low_a1_3.other W4 (Or.inr (slot_ne (Or.inr (hw _ (List.mem_of_getElem? (i := 14) rfl))) (Or.inr (hw _ (List.mem_of_getElem? (i := 18) rfl))) (by decide) (t := (.array .long)) (t' := (.array .long)) (by decide) (by decide)))
  have F_mid_a1_4 := F_mid_a1_3.other W4 (Or.inr (slot_ne (Or.inr (hw _ (List.mem_of_getElem? (i := 16) rfl))) (Or.inr (hw _ (List.mem_of_getElem? (i := 18) rfl))) (by decide) (t := (.array .long)) (t' := (.array .long)) (by decide) (by decide)))
  have F_high_a1_4 := F_high_a1_3.same W4
  have Z4 : n0 ≤ h4.size := Nat.le_trans Z3 (Keep.of_wr W4).1
  have K4 : Keep h0 h4 [a1] := K3.wr W4 (Or.inl (List.mem_of_getElem? (i := 0) rfl))
  have N4 := Fr.snoc X4 N3 g_a1
  refine own_go st4 ?_
  show OwnFin p e below s _ _ _ (T4.setTop (mkF m 19 #[.val (.ref a1), .val (.ref a2), .val (.ref a3), .val (.ref a4)] []))
  refine own_ret X4 (v := none) hlk (fun _ => rfl) (fun fs hr => X4.returnOut hx hret (hb hby d2_19) hr) (by decide) (by decide) ?_
  rw [e4]
  exact ⟨rfl, N4, K4, E_a1_4, F_low_a1_4, F_mid_a1_4, F_high_a1_4⟩
theorem d7_0 : decode prog_12_method_1_code 0 = .ok (.aload_n 0, 1) := by decide +kernel
theorem d7_1 : decode prog_12_method_1_code 1 = .ok (.invokespecial 1, 3) := by decide +kernel
theorem d7_4 : decode prog_12_method_1_code 4 = .ok (.lload_n 1, 1) := by decide +kernel
theorem d7_5 : decode prog_12_method_1_code 5 = .ok (.lconst 0, 1) := by decide +kernel
theorem d7_6 : decode prog_12_method_1_code 6 = .ok (.lcmp, 1) := by decide +kernel
theorem d7_7 : decode prog_12_method_1_code 7 = .ok (.ifCond .lt 16, 3) := by decide +kernel
theorem d7_10 : decode prog_12_method_1_code 10 = .ok (.lload_n 1, 1) := by decide +kernel
theorem d7_11 : decode prog_12_method_1_code 11 = .ok (.lload_n 3, 1) := by decide +kernel
theorem d7_12 : decode prog_12_method_1_code 12 = .ok (.lcmp, 1) := by decide +kernel
theorem d7_13 : decode prog_12_method_1_code 13 = .ok (.ifCond .gt 10, 3) := by decide +kernel
theorem d7_16 : decode prog_12_method_1_code 16 = .ok (.lload_n 3, 1) := by decide +kernel
theorem d7_17 : decode prog_12_method_1_code 17 = .ok (.lload 5, 2) := by decide +kernel
theorem d7_19 : decode prog_12_method_1_code 19 = .ok (.lcmp, 1) := by decide +kernel
theorem d7_20 : decode prog_12_method_1_code 20 = .ok (.ifCond .le 20, 3) := by decide +kernel
theorem d7_40 : decode prog_12_method_1_code 40 = .ok (.aload_n 0, 1) := by decide +kernel
theorem d7_41 : decode prog_12_method_1_code 41 = .ok (.lload_n 1, 1) := by decide +kernel
theorem d7_42 : decode prog_12_method_1_code 42 = .ok (.putfield 16, 3) := by decide +kernel
theorem d7_45 : decode prog_12_method_1_code 45 = .ok (.aload_n 0, 1) := by decide +kernel
theorem d7_46 : decode prog_12_method_1_code 46 = .ok (.lload_n 3, 1) := by decide +kernel
theorem d7_47 : decode prog_12_method_1_code 47 = .ok (.putfield 22, 3) := by decide +kernel
theorem d7_50 : decode prog_12_method_1_code 50 = .ok (.aload_n 0, 1) := by decide +kernel
theorem d7_51 : decode prog_12_method_1_code 51 = .ok (.lload 5, 2) := by decide +kernel
theorem d7_53 : decode prog_12_method_1_code 53 = .ok (.putfield 25, 3) := by decide +kernel
theorem d7_56 : decode prog_12_method_1_code 56 = .ok (.return_, 1) := by decide +kernel
theorem pn_7 : plainFor (⟨"com/example/thymus/thymus/FuzzyTime", "<init>", "(JJJ)V"⟩ : MethodName) = true := plainFor_of_name (by first | (simp [plainName, overriddenIn]; done) | decide +kernel)
theorem pd_7_2 : parseMethodDescriptor "()V" = some ⟨[], none⟩ := by decide +kernel
theorem ef_7 (m : MethodId) (a1 : Addr) (q2 : Int64) (q3 : Int64) (q4 : Int64) : entryFrame m #[(.ref a1), (.long q2), (.long q3), (.long q4)] 7 = mkF m 0 #[.val (.ref a1), .val (.long q2), .second, .val (.long q3), .second, .val (.long q4), .second] [] := by first | (simp [entryFrame, mkF, argsToLocals, Value.category]; done) | rfl
set_option maxRecDepth 65536 in
set_option maxHeartbeats 40000000 in
theorem rm7 (l : Launch) (Z : State) (a0 : Array Value) (hw : ∀ d ∈ tables_1, d.before a0 Z = true) (ws : List Jvm.Cond) (a1 : Addr) (q2 : Int64) (q3 : Int64) (q4 : Int64) {u_a : Value} {u_b : Value} {u_c : Value} (h0 : Heap) (n0 : Nat) (Z0 : n0 ≤ h0.size) (E_a1 : Exa Z h0 a1 "com/example/thymus/thymus/FuzzyTime") (g_a1 : n0 ≤ a1) (F_a_a1 : Fld Z h0 a1 "com/example/thymus/thymus/FuzzyTime" "a" "J" u_a) (F_b_a1 : Fld Z h0 a1 "com/example/thymus/thymus/FuzzyTime" "b" "J" u_b) (F_c_a1 : Fld Z h0 a1 "com/example/thymus/thymus/FuzzyTime" "c" "J" u_c) (h1 : ¬ (q2 < (0 : Int64))) (h2 : ¬ (q3 < q2)) (h3 : ¬ (q4 < q3)) :
    OwnCtr l Z (⟨"com/example/thymus/thymus/FuzzyTime", "<init>", "(JJJ)V"⟩ : MethodName) ws prog_12_method_1_code 7 none ({ frames := 2, cells := 0, slots := 0, locals := 24 } : Room) #[(.ref a1), (.long q2), (.long q3), (.long q4)] h0 (fun v h L => v = none ∧ Fr n0 L ∧ Keep h0 h [a1] ∧ Exa Z h a1 "com/example/thymus/thymus/FuzzyTime" ∧ Fld Z h a1 "com/example/thymus/thymus/FuzzyTime" "a" "J" (.long q2) ∧ Fld Z h a1 "com/example/thymus/thymus/FuzzyTime" "b" "J" (.long q3) ∧ Fld Z h a1 "com/example/thymus/thymus/FuzzyTime" "c" "J" (.long q4)) := by
  refine own_body (g0 := fun m => mkF m 0 #[.val (.ref a1), .val (.long q2), .second, .val (.long q3), .second, .val (.long q4), .second] []) pn_7 (fun m => ef_7 m a1 q2 q3 q4) ?_
  intro p e s m below meth c s₁ X0 hx hby hml hown hnm hZ e0 hret hlk
  have hml : c.maxLocals = 7 := hml
  have hown : s.vm.findClass "com/example/thymus/thymus/FuzzyTime" = some m.cls := hown
  have hnm : meth.name = "<init>" := hnm
  have hret : meth.sig.returnType = none := hret
  have N0 := Fr.nil n0
  have K0 := Keep.refl h0 [a1]
  show OwnFin p e below s _ _ _ (s₁.setTop (mkF m 0 #[.val (.ref a1), .val (.long q2), .second, .val (.long q3), .second, .val (.long q4), .second] []))
  refine own_go (fun t_ k_ => XS.aloadN X0.here hx rfl (hb hby d7_0) rfl rfl k_) ?_
  show OwnFin p e below s _ _ _ (s₁.setTop (mkF m 1 #[.val (.ref a1), .val (.long q2), .second, .val (.long q3), .second, .val (.long q4), .second] [(.ref a1)]))
  obtain ⟨v1, T1, L1, X1, hQ1, st1⟩ := own_callI X0 hx hZ (y := (⟨"java/lang/Record", "<init>", "()V"⟩ : MethodName)) rfl hown (hw _ (List.mem_of_getElem? (i := 45) rfl)) (hw _ (List.mem_of_getElem? (i := 46) rfl)) (hw _ (List.mem_of_getElem? (i := 48) rfl)) (hw _ (List.mem_of_getElem? (i := 49) rfl)) (by decide) (W := 0) (rm8 l Z a0 hw [] a1 h0 n0 Z0) (by decide) (by decide) (g := (mkF m 1 #[.val (.ref a1), .val (.long q2), .second, .val (.long q3), .second, .val (.long q4), .second] [(.ref a1)])) rfl (by rw [hml]; rfl) (a := a1) (argsL := []) (rest := []) (lenOf pd_7_2 rfl) rfl (by show 2 * 0 + _ ≤ _; exact Nat.le_of_eq rfl) (hb hby d7_1) e0 rfl (by decide) (by decide)
  obtain ⟨rfl, Nq1, e1⟩ := hQ1
  have N1 := Fr.app N0 Nq1
  refine own_go st1 ?_
  show OwnFin p e below s _ _ _ (T1.setTop (mkF m 4 #[.val (.ref a1), .val (.long q2), .second, .val (.long q3), .second, .val (.long q4), .second] []))
  refine own_go (fun t_ k_ => XS.lloadN X1.here hx rfl (hb hby d7_4) rfl k_) ?_
  show OwnFin p e below s _ _ _ (T1.setTop (mkF m 5 #[.val (.ref a1), .val (.long q2), .second, .val (.long q3), .second, .val (.long q4), .second] [(.long q2)]))
  refine own_go (fun t_ k_ => XS.lconst X1.here hx rfl (hb hby d7_5) k_) ?_
  show OwnFin p e below s _ _ _ (T1.setTop (mkF m 6 #[.val (.ref a1), .val (.long q2), .second, .val (.long q3), .second, .val (.long q4), .second] [(.long (0 : Int64)), (.long q2)]))
  refine own_go (fun t_ k_ => XS.lcmp X1.here hx rfl (hb hby d7_6) rfl k_) ?_
  show OwnFin p e below s _ _ _ (T1.setTop (mkF m 7 #[.val (.ref a1), .val (.long q2), .second, .val (.long q3), .second, .val (.long q4), .second] [(.int (lcmpW q2 (0 : Int64)))]))
  have hc7 : ¬ (q2 < (0 : Int64)) := h1
  refine own_go (fun t_ k_ => XS.ifNo X1.here hx rfl (hb hby d7_7) rfl ((if0 _ _).trans (flt (mt (lw_lt q2 (0 : Int64)).mp hc7)).1) k_) ?_
  show OwnFin p e below s _ _ _ (T1.setTop (mkF m 10 #[.val (.ref a1), .val (.long q2), .second, .val (.long q3), .second, .val (.long q4), .second] []))
  refine own_go (fun t_ k_ => XS.lloadN X1.here hx rfl (hb hby d7_10) rfl k_) ?_
  show OwnFin p e below s _ _ _ (T1.setTop (mkF m 11 #[.val (.ref a1), .val (.long q2), .second, .val (.long q3), .second, .val (.long q4), .second] [(.long q2)]))
  refine own_go (fun t_ k_ => XS.lloadN X1.here hx rfl (hb hby d7_11) rfl k_) ?_
  show OwnFin p e below s _ _ _ (T1.setTop (mkF m 12 #[.val (.ref a1), .val (.long q2), .second, .val (.long q3), .second, .val (.long q4), .second] [(.long q3), (.long q2)]))
  refine own_go (fun t_ k_ => XS.lcmp X1.here hx rfl (hb hby d7_12) rfl k_) ?_
  show OwnFin p e below s _ _ _ (T1.setTop (mkF m 13 #[.val (.ref a1), .val (.long q2), .second, .val (.long q3), .second, .val (.long q4), .second] [(.int (lcmpW q2 q3))]))
  have hc13 : ¬ (q3 < q2) := h2
  refine own_go (fun t_ k_ => XS.ifNo X1.here hx rfl (hb hby d7_13) rfl ((if0 _ _).trans (flt (mt (lw_gt q2 q3).mp hc13)).2.2.1) k_) ?_
  show OwnFin p e below s _ _ _ (T1.setTop (mkF m 16 #[.val (.ref a1), .val (.long q2), .second, .val (.long q3), .second, .val (.long q4), .second] []))
  refine own_go (fun t_ k_ => XS.lloadN X1.here hx rfl (hb hby d7_16) rfl k_) ?_
  show OwnFin p e below s _ _ _ (T1.setTop (mkF m 17 #[.val (.ref a1), .val (.long q2), .second, .val (.long q3), .second, .val (.long q4), .second] [(.long q3)]))
  refine own_go (fun t_ k_ => XS.lload X1.here hx rfl (hb hby d7_17) rfl k_) ?_
  show OwnFin p e below s _ _ _ (T1.setTop (mkF m 19 #[.val (.ref a1), .val (.long q2), .second, .val (.long q3), .second, .val (.long q4), .second] [(.long q4), (.long q3)]))
  refine own_go (fun t_ k_ => XS.lcmp X1.here hx rfl (hb hby d7_19) rfl k_) ?_
  show OwnFin p e below s _ _ _ (T1.setTop (mkF m 20 #[.val (.ref a1), .val (.long q2), .second, .val (.long q3), .second, .val (.long q4), .second] [(.int (lcmpW q3 q4))]))
  have hc20 : ¬ (q4 < q3) := h3
  refine own_go (fun t_ k_ => XS.ifYes X1.here hx rfl (pc0 := 20) (pc' := 40) rfl (hb hby d7_20) rfl ((if0 _ _).trans (flt (mt (lw_gt q3 q4).mp hc20)).2.2.2) (by decide) (by decide) k_) ?_
  show OwnFin p e below s _ _ _ (T1.setTop (mkF m 40 #[.val (.ref a1), .val (.long q2), .second, .val (.long q3), .second, .val (.long q4), .second] []))
  refine own_go (fun t_ k_ => XS.aloadN X1.here hx rfl (hb hby d7_40) rfl rfl k_) ?_
  show OwnFin p e below s _ _ _ (T1.setTop (mkF m 41 #[.val (.ref a1), .val (.long q2), .second, .val (.long q3), .second, .val (.long q4), .second] [(.ref a1)]))
  refine own_go (fun t_ k_ => XS.lloadN X1.here hx rfl (hb hby d7_41) rfl k_) ?_
  show OwnFin p e below s _ _ _ (T1.setTop (mkF m 42 #[.val (.ref a1), .val (.long q2), .second, .val (.long q3), .second, .val (.long q4), .second] [(.long q2), (.ref a1)]))
  obtain ⟨T2, h2, X2, e2, W2, st2⟩ := putF X1 hx hZ hown (host := "") (Or.inl (hw _ (List.mem_of_getElem? (i := 51) rfl))) Via.refl e1 F_a_a1 E_a1 (Or.inr ⟨(hw _ (List.mem_of_getElem? (i := 52) rfl)), rfl, hnm⟩) (hw _ (List.mem_of_getElem? (i := 40) rfl)) (ty := .long) (by decide) rfl rfl (g := (mkF m 42 #[.val (.ref a1), .val (.long q2), .second, .val (.long q3), .second, .val (.long q4), .second] [(.long q2), (.ref a1)])) rfl rfl (hb hby d7_42)
  have E_a1_2 := E_a1.wr W2
  have F_a_a1_2 := F_a_a1.same W2
  have F_b_a1_2 := F_b_a1.other W2 (Or.inr (slot_ne (Or.inr (hw _ (List.mem_of_getElem? (i := 54) rfl))) (Or.inr (hw _ (List.mem_of_getElem? (i := 52) rfl))) (by decide) (t := .long) (t' := .long) (by decide) (by decide)))
  have F_c_a1_2 := F_c_a1.other W2 (Or.inr (slot_ne (Or.inr (hw _ (List.mem_of_getElem? (i := 56) rfl))) (Or.inr (hw _ (List.mem_of_getElem? (i := 52) rfl))) (by decide) (t := .long) (t' := .long) (by decide) (by decide)))
  have Z2 : n0 ≤ h2.size := Nat.le_trans Z0 (Keep.of_wr W2).1
  have K2 : Keep h0 h2 [a1] := K0.wr W2 (Or.inl (List.mem_of_getElem? (i := 0) rfl))
  have N2 := Fr.snoc X2 N1 g_a1
  refine own_go st2 ?_
  show OwnFin p e below s _ _ _ (T2.setTop (mkF m 45 #[.val (.ref a1), .val (.long q2), .second, .val (.long q3), .second, .val (.long q4), .second] []))
  refine own_go (fun t_ k_ => XS.aloadN X2.here hx rfl (hb hby d7_45) rfl rfl k_) ?_
  show OwnFin p e below s _ _ _ (T2.setTop (mkF m 46 #[.val (.ref a1), .val (.long q2), .second, .val (.long q3), .second, .val (.long q4), .second] [(.ref a1)]))
  refine own_go (fun t_ k_ => XS.lloadN X2.here hx rfl (hb hby d7_46) rfl k_) ?_
  show OwnFin p e below s _ _ _ (T2.setTop (mkF m 47 #[.val (.ref a1), .val (.long q2), .second, .val (.long q3), .second, .val (.long q4), .second] [(.long q3), (.ref a1)]))
  obtain ⟨T3, h3, X3, e3, W3, st3⟩ := putF X2 hx hZ hown (host := "") (Or.inl (hw _ (List.mem_of_getElem? (i := 53) rfl))) Via.refl e2 F_b_a1_2 E_a1_2 (Or.inr ⟨(hw _ (List.mem_of_getElem? (i := 54) rfl)), rfl, hnm⟩) (hw _ (List.mem_of_getElem? (i := 40) rfl)) (ty := .long) (by decide) rfl rfl (g := (mkF m 47 #[.val (.ref a1), .val (.long q2), .second, .val (.long q3), .second, .val (.long q4), .second] [(.long q3), (.ref a1)])) rfl rfl (hb hby d7_47)
  have E_a1_3 := E_a1_2.wr W3
  have F_a_a1_3 := F_a_a1_2.other W3 (Or.inr (slot_ne (Or.inr (hw _ (List.mem_of_getElem? (i := 52) rfl))) (Or.inr (hw _ (List.mem_of_getElem? (i := 54) rfl))) (by decide) (t := .long) (t' := .long) (by decide) (by decide)))
  have F_b_a1_3 := F_b_a1_2.same W3
  have F_c_a1_3 := F_c_a1_2.other W3 (Or.inr (slot_ne (Or.inr (hw _ (List.mem_of_getElem? (i := 56) rfl))) (Or.inr (hw _ (List.mem_of_getElem? (i := 54) rfl))) (by decide) (t := .long) (t' := .long) (by decide) (by decide)))
  have Z3 : n0 ≤ h3.size := Nat.le_trans Z2 (Keep.of_wr W3).1
  have K3 : Keep h0 h3 [a1] := K2.wr W3 (Or.inl (List.mem_of_getElem? (i := 0) rfl))
  have N3 := Fr.snoc X3 N2 g_a1
  refine own_go st3 ?_
  show OwnFin p e below s _ _ _ (T3.setTop (mkF m 50 #[.val (.ref a1), .val (.long q2), .second, .val (.long q3), .second, .val (.long q4), .second] []))
  refine own_go (fun t_ k_ => XS.aloadN X3.here hx rfl (hb hby d7_50) rfl rfl k_) ?_
  show OwnFin p e below s _ _ _ (T3.setTop (mkF m 51 #[.val (.ref a1), .val (.long q2), .second, .val (.long q3), .second, .val (.long q4), .second] [(.ref a1)]))
  refine own_go (fun t_ k_ => XS.lload X3.here hx rfl (hb hby d7_51) rfl k_) ?_
  show OwnFin p e below s _ _ _ (T3.setTop (mkF m 53 #[.val (.ref a1), .val (.long q2), .second, .val (.long q3), .second, .val (.long q4), .second] [(.long q4), (.ref a1)]))
  obtain ⟨T4, h4, X4, e4, W4, st4⟩ := putF X3 hx hZ hown (host := "") (Or.inl (hw _ (List.mem_of_getElem? (i := 55) rfl))) Via.refl e3 F_c_a1_3 E_a1_3 (Or.inr ⟨(hw _ (List.mem_of_getElem? (i := 56) rfl)), rfl, hnm⟩) (hw _ (List.mem_of_getElem? (i := 40) rfl)) (ty := .long) (by decide) rfl rfl (g := (mkF m 53 #[.val (.ref a1), .val (.long q2), .second, .val (.long q3), .second, .val (.long q4), .second] [(.long q4), (.ref a1)])) rfl rfl (hb hby d7_53)
  have E_a1_4 := E_a1_3.wr W4
  have F_a_a1_4 := F_a_a1_3.other W4 (Or.inr (slot_ne (Or.inr (hw _ (List.mem_of_getElem? (i := 52) rfl))) (Or.inr (hw _ (List.mem_of_getElem? (i := 56) rfl))) (by decide) (t := .long) (t' := .long) (by decide) (by decide)))
  have F_b_a1_4 := F_b_a1_3.other W4 (Or.inr (slot_ne (Or.inr (hw _ (List.mem_of_getElem? (i := 54) rfl))) (Or.inr (hw _ (List.mem_of_getElem? (i := 56) rfl))) (by decide) (t := .long) (t' := .long) (by decide) (by decide)))
  have F_c_a1_4 := F_c_a1_3.same W4
  have Z4 : n0 ≤ h4.size := Nat.le_trans Z3 (Keep.of_wr W4).1
  have K4 : Keep h0 h4 [a1] := K3.wr W4 (Or.inl (List.mem_of_getElem? (i := 0) rfl))
  have N4 := Fr.snoc X4 N3 g_a1
  refine own_go st4 ?_
  show OwnFin p e below s _ _ _ (T4.setTop (mkF m 56 #[.val (.ref a1), .val (.long q2), .second, .val (.long q3), .second, .val (.long q4), .second] []))
  refine own_ret X4 (v := none) hlk (fun _ => rfl) (fun fs hr => X4.returnOut hx hret (hb hby d7_56) hr) (by decide) (by decide) ?_
  rw [e4]
  exact ⟨rfl, N4, K4, E_a1_4, F_a_a1_4, F_b_a1_4, F_c_a1_4⟩
theorem d1_0 : decode prog_38_method_2_code 0 = .ok (.iload_n 0, 1) := by decide +kernel
theorem d1_1 : decode prog_38_method_2_code 1 = .ok (.newarray .long, 2) := by decide +kernel
theorem d1_3 : decode prog_38_method_2_code 3 = .ok (.astore_n 1, 1) := by decide +kernel
theorem d1_4 : decode prog_38_method_2_code 4 = .ok (.new 8, 3) := by decide +kernel
theorem d1_7 : decode prog_38_method_2_code 7 = .ok (.dup, 1) := by decide +kernel
theorem d1_8 : decode prog_38_method_2_code 8 = .ok (.aload_n 1, 1) := by decide +kernel
theorem d1_9 : decode prog_38_method_2_code 9 = .ok (.aload_n 1, 1) := by decide +kernel
theorem d1_10 : decode prog_38_method_2_code 10 = .ok (.aload_n 1, 1) := by decide +kernel
theorem d1_11 : decode prog_38_method_2_code 11 = .ok (.invokespecial 19, 3) := by decide +kernel
theorem d1_14 : decode prog_38_method_2_code 14 = .ok (.areturn, 1) := by decide +kernel
theorem pn_1 : plainFor (⟨"com/example/thymus/thymus/Times", "crisp", "(I)Lcom/example/thymus/thymus/Times;"⟩ : MethodName) = true := plainFor_of_name (by first | (simp [plainName, overriddenIn]; done) | decide +kernel)
theorem pd_1_1 : parseMethodDescriptor "([J[J[J)V" = some ⟨[(.array .long), (.array .long), (.array .long)], none⟩ := by decide +kernel
theorem ef_1 (m : MethodId) (pk : Int32) : entryFrame m #[(.int pk)] 2 = mkF m 0 #[.val (.int pk), .unset] [] := by first | (simp [entryFrame, mkF, argsToLocals, Value.category]; done) | rfl
set_option maxRecDepth 65536 in
set_option maxHeartbeats 40000000 in
theorem rm1 (l : Launch) (Z : State) (a0 : Array Value) (hw : ∀ d ∈ tables_1, d.before a0 Z = true) (ws : List Jvm.Cond) (pk : Int32) (k : Nat) (h0 : Heap) (n0 : Nat) (Z0 : n0 ≤ h0.size) (hk : pk = Int32.ofNat k) (hk7 : k ≤ 7) :
    OwnCtr l Z (⟨"com/example/thymus/thymus/Times", "crisp", "(I)Lcom/example/thymus/thymus/Times;"⟩ : MethodName) ws prog_38_method_2_code 2 (some (.object "com/example/thymus/thymus/Times")) ({ frames := 2, cells := 2, slots := 10, locals := 28 } : Room) #[(.int pk)] h0 (fun v h L => ∃ b d : Addr, v = some (.ref b) ∧ Fr n0 L ∧ Keep h0 h [] ∧ h0.size ≤ b ∧ h0.size ≤ d ∧ b ≠ d ∧ Exa Z h b "com/example/thymus/thymus/Times" ∧ Fld Z h b "com/example/thymus/thymus/Times" "low" "[J" (.ref d) ∧ Fld Z h b "com/example/thymus/thymus/Times" "mid" "[J" (.ref d) ∧ Fld Z h b "com/example/thymus/thymus/Times" "high" "[J" (.ref d) ∧ OwnArr Z h d .long k (fun _ => .long 0)) := by
  refine own_body (g0 := fun m => mkF m 0 #[.val (.int pk), .unset] []) pn_1 (fun m => ef_1 m pk) ?_
  intro p e s m below meth c s₁ X0 hx hby hml hown hnm hZ e0 hret hlk
  have hml : c.maxLocals = 2 := hml
  have hown : s.vm.findClass "com/example/thymus/thymus/Times" = some m.cls := hown
  have hnm : meth.name = "crisp" := hnm
  have hret : meth.sig.returnType = (some (.object "com/example/thymus/thymus/Times")) := hret
  have N0 := Fr.nil n0
  have K0 := Keep.refl h0 []
  show OwnFin p e below s _ _ _ (s₁.setTop (mkF m 0 #[.val (.int pk), .unset] []))
  refine own_go (fun t_ k_ => XS.iloadN X0.here hx rfl (hb hby d1_0) rfl k_) ?_
  show OwnFin p e below s _ _ _ (s₁.setTop (mkF m 1 #[.val (.int pk), .unset] [(.int pk)]))
  obtain ⟨T1, h1, X1, e1, E1, A1, st1⟩ := own_newarr X0 hx hZ (hw _ (List.mem_of_getElem? (i := 4) rfl)) e0 (g := (mkF m 1 #[.val (.int pk), .unset] [(.int pk)])) rfl (hb hby d1_1) rfl (n := k) (cap := 7) hk hk7 (by decide) (by decide) (by decide)
  obtain ⟨b1, g1⟩ : ∃ z, z = h0.size := ⟨_, rfl⟩
  rw [← g1] at A1 st1
  have g_b1 : n0 ≤ b1 := Nat.le_trans Z0 (Nat.le_of_eq g1.symm)
  have sz_b1 : h0.size ≤ b1 := Nat.le_trans K0.1 (Nat.le_of_eq g1.symm)
  have Z1 : n0 ≤ h1.size := Nat.le_trans Z0 E1.1
  have K1 : Keep h0 h1 [] := K0.ext E1
  have V_b1 : OwnArr Z h1 b1 .long k (fun _ => (.long (0 : Int64))) := A1
  refine own_go st1 ?_
  show OwnFin p e below s _ _ _ (T1.setTop (mkF m 3 #[.val (.int pk), .unset] [(.ref b1)]))
  refine own_go (fun t_ k_ => XS.astoreN X1.here hx rfl (hb hby d1_3) rfl rfl (l' := #[.val (.int pk), .val (.ref b1)]) rfl k_) ?_
  show OwnFin p e below s _ _ _ (T1.setTop (mkF m 4 #[.val (.int pk), .val (.ref b1)] []))
  obtain ⟨T2, h2, X2, e2, E2, A2, D2, -, st2⟩ := newO X1 hx hZ hown (hw _ (List.mem_of_getElem? (i := 5) rfl)) (hw _ (List.mem_of_getElem? (i := 6) rfl)) (hw _ (List.mem_of_getElem? (i := 2) rfl)) e1 (g := (mkF m 4 #[.val (.int pk), .val (.ref b1)] [])) rfl (hb hby d1_4) (by decide) (by decide)
  obtain ⟨b2, g2⟩ : ∃ z, z = h1.size := ⟨_, rfl⟩
  rw [← g2] at A2 D2 st2
  have g_b2 : n0 ≤ b2 := Nat.le_trans Z1 (Nat.le_of_eq g2.symm)
  have sz_b2 : h0.size ≤ b2 := Nat.le_trans K1.1 (Nat.le_of_eq g2.symm)
  have ne_b1_b2 : b1 ≠ b2 := Nat.ne_of_lt (Nat.lt_of_lt_of_le V_b1.lt (Nat.le_of_eq g2.symm))
  have V_b1_2 := V_b1.ext E2
  have Z2 : n0 ≤ h2.size := Nat.le_trans Z1 E2.1
  have K2 : Keep h0 h2 [] := K1.ext E2
  have E_b2 := A2
  have F_low_b2 : Fld Z h2 b2 "com/example/thymus/thymus/Times" "low" "[J" .null := D2 (Or.inr (hw _ (List.mem_of_getElem? (i := 14) rfl))) (ty := (.array .long)) (by decide)
  have F_mid_b2 : Fld Z h2 b2 "com/example/thymus/thymus/Times" "mid" "[J" .null := D2 (Or.inr (hw _ (List.mem_of_getElem? (i := 16) rfl))) (ty := (.array .long)) (by decide)
  have F_high_b2 : Fld Z h2 b2 "com/example/thymus/thymus/Times" "high" "[J" .null := D2 (Or.inr (hw _ (List.mem_of_getElem? (i := 18) rfl))) (ty := (.array .long)) (by decide)
  refine own_go st2 ?_
  show OwnFin p e below s _ _ _ (T2.setTop (mkF m 7 #[.val (.int pk), .val (.ref b1)] [(.ref b2)]))
  refine own_go (fun t_ k_ => XS.dup X2.here hx rfl (hb hby d1_7) rfl rfl k_) ?_
  show OwnFin p e below s _ _ _ (T2.setTop (mkF m 8 #[.val (.int pk), .val (.ref b1)] [(.ref b2), (.ref b2)]))
  refine own_go (fun t_ k_ => XS.aloadN X2.here hx rfl (hb hby d1_8) rfl rfl k_) ?_
  show OwnFin p e below s _ _ _ (T2.setTop (mkF m 9 #[.val (.int pk), .val (.ref b1)] [(.ref b1), (.ref b2), (.ref b2)]))
  refine own_go (fun t_ k_ => XS.aloadN X2.here hx rfl (hb hby d1_9) rfl rfl k_) ?_
  show OwnFin p e below s _ _ _ (T2.setTop (mkF m 10 #[.val (.int pk), .val (.ref b1)] [(.ref b1), (.ref b1), (.ref b2), (.ref b2)]))
  refine own_go (fun t_ k_ => XS.aloadN X2.here hx rfl (hb hby d1_10) rfl rfl k_) ?_
  show OwnFin p e below s _ _ _ (T2.setTop (mkF m 11 #[.val (.int pk), .val (.ref b1)] [(.ref b1), (.ref b1), (.ref b1), (.ref b2), (.ref b2)]))
  obtain ⟨v3, T3, L3, X3, hQ3, st3⟩ := own_callI X2 hx hZ (y := (⟨"com/example/thymus/thymus/Times", "<init>", "([J[J[J)V"⟩ : MethodName)) rfl hown (hw _ (List.mem_of_getElem? (i := 7) rfl)) (hw _ (List.mem_of_getElem? (i := 8) rfl)) (hw _ (List.mem_of_getElem? (i := 2) rfl)) (hw _ (List.mem_of_getElem? (i := 9) rfl)) (by decide) (W := 1) (rm2 l Z a0 hw [] b2 b1 b1 b1 h2 n0 Z2 E_b2 g_b2 F_low_b2 F_mid_b2 F_high_b2) (by decide) (by decide) (g := (mkF m 11 #[.val (.int pk), .val (.ref b1)] [(.ref b1), (.ref b1), (.ref b1), (.ref b2), (.ref b2)])) rfl (by rw [hml]; rfl) (a := b2) (argsL := [(.ref b1), (.ref b1), (.ref b1)]) (rest := [(.ref b2)]) (lenOf pd_1_1 rfl) rfl (by show 2 * 0 + _ ≤ _; exact Nat.le_of_eq rfl) (hb hby d1_11) e2 rfl (by decide) (by decide)
  obtain ⟨rfl, Nq3, Kq3, Eq3, Fq3_0, Fq3_1, Fq3_2⟩ := hQ3
  have N3 := Fr.app N0 Nq3
  have V_b1_3 := V_b1_2.keep Kq3 (ninS ne_b1_b2 nin0)
  have E_b2_3 := E_b2.keep Kq3
  have Z3 : n0 ≤ T3.heap.size := Nat.le_trans Z2 Kq3.1
  have K3 : Keep h0 T3.heap [] := K2.trans Kq3 (allS (Or.inr sz_b2) all0)
  refine own_go st3 ?_
  show OwnFin p e below s _ _ _ (T3.setTop (mkF m 14 #[.val (.int pk), .val (.ref b1)] [(.ref b2)]))
  refine own_ret X3 (v := some (.ref b2)) hlk (fun hh => by rw [hret] at hh; cases hh) (fun fs hr => own_retR X3 hx hret rfl rfl (hb hby d1_14) hr) (by decide) (by decide) ?_
  exact ⟨b2, b1, rfl, N3, K3, sz_b2, sz_b1, (Ne.symm ne_b1_b2), Eq3, Fq3_0, Fq3_1, Fq3_2, V_b1_3⟩
theorem d4_0 : decode prog_38_method_5_code 0 = .ok (.aload_n 0, 1) := by decide +kernel
theorem d4_1 : decode prog_38_method_5_code 1 = .ok (.getfield 7, 3) := by decide +kernel
theorem d4_4 : decode prog_38_method_5_code 4 = .ok (.aload_n 0, 1) := by decide +kernel
theorem d4_5 : decode prog_38_method_5_code 5 = .ok (.getfield 13, 3) := by decide +kernel
theorem d4_8 : decode prog_38_method_5_code 8 = .ok (.if_acmp .eq 7, 3) := by decide +kernel
theorem d4_15 : decode prog_38_method_5_code 15 = .ok (.iconst 0, 1) := by decide +kernel
theorem d4_16 : decode prog_38_method_5_code 16 = .ok (.ireturn, 1) := by decide +kernel
theorem pn_4 : plainFor (⟨"com/example/thymus/thymus/Times", "isFuzzy", "()Z"⟩ : MethodName) = true := plainFor_of_name (by first | (simp [plainName, overriddenIn]; done) | decide +kernel)
theorem ef_4 (m : MethodId) (tm : Addr) : entryFrame m #[(.ref tm)] 1 = mkF m 0 #[.val (.ref tm)] [] := by first | (simp [entryFrame, mkF, argsToLocals, Value.category]; done) | rfl
set_option maxRecDepth 65536 in
set_option maxHeartbeats 40000000 in
theorem rm4 (l : Launch) (Z : State) (a0 : Array Value) (hw : ∀ d ∈ tables_1, d.before a0 Z = true) (ws : List Jvm.Cond) (tm : Addr) {ar : Addr} (h0 : Heap) (n0 : Nat) (Z0 : n0 ≤ h0.size) (F_low : Fld Z h0 tm "com/example/thymus/thymus/Times" "low" "[J" (.ref ar)) (F_mid : Fld Z h0 tm "com/example/thymus/thymus/Times" "mid" "[J" (.ref ar)) :
    OwnCtr l Z (⟨"com/example/thymus/thymus/Times", "isFuzzy", "()Z"⟩ : MethodName) ws prog_38_method_5_code 1 (some .boolean) ({ frames := 0, cells := 0, slots := 0, locals := 0 } : Room) #[(.ref tm)] h0 (fun v h L => v = some (.int 0) ∧ Fr n0 L ∧ h = h0) := by
  refine own_body (g0 := fun m => mkF m 0 #[.val (.ref tm)] []) pn_4 (fun m => ef_4 m tm) ?_
  intro p e s m below meth c s₁ X0 hx hby hml hown hnm hZ e0 hret hlk
  have hml : c.maxLocals = 1 := hml
  have hown : s.vm.findClass "com/example/thymus/thymus/Times" = some m.cls := hown
  have hnm : meth.name = "isFuzzy" := hnm
  have hret : meth.sig.returnType = (some .boolean) := hret
  have N0 := Fr.nil n0
  show OwnFin p e below s _ _ _ (s₁.setTop (mkF m 0 #[.val (.ref tm)] []))
  refine own_go (fun t_ k_ => XS.aloadN X0.here hx rfl (hb hby d4_0) rfl rfl k_) ?_
  show OwnFin p e below s _ _ _ (s₁.setTop (mkF m 1 #[.val (.ref tm)] [(.ref tm)]))
  obtain ⟨T1, X1, e1, st1⟩ := getF X0 hx hZ hown (host := "") (Or.inl (hw _ (List.mem_of_getElem? (i := 13) rfl))) Via.refl e0 F_low (g := (mkF m 1 #[.val (.ref tm)] [(.ref tm)])) rfl rfl (hb hby d4_1)
  refine own_go st1 ?_
  show OwnFin p e below s _ _ _ (T1.setTop (mkF m 4 #[.val (.ref tm)] [(.ref ar)]))
  refine own_go (fun t_ k_ => XS.aloadN X1.here hx rfl (hb hby d4_4) rfl rfl k_) ?_
  show OwnFin p e below s _ _ _ (T1.setTop (mkF m 5 #[.val (.ref tm)] [(.ref tm), (.ref ar)]))
  obtain ⟨T2, X2, e2, st2⟩ := getF X1 hx hZ hown (host := "") (Or.inl (hw _ (List.mem_of_getElem? (i := 15) rfl))) Via.refl e1 F_mid (g := (mkF m 5 #[.val (.ref tm)] [(.ref tm), (.ref ar)])) rfl rfl (hb hby d4_5)
  refine own_go st2 ?_
  show OwnFin p e below s _ _ _ (T2.setTop (mkF m 8 #[.val (.ref tm)] [(.ref ar), (.ref ar)]))
  refine own_go (fun t_ k_ => Jvm.RoadKit.acmp (g := (mkF m 8 #[.val (.ref tm)] [(.ref ar), (.ref ar)])) X2 hx rfl rfl rfl (pc0 := 8) (pc' := 15) (same := true) rfl (hb hby d4_8) rfl (decide_eq_true rfl) (by decide) (by decide) k_) ?_
  show OwnFin p e below s _ _ _ (T2.setTop (mkF m 15 #[.val (.ref tm)] []))
  refine own_go (fun t_ k_ => XS.iconst X2.here hx rfl (hb hby d4_15) k_) ?_
  show OwnFin p e below s _ _ _ (T2.setTop (mkF m 16 #[.val (.ref tm)] [(.int (0 : Int32))]))
  refine own_ret X2 (v := some (.int (0 : Int32))) hlk (fun hh => by rw [hret] at hh; cases hh) (fun fs hr => retN X2 hx (t := .boolean) hret (by simp) (hb hby d4_16) hr) (by decide) (by decide) ?_
  rw [e2]
  exact ⟨rfl, N0, rfl⟩
theorem d5_0 : decode prog_38_method_7_code 0 = .ok (.aload_n 0, 1) := by decide +kernel
theorem d5_1 : decode prog_38_method_7_code 1 = .ok (.getfield 7, 3) := by decide +kernel
theorem d5_4 : decode prog_38_method_7_code 4 = .ok (.iload_n 1, 1) := by decide +kernel
theorem d5_5 : decode prog_38_method_7_code 5 = .ok (.lload_n 2, 1) := by decide +kernel
theorem d5_6 : decode prog_38_method_7_code 6 = .ok (.lastore, 1) := by decide +kernel
theorem d5_7 : decode prog_38_method_7_code 7 = .ok (.aload_n 0, 1) := by decide +kernel
theorem d5_8 : decode prog_38_method_7_code 8 = .ok (.getfield 13, 3) := by decide +kernel
theorem d5_11 : decode prog_38_method_7_code 11 = .ok (.iload_n 1, 1) := by decide +kernel
theorem d5_12 : decode prog_38_method_7_code 12 = .ok (.lload 4, 2) := by decide +kernel
theorem d5_14 : decode prog_38_method_7_code 14 = .ok (.lastore, 1) := by decide +kernel
theorem d5_15 : decode prog_38_method_7_code 15 = .ok (.aload_n 0, 1) := by decide +kernel
theorem d5_16 : decode prog_38_method_7_code 16 = .ok (.getfield 16, 3) := by decide +kernel
theorem d5_19 : decode prog_38_method_7_code 19 = .ok (.iload_n 1, 1) := by decide +kernel
theorem d5_20 : decode prog_38_method_7_code 20 = .ok (.lload 6, 2) := by decide +kernel
theorem d5_22 : decode prog_38_method_7_code 22 = .ok (.lastore, 1) := by decide +kernel
theorem d5_23 : decode prog_38_method_7_code 23 = .ok (.return_, 1) := by decide +kernel
theorem pn_5 : plainFor (⟨"com/example/thymus/thymus/Times", "set", "(IJJJ)V"⟩ : MethodName) = true := plainFor_of_name (by first | (simp [plainName, overriddenIn]; done) | decide +kernel)
theorem ef_5 (m : MethodId) (tm : Addr) (pi : Int32) (qa : Int64) (qb : Int64) (qc : Int64) : entryFrame m #[(.ref tm), (.int pi), (.long qa), (.long qb), (.long qc)] 8 = mkF m 0 #[.val (.ref tm), .val (.int pi), .val (.long qa), .second, .val (.long qb), .second, .val (.long qc), .second] [] := by first | (simp [entryFrame, mkF, argsToLocals, Value.category]; done) | rfl
set_option maxRecDepth 65536 in
set_option maxHeartbeats 40000000 in
theorem rm5 (l : Launch) (Z : State) (a0 : Array Value) (hw : ∀ d ∈ tables_1, d.before a0 Z = true) (ws : List Jvm.Cond) (tm : Addr) (pi : Int32) (qa : Int64) (qb : Int64) (qc : Int64) (ar : Addr) (k : Nat) (i : Nat) (f : Nat → Int64) (h0 : Heap) (n0 : Nat) (Z0 : n0 ≤ h0.size) (F_low : Fld Z h0 tm "com/example/thymus/thymus/Times" "low" "[J" (.ref ar)) (F_mid : Fld Z h0 tm "com/example/thymus/thymus/Times" "mid" "[J" (.ref ar)) (F_high : Fld Z h0 tm "com/example/thymus/thymus/Times" "high" "[J" (.ref ar)) (V_ar : OwnArr Z h0 ar .long k (fun i => .long (f i))) (hi : pi = Int32.ofNat i) (hik : i < k) (g_ar : n0 ≤ ar) (ne : tm ≠ ar) :
    OwnCtr l Z (⟨"com/example/thymus/thymus/Times", "set", "(IJJJ)V"⟩ : MethodName) ws prog_38_method_7_code 8 none ({ frames := 0, cells := 0, slots := 0, locals := 0 } : Room) #[(.ref tm), (.int pi), (.long qa), (.long qb), (.long qc)] h0 (fun v h L => v = none ∧ Fr n0 L ∧ Keep h0 h [ar] ∧ OwnArr Z h ar .long k (fun z => .long (if z = i then qc else f z))) := by
  refine own_body (g0 := fun m => mkF m 0 #[.val (.ref tm), .val (.int pi), .val (.long qa), .second, .val (.long qb), .second, .val (.long qc), .second] []) pn_5 (fun m => ef_5 m tm pi qa qb qc) ?_
  intro p e s m below meth c s₁ X0 hx hby hml hown hnm hZ e0 hret hlk
  have hml : c.maxLocals = 8 := hml
  have hown : s.vm.findClass "com/example/thymus/thymus/Times" = some m.cls := hown
  have hnm : meth.name = "set" := hnm
  have hret : meth.sig.returnType = none := hret
  have N0 := Fr.nil n0
  have K0 := Keep.refl h0 [ar]
  show OwnFin p e below s _ _ _ (s₁.setTop (mkF m 0 #[.val (.ref tm), .val (.int pi), .val (.long qa), .second, .val (.long qb), .second, .val (.long qc), .second] []))
  refine own_go (fun t_ k_ => XS.aloadN X0.here hx rfl (hb hby d5_0) rfl rfl k_) ?_
  show OwnFin p e below s _ _ _ (s₁.setTop (mkF m 1 #[.val (.ref tm), .val (.int pi), .val (.long qa), .second, .val (.long qb), .second, .val (.long qc), .second] [(.ref tm)]))
  obtain ⟨T1, X1, e1, st1⟩ := getF X0 hx hZ hown (host := "") (Or.inl (hw _ (List.mem_of_getElem? (i := 13) rfl))) Via.refl e0 F_low (g := (mkF m 1 #[.val (.ref tm), .val (.int pi), .val (.long qa), .second, .val (.long qb), .second, .val (.long qc), .second] [(.ref tm)])) rfl rfl (hb hby d5_1)
  refine own_go st1 ?_
  show OwnFin p e below s _ _ _ (T1.setTop (mkF m 4 #[.val (.ref tm), .val (.int pi), .val (.long qa), .second, .val (.long qb), .second, .val (.long qc), .second] [(.ref ar)]))
  refine own_go (fun t_ k_ => XS.iloadN X1.here hx rfl (hb hby d5_4) rfl k_) ?_
  show OwnFin p e below s _ _ _ (T1.setTop (mkF m 5 #[.val (.ref tm), .val (.int pi), .val (.long qa), .second, .val (.long qb), .second, .val (.long qc), .second] [(.int pi), (.ref ar)]))
  refine own_go (fun t_ k_ => XS.lloadN X1.here hx rfl (hb hby d5_5) rfl k_) ?_
  show OwnFin p e below s _ _ _ (T1.setTop (mkF m 6 #[.val (.ref tm), .val (.int pi), .val (.long qa), .second, .val (.long qb), .second, .val (.long qc), .second] [(.long qa), (.int pi), (.ref ar)]))
  obtain ⟨T2, h2, X2, e2, W2, A2, st2⟩ := own_lastore X1 hx hZ e1 V_ar (i := i) hi hik (g := (mkF m 6 #[.val (.ref tm), .val (.int pi), .val (.long qa), .second, .val (.long qb), .second, .val (.long qc), .second] [(.long qa), (.int pi), (.ref ar)])) rfl rfl (hb hby d5_6)
  have F_low_2 := F_low.other W2 (Or.inl ne)
  have F_mid_2 := F_mid.other W2 (Or.inl ne)
  have F_high_2 := F_high.other W2 (Or.inl ne)
  have Z2 : n0 ≤ h2.size := Nat.le_trans Z0 (Keep.of_wr W2).1
  have K2 : Keep h0 h2 [ar] := K0.wr W2 (Or.inl (List.mem_of_getElem? (i := 0) rfl))
  have N2 := Fr.snoc X2 N0 g_ar
  refine own_go st2 ?_
  show OwnFin p e below s _ _ _ (T2.setTop (mkF m 7 #[.val (.ref tm), .val (.int pi), .val (.long qa), .second, .val (.long qb), .second, .val (.long qc), .second] []))
  refine own_go (fun t_ k_ => XS.aloadN X2.here hx rfl (hb hby d5_7) rfl rfl k_) ?_
  show OwnFin p e below s _ _ _ (T2.setTop (mkF m 8 #[.val (.ref tm), .val (.int pi), .val (.long qa), .second, .val (.long qb), .second, .val (.long qc), .second] [(.ref tm)]))
  obtain ⟨T3, X3, e3, st3⟩ := getF X2 hx hZ hown (host := "") (Or.inl (hw _ (List.mem_of_getElem? (i := 15) rfl))) Via.refl e2 F_mid_2 (g := (mkF m 8 #[.val (.ref tm), .val (.int pi), .val (.long qa), .second, .val (.long qb), .second, .val (.long qc), .second] [(.ref tm)])) rfl rfl (hb hby d5_8)
  refine own_go st3 ?_
  show OwnFin p e below s _ _ _ (T3.setTop (mkF m 11 #[.val (.ref tm), .val (.int pi), .val (.long qa), .second, .val (.long qb), .second, .val (.long qc), .second] [(.ref ar)]))
  refine own_go (fun t_ k_ => XS.iloadN X3.here hx rfl (hb hby d5_11) rfl k_) ?_
  show OwnFin p e below s _ _ _ (T3.setTop (mkF m 12 #[.val (.ref tm), .val (.int pi), .val (.long qa), .second, .val (.long qb), .second, .val (.long qc), .second] [(.int pi), (.ref ar)]))
  refine own_go (fun t_ k_ => XS.lload X3.here hx rfl (hb hby d5_12) rfl k_) ?_
  show OwnFin p e below s _ _ _ (T3.setTop (mkF m 14 #[.val (.ref tm), .val (.int pi), .val (.long qa), .second, .val (.long qb), .second, .val (.long qc), .second] [(.long qb), (.int pi), (.ref ar)]))
  obtain ⟨T4, h4, X4, e4, W4, A4, st4⟩ := own_lastore X3 hx hZ e3 A2 (i := i) hi hik (g := (mkF m 14 #[.val (.ref tm), .val (.int pi), .val (.long qa), .second, .val (.long qb), .second, .val (.long qc), .second] [(.long qb), (.int pi), (.ref ar)])) rfl rfl (hb hby d5_14)
  have F_low_4 := F_low_2.other W4 (Or.inl ne)
  have F_mid_4 := F_mid_2.other W4 (Or.inl ne)
  have F_high_4 := F_high_2.other W4 (Or.inl ne)
  have Z4 : n0 ≤ h4.size := Nat.le_trans Z2 (Keep.of_wr W4).1
  have K4 : Keep h0 h4 [ar] := K2.wr W4 (Or.inl (List.mem_of_getElem? (i := 0) rfl))
  have N4 := Fr.snoc X4 N2 g_ar
  refine own_go st4 ?_
  show OwnFin p e below s _ _ _ (T4.setTop (mkF m 15 #[.val (.ref tm), .val (.int pi), .val (.long qa), .second, .val (.long qb), .second, .val (.long qc), .second] []))
  refine own_go (fun t_ k_ => XS.aloadN X4.here hx rfl (hb hby d5_15) rfl rfl k_) ?_
  show OwnFin p e below s _ _ _ (T4.setTop (mkF m 16 #[.val (.ref tm), .val (.int pi), .val (.long qa), .second, .val (.long qb), .second, .val (.long qc), .second] [(.ref tm)]))
  obtain ⟨T5, X5, e5, st5⟩ := getF X4 hx hZ hown (host := "") (Or.inl (hw _ (List.mem_of_getElem? (i := 17) rfl))) Via.refl e4 F_high_4 (g := (mkF m 16 #[.val (.ref tm), .val (.int pi), .val (.long qa), .second, .val (.long qb), .second, .val (.long qc), .second] [(.ref tm)])) rfl rfl (hb hby d5_16)
  refine own_go st5 ?_
  show OwnFin p e below s _ _ _ (T5.setTop (mkF m 19 #[.val (.ref tm), .val (.int pi), .val (.long qa), .second, .val (.long qb), .second, .val (.long qc), .second] [(.ref ar)]))
  refine own_go (fun t_ k_ => XS.iloadN X5.here hx rfl (hb hby d5_19) rfl k_) ?_
  show OwnFin p e below s _ _ _ (T5.setTop (mkF m 20 #[.val (.ref tm), .val (.int pi), .val (.long qa), .second, .val (.long qb), .second, .val (.long qc), .second] [(.int pi), (.ref ar)]))
  refine own_go (fun t_ k_ => XS.lload X5.here hx rfl (hb hby d5_20) rfl k_) ?_
  show OwnFin p e below s _ _ _ (T5.setTop (mkF m 22 #[.val (.ref tm), .val (.int pi), .val (.long qa), .second, .val (.long qb), .second, .val (.long qc), .second] [(.long qc), (.int pi), (.ref ar)]))
  obtain ⟨T6, h6, X6, e6, W6, A6, st6⟩ := own_lastore X5 hx hZ e5 A4 (i := i) hi hik (g := (mkF m 22 #[.val (.ref tm), .val (.int pi), .val (.long qa), .second, .val (.long qb), .second, .val (.long qc), .second] [(.long qc), (.int pi), (.ref ar)])) rfl rfl (hb hby d5_22)
  have F_low_6 := F_low_4.other W6 (Or.inl ne)
  have F_mid_6 := F_mid_4.other W6 (Or.inl ne)
  have F_high_6 := F_high_4.other W6 (Or.inl ne)
  have Z6 : n0 ≤ h6.size := Nat.le_trans Z4 (Keep.of_wr W6).1
  have K6 : Keep h0 h6 [ar] := K4.wr W6 (Or.inl (List.mem_of_getElem? (i := 0) rfl))
  have N6 := Fr.snoc X6 N4 g_ar
  refine own_go st6 ?_
  show OwnFin p e below s _ _ _ (T6.setTop (mkF m 23 #[.val (.ref tm), .val (.int pi), .val (.long qa), .second, .val (.long qb), .second, .val (.long qc), .second] []))
  refine own_ret X6 (v := none) hlk (fun _ => rfl) (fun fs hr => X6.returnOut hx hret (hb hby d5_23) hr) (by decide) (by decide) ?_
  rw [e6]
  exact ⟨rfl, N6, K6, A6.congr (fun z _ => by (try dsimp only); repeat (first | rfl | split))⟩
theorem d6_0 : decode prog_38_method_6_code 0 = .ok (.new 32, 3) := by decide +kernel
theorem d6_3 : decode prog_38_method_6_code 3 = .ok (.dup, 1) := by decide +kernel
theorem d6_4 : decode prog_38_method_6_code 4 = .ok (.aload_n 0, 1) := by decide +kernel
theorem d6_5 : decode prog_38_method_6_code 5 = .ok (.getfield 7, 3) := by decide +kernel
theorem d6_8 : decode prog_38_method_6_code 8 = .ok (.iload_n 1, 1) := by decide +kernel
theorem d6_9 : decode prog_38_method_6_code 9 = .ok (.laload, 1) := by decide +kernel
theorem d6_10 : decode prog_38_method_6_code 10 = .ok (.aload_n 0, 1) := by decide +kernel
theorem d6_11 : decode prog_38_method_6_code 11 = .ok (.getfield 13, 3) := by decide +kernel
theorem d6_14 : decode prog_38_method_6_code 14 = .ok (.iload_n 1, 1) := by decide +kernel
theorem d6_15 : decode prog_38_method_6_code 15 = .ok (.laload, 1) := by decide +kernel
theorem d6_16 : decode prog_38_method_6_code 16 = .ok (.aload_n 0, 1) := by decide +kernel
theorem d6_17 : decode prog_38_method_6_code 17 = .ok (.getfield 16, 3) := by decide +kernel
theorem d6_20 : decode prog_38_method_6_code 20 = .ok (.iload_n 1, 1) := by decide +kernel
theorem d6_21 : decode prog_38_method_6_code 21 = .ok (.laload, 1) := by decide +kernel
theorem d6_22 : decode prog_38_method_6_code 22 = .ok (.invokespecial 34, 3) := by decide +kernel
theorem d6_25 : decode prog_38_method_6_code 25 = .ok (.areturn, 1) := by decide +kernel
theorem pn_6 : plainFor (⟨"com/example/thymus/thymus/Times", "get", "(I)Lcom/example/thymus/thymus/FuzzyTime;"⟩ : MethodName) = true := plainFor_of_name (by first | (simp [plainName, overriddenIn]; done) | decide +kernel)
theorem pd_6_6 : parseMethodDescriptor "(JJJ)V" = some ⟨[.long, .long, .long], none⟩ := by decide +kernel
theorem ef_6 (m : MethodId) (tm : Addr) (pi : Int32) : entryFrame m #[(.ref tm), (.int pi)] 2 = mkF m 0 #[.val (.ref tm), .val (.int pi)] [] := by first | (simp [entryFrame, mkF, argsToLocals, Value.category]; done) | rfl
set_option maxRecDepth 65536 in
set_option maxHeartbeats 40000000 in
theorem rm6 (l : Launch) (Z : State) (a0 : Array Value) (hw : ∀ d ∈ tables_1, d.before a0 Z = true) (ws : List Jvm.Cond) (tm : Addr) (pi : Int32) (ar : Addr) (k : Nat) (i : Nat) (f : Nat → Int64) (h0 : Heap) (n0 : Nat) (Z0 : n0 ≤ h0.size) (F_low : Fld Z h0 tm "com/example/thymus/thymus/Times" "low" "[J" (.ref ar)) (F_mid : Fld Z h0 tm "com/example/thymus/thymus/Times" "mid" "[J" (.ref ar)) (F_high : Fld Z h0 tm "com/example/thymus/thymus/Times" "high" "[J" (.ref ar)) (V_ar : OwnArr Z h0 ar .long k (fun i => .long (f i))) (hi : pi = Int32.ofNat i) (hik : i < k) (hv : ¬ (f i) < (0 : Int64)) :
    OwnCtr l Z (⟨"com/example/thymus/thymus/Times", "get", "(I)Lcom/example/thymus/thymus/FuzzyTime;"⟩ : MethodName) ws prog_38_method_6_code 2 (some (.object "com/example/thymus/thymus/FuzzyTime")) ({ frames := 3, cells := 1, slots := 3, locals := 43 } : Room) #[(.ref tm), (.int pi)] h0 (fun v h L => ∃ b : Addr, v = some (.ref b) ∧ Fr n0 L ∧ Keep h0 h [] ∧ h0.size ≤ b ∧ Exa Z h b "com/example/thymus/thymus/FuzzyTime" ∧ Fld Z h b "com/example/thymus/thymus/FuzzyTime" "a" "J" (.long (f i)) ∧ Fld Z h b "com/example/thymus/thymus/FuzzyTime" "b" "J" (.long (f i)) ∧ Fld Z h b "com/example/thymus/thymus/FuzzyTime" "c" "J" (.long (f i))) := by
  refine own_body (g0 := fun m => mkF m 0 #[.val (.ref tm), .val (.int pi)] []) pn_6 (fun m => ef_6 m tm pi) ?_
  intro p e s m below meth c s₁ X0 hx hby hml hown hnm hZ e0 hret hlk
  have hml : c.maxLocals = 2 := hml
  have hown : s.vm.findClass "com/example/thymus/thymus/Times" = some m.cls := hown
  have hnm : meth.name = "get" := hnm
  have hret : meth.sig.returnType = (some (.object "com/example/thymus/thymus/FuzzyTime")) := hret
  have N0 := Fr.nil n0
  have K0 := Keep.refl h0 []
  show OwnFin p e below s _ _ _ (s₁.setTop (mkF m 0 #[.val (.ref tm), .val (.int pi)] []))
  obtain ⟨T1, h1, X1, e1, E1, A1, D1, -, st1⟩ := newO X0 hx hZ hown (hw _ (List.mem_of_getElem? (i := 39) rfl)) (hw _ (List.mem_of_getElem? (i := 40) rfl)) (hw _ (List.mem_of_getElem? (i := 41) rfl)) e0 (g := (mkF m 0 #[.val (.ref tm), .val (.int pi)] [])) rfl (hb hby d6_0) (by decide) (by decide)
  obtain ⟨b1, g1⟩ : ∃ z, z = h0.size := ⟨_, rfl⟩
  rw [← g1] at A1 D1 st1
  have g_b1 : n0 ≤ b1 := Nat.le_trans Z0 (Nat.le_of_eq g1.symm)
  have sz_b1 : h0.size ≤ b1 := Nat.le_trans K0.1 (Nat.le_of_eq g1.symm)
  have ne_tm_b1 : tm ≠ b1 := Nat.ne_of_lt (Nat.lt_of_lt_of_le F_low.lt (Nat.le_of_eq g1.symm))
  have ne_ar_b1 : ar ≠ b1 := Nat.ne_of_lt (Nat.lt_of_lt_of_le V_ar.lt (Nat.le_of_eq g1.symm))
  have F_low_1 := F_low.ext E1
  have F_mid_1 := F_mid.ext E1
  have F_high_1 := F_high.ext E1
  have V_ar_1 := V_ar.ext E1
  have Z1 : n0 ≤ h1.size := Nat.le_trans Z0 E1.1
  have K1 : Keep h0 h1 [] := K0.ext E1
  have E_b1 := A1
  have F_a_b1 : Fld Z h1 b1 "com/example/thymus/thymus/FuzzyTime" "a" "J" (.long (0 : Int64)) := D1 (Or.inr (hw _ (List.mem_of_getElem? (i := 52) rfl))) (ty := .long) (by decide)
  have F_b_b1 : Fld Z h1 b1 "com/example/thymus/thymus/FuzzyTime" "b" "J" (.long (0 : Int64)) := D1 (Or.inr (hw _ (List.mem_of_getElem? (i := 54) rfl))) (ty := .long) (by decide)
  have F_c_b1 : Fld Z h1 b1 "com/example/thymus/thymus/FuzzyTime" "c" "J" (.long (0 : Int64)) := D1 (Or.inr (hw _ (List.mem_of_getElem? (i := 56) rfl))) (ty := .long) (by decide)
  refine own_go st1 ?_
  show OwnFin p e below s _ _ _ (T1.setTop (mkF m 3 #[.val (.ref tm), .val (.int pi)] [(.ref b1)]))
  refine own_go (fun t_ k_ => XS.dup X1.here hx rfl (hb hby d6_3) rfl rfl k_) ?_
  show OwnFin p e below s _ _ _ (T1.setTop (mkF m 4 #[.val (.ref tm), .val (.int pi)] [(.ref b1), (.ref b1)]))
  refine own_go (fun t_ k_ => XS.aloadN X1.here hx rfl (hb hby d6_4) rfl rfl k_) ?_
  show OwnFin p e below s _ _ _ (T1.setTop (mkF m 5 #[.val (.ref tm), .val (.int pi)] [(.ref tm), (.ref b1), (.ref b1)]))
  obtain ⟨T2, X2, e2, st2⟩ := getF X1 hx hZ hown (host := "") (Or.inl (hw _ (List.mem_of_getElem? (i := 13) rfl))) Via.refl e1 F_low_1 (g := (mkF m 5 #[.val (.ref tm), .val (.int pi)] [(.ref tm), (.ref b1), (.ref b1)])) rfl rfl (hb hby d6_5)
  refine own_go st2 ?_
  show OwnFin p e below s _ _ _ (T2.setTop (mkF m 8 #[.val (.ref tm), .val (.int pi)] [(.ref ar), (.ref b1), (.ref b1)]))
  refine own_go (fun t_ k_ => XS.iloadN X2.here hx rfl (hb hby d6_8) rfl k_) ?_
  show OwnFin p e below s _ _ _ (T2.setTop (mkF m 9 #[.val (.ref tm), .val (.int pi)] [(.int pi), (.ref ar), (.ref b1), (.ref b1)]))
  refine own_go (own_laload X2 hx hZ e2 V_ar_1 (i := i) hi hik (g := (mkF m 9 #[.val (.ref tm), .val (.int pi)] [(.int pi), (.ref ar), (.ref b1), (.ref b1)])) rfl rfl (hb hby d6_9)) ?_
  show OwnFin p e below s _ _ _ (T2.setTop (mkF m 10 #[.val (.ref tm), .val (.int pi)] [(.long (f i)), (.ref b1), (.ref b1)]))
  refine own_go (fun t_ k_ => XS.aloadN X2.here hx rfl (hb hby d6_10) rfl rfl k_) ?_
  show OwnFin p e below s _ _ _ (T2.setTop (mkF m 11 #[.val (.ref tm), .val (.int pi)] [(.ref tm), (.long (f i)), (.ref b1), (.ref b1)]))
  obtain ⟨T3, X3, e3, st3⟩ := getF X2 hx hZ hown (host := "") (Or.inl (hw _ (List.mem_of_getElem? (i := 15) rfl))) Via.refl e2 F_mid_1 (g := (mkF m 11 #[.val (.ref tm), .val (.int pi)] [(.ref tm), (.long (f i)), (.ref b1), (.ref b1)])) rfl rfl (hb hby d6_11)
  refine own_go st3 ?_
  show OwnFin p e below s _ _ _ (T3.setTop (mkF m 14 #[.val (.ref tm), .val (.int pi)] [(.ref ar), (.long (f i)), (.ref b1), (.ref b1)]))
  refine own_go (fun t_ k_ => XS.iloadN X3.here hx rfl (hb hby d6_14) rfl k_) ?_
  show OwnFin p e below s _ _ _ (T3.setTop (mkF m 15 #[.val (.ref tm), .val (.int pi)] [(.int pi), (.ref ar), (.long (f i)), (.ref b1), (.ref b1)]))
  refine own_go (own_laload X3 hx hZ e3 V_ar_1 (i := i) hi hik (g := (mkF m 15 #[.val (.ref tm), .val (.int pi)] [(.int pi), (.ref ar), (.long (f i)), (.ref b1), (.ref b1)])) rfl rfl (hb hby d6_15)) ?_
  show OwnFin p e below s _ _ _ (T3.setTop (mkF m 16 #[.val (.ref tm), .val (.int pi)] [(.long (f i)), (.long (f i)), (.ref b1), (.ref b1)]))
  refine own_go (fun t_ k_ => XS.aloadN X3.here hx rfl (hb hby d6_16) rfl rfl k_) ?_
  show OwnFin p e below s _ _ _ (T3.setTop (mkF m 17 #[.val (.ref tm), .val (.int pi)] [(.ref tm), (.long (f i)), (.long (f i)), (.ref b1), (.ref b1)]))
  obtain ⟨T4, X4, e4, st4⟩ := getF X3 hx hZ hown (host := "") (Or.inl (hw _ (List.mem_of_getElem? (i := 17) rfl))) Via.refl e3 F_high_1 (g := (mkF m 17 #[.val (.ref tm), .val (.int pi)] [(.ref tm), (.long (f i)), (.long (f i)), (.ref b1), (.ref b1)])) rfl rfl (hb hby d6_17)
  refine own_go st4 ?_
  show OwnFin p e below s _ _ _ (T4.setTop (mkF m 20 #[.val (.ref tm), .val (.int pi)] [(.ref ar), (.long (f i)), (.long (f i)), (.ref b1), (.ref b1)]))
  refine own_go (fun t_ k_ => XS.iloadN X4.here hx rfl (hb hby d6_20) rfl k_) ?_
  show OwnFin p e below s _ _ _ (T4.setTop (mkF m 21 #[.val (.ref tm), .val (.int pi)] [(.int pi), (.ref ar), (.long (f i)), (.long (f i)), (.ref b1), (.ref b1)]))
  refine own_go (own_laload X4 hx hZ e4 V_ar_1 (i := i) hi hik (g := (mkF m 21 #[.val (.ref tm), .val (.int pi)] [(.int pi), (.ref ar), (.long (f i)), (.long (f i)), (.ref b1), (.ref b1)])) rfl rfl (hb hby d6_21)) ?_
  show OwnFin p e below s _ _ _ (T4.setTop (mkF m 22 #[.val (.ref tm), .val (.int pi)] [(.long (f i)), (.long (f i)), (.long (f i)), (.ref b1), (.ref b1)]))
  obtain ⟨v5, T5, L5, X5, hQ5, st5⟩ := own_callI X4 hx hZ (y := (⟨"com/example/thymus/thymus/FuzzyTime", "<init>", "(JJJ)V"⟩ : MethodName)) rfl hown (hw _ (List.mem_of_getElem? (i := 42) rfl)) (hw _ (List.mem_of_getElem? (i := 43) rfl)) (hw _ (List.mem_of_getElem? (i := 41) rfl)) (hw _ (List.mem_of_getElem? (i := 44) rfl)) (by decide) (W := 1) (rm7 l Z a0 hw [] b1 (f i) (f i) (f i) h1 n0 Z1 E_b1 g_b1 F_a_b1 F_b_b1 F_c_b1 hv (own_irr _) (own_irr _)) (by decide) (by decide) (g := (mkF m 22 #[.val (.ref tm), .val (.int pi)] [(.long (f i)), (.long (f i)), (.long (f i)), (.ref b1), (.ref b1)])) rfl (by rw [hml]; rfl) (a := b1) (argsL := [(.long (f i)), (.long (f i)), (.long (f i))]) (rest := [(.ref b1)]) (lenOf pd_6_6 rfl) rfl (by show 2 * 0 + _ ≤ _; exact Nat.le_of_eq rfl) (hb hby d6_22) e4 rfl (by decide) (by decide)
  obtain ⟨rfl, Nq5, Kq5, Eq5, Fq5_0, Fq5_1, Fq5_2⟩ := hQ5
  have N5 := Fr.app N0 Nq5
  have F_low_5 := F_low_1.keep Kq5 (ninS ne_tm_b1 nin0)
  have F_mid_5 := F_mid_1.keep Kq5 (ninS ne_tm_b1 nin0)
  have F_high_5 := F_high_1.keep Kq5 (ninS ne_tm_b1 nin0)
  have V_ar_5 := V_ar_1.keep Kq5 (ninS ne_ar_b1 nin0)
  have E_b1_5 := E_b1.keep Kq5
  have Z5 : n0 ≤ T5.heap.size := Nat.le_trans Z1 Kq5.1
  have K5 : Keep h0 T5.heap [] := K1.trans Kq5 (allS (Or.inr sz_b1) all0)
  refine own_go st5 ?_
  show OwnFin p e below s _ _ _ (T5.setTop (mkF m 25 #[.val (.ref tm), .val (.int pi)] [(.ref b1)]))
  refine own_ret X5 (v := some (.ref b1)) hlk (fun hh => by rw [hret] at hh; cases hh) (fun fs hr => own_retR X5 hx hret rfl rfl (hb hby d6_25) hr) (by decide) (by decide) ?_
  exact ⟨b1, rfl, N5, K5, sz_b1, Eq5, Fq5_0, Fq5_1, Fq5_2⟩
theorem own_nni (a b : Nat) {x : Int64} (h : ¬ x < (0 : Int64)) : ¬ (if a = b then x else 0) < (0 : Int64) := by split; exact h; exact own_irr 0
theorem d9_0 : decode prog_12_method_5_code 0 = .ok (.aload_n 0, 1) := by decide +kernel
theorem d9_1 : decode prog_12_method_5_code 1 = .ok (.getfield 16, 3) := by decide +kernel
theorem d9_4 : decode prog_12_method_5_code 4 = .ok (.lreturn, 1) := by decide +kernel
theorem pn_9 : plainFor (⟨"com/example/thymus/thymus/FuzzyTime", "a", "()J"⟩ : MethodName) = true := plainFor_of_name (by first | (simp [plainName, overriddenIn]; done) | decide +kernel)
theorem ef_9 (m : MethodId) (a1 : Addr) : entryFrame m #[(.ref a1)] 1 = mkF m 0 #[.val (.ref a1)] [] := by first | (simp [entryFrame, mkF, argsToLocals, Value.category]; done) | rfl
set_option maxRecDepth 65536 in
set_option maxHeartbeats 40000000 in
theorem rm9 (l : Launch) (Z : State) (a0 : Array Value) (hw : ∀ d ∈ tables_1, d.before a0 Z = true) (ws : List Jvm.Cond) (a1 : Addr) {w : Int64} (h0 : Heap) (n0 : Nat) (Z0 : n0 ≤ h0.size) (F_a1 : Fld Z h0 a1 "com/example/thymus/thymus/FuzzyTime" "a" "J" (.long w)) :
    OwnCtr l Z (⟨"com/example/thymus/thymus/FuzzyTime", "a", "()J"⟩ : MethodName) ws prog_12_method_5_code 1 (some .long) ({ frames := 0, cells := 0, slots := 0, locals := 0 } : Room) #[(.ref a1)] h0 (fun v h L => v = some (.long w) ∧ Fr n0 L ∧ h = h0) := by
  refine own_body (g0 := fun m => mkF m 0 #[.val (.ref a1)] []) pn_9 (fun m => ef_9 m a1) ?_
  intro p e s m below meth c s₁ X0 hx hby hml hown hnm hZ e0 hret hlk
  have hml : c.maxLocals = 1 := hml
  have hown : s.vm.findClass "com/example/thymus/thymus/FuzzyTime" = some m.cls := hown
  have hnm : meth.name = "a" := hnm
  have hret : meth.sig.returnType = (some .long) := hret
  have N0 := Fr.nil n0
  show OwnFin p e below s _ _ _ (s₁.setTop (mkF m 0 #[.val (.ref a1)] []))
  refine own_go (fun t_ k_ => XS.aloadN X0.here hx rfl (hb hby d9_0) rfl rfl k_) ?_
  show OwnFin p e below s _ _ _ (s₁.setTop (mkF m 1 #[.val (.ref a1)] [(.ref a1)]))
  obtain ⟨T1, X1, e1, st1⟩ := getF X0 hx hZ hown (host := "") (Or.inl (hw _ (List.mem_of_getElem? (i := 51) rfl))) Via.refl e0 F_a1 (g := (mkF m 1 #[.val (.ref a1)] [(.ref a1)])) rfl rfl (hb hby d9_1)
  refine own_go st1 ?_
  show OwnFin p e below s _ _ _ (T1.setTop (mkF m 4 #[.val (.ref a1)] [(.long w)]))
  refine own_ret X1 (v := some (.long w)) hlk (fun hh => by rw [hret] at hh; cases hh) (fun fs hr => own_retJ X1 hx hret (hb hby d9_4) hr) (by decide) (by decide) ?_
  rw [e1]
  exact ⟨rfl, N0, rfl⟩
theorem d10_0 : decode prog_12_method_6_code 0 = .ok (.aload_n 0, 1) := by decide +kernel
theorem d10_1 : decode prog_12_method_6_code 1 = .ok (.getfield 22, 3) := by decide +kernel
theorem d10_4 : decode prog_12_method_6_code 4 = .ok (.lreturn, 1) := by decide +kernel
theorem pn_10 : plainFor (⟨"com/example/thymus/thymus/FuzzyTime", "b", "()J"⟩ : MethodName) = true := plainFor_of_name (by first | (simp [plainName, overriddenIn]; done) | decide +kernel)
theorem ef_10 (m : MethodId) (a1 : Addr) : entryFrame m #[(.ref a1)] 1 = mkF m 0 #[.val (.ref a1)] [] := by first | (simp [entryFrame, mkF, argsToLocals, Value.category]; done) | rfl
set_option maxRecDepth 65536 in
set_option maxHeartbeats 40000000 in
theorem rm10 (l : Launch) (Z : State) (a0 : Array Value) (hw : ∀ d ∈ tables_1, d.before a0 Z = true) (ws : List Jvm.Cond) (a1 : Addr) {w : Int64} (h0 : Heap) (n0 : Nat) (Z0 : n0 ≤ h0.size) (F_a1 : Fld Z h0 a1 "com/example/thymus/thymus/FuzzyTime" "b" "J" (.long w)) :
    OwnCtr l Z (⟨"com/example/thymus/thymus/FuzzyTime", "b", "()J"⟩ : MethodName) ws prog_12_method_6_code 1 (some .long) ({ frames := 0, cells := 0, slots := 0, locals := 0 } : Room) #[(.ref a1)] h0 (fun v h L => v = some (.long w) ∧ Fr n0 L ∧ h = h0) := by
  refine own_body (g0 := fun m => mkF m 0 #[.val (.ref a1)] []) pn_10 (fun m => ef_10 m a1) ?_
  intro p e s m below meth c s₁ X0 hx hby hml hown hnm hZ e0 hret hlk
  have hml : c.maxLocals = 1 := hml
  have hown : s.vm.findClass "com/example/thymus/thymus/FuzzyTime" = some m.cls := hown
  have hnm : meth.name = "b" := hnm
  have hret : meth.sig.returnType = (some .long) := hret
  have N0 := Fr.nil n0
  show OwnFin p e below s _ _ _ (s₁.setTop (mkF m 0 #[.val (.ref a1)] []))
  refine own_go (fun t_ k_ => XS.aloadN X0.here hx rfl (hb hby d10_0) rfl rfl k_) ?_
  show OwnFin p e below s _ _ _ (s₁.setTop (mkF m 1 #[.val (.ref a1)] [(.ref a1)]))
  obtain ⟨T1, X1, e1, st1⟩ := getF X0 hx hZ hown (host := "") (Or.inl (hw _ (List.mem_of_getElem? (i := 53) rfl))) Via.refl e0 F_a1 (g := (mkF m 1 #[.val (.ref a1)] [(.ref a1)])) rfl rfl (hb hby d10_1)
  refine own_go st1 ?_
  show OwnFin p e below s _ _ _ (T1.setTop (mkF m 4 #[.val (.ref a1)] [(.long w)]))
  refine own_ret X1 (v := some (.long w)) hlk (fun hh => by rw [hret] at hh; cases hh) (fun fs hr => own_retJ X1 hx hret (hb hby d10_4) hr) (by decide) (by decide) ?_
  rw [e1]
  exact ⟨rfl, N0, rfl⟩
theorem d11_0 : decode prog_12_method_7_code 0 = .ok (.aload_n 0, 1) := by decide +kernel
theorem d11_1 : decode prog_12_method_7_code 1 = .ok (.getfield 25, 3) := by decide +kernel
theorem d11_4 : decode prog_12_method_7_code 4 = .ok (.lreturn, 1) := by decide +kernel
theorem pn_11 : plainFor (⟨"com/example/thymus/thymus/FuzzyTime", "c", "()J"⟩ : MethodName) = true := plainFor_of_name (by first | (simp [plainName, overriddenIn]; done) | decide +kernel)
theorem ef_11 (m : MethodId) (a1 : Addr) : entryFrame m #[(.ref a1)] 1 = mkF m 0 #[.val (.ref a1)] [] := by first | (simp [entryFrame, mkF, argsToLocals, Value.category]; done) | rfl
set_option maxRecDepth 65536 in
set_option maxHeartbeats 40000000 in
theorem rm11 (l : Launch) (Z : State) (a0 : Array Value) (hw : ∀ d ∈ tables_1, d.before a0 Z = true) (ws : List Jvm.Cond) (a1 : Addr) {w : Int64} (h0 : Heap) (n0 : Nat) (Z0 : n0 ≤ h0.size) (F_a1 : Fld Z h0 a1 "com/example/thymus/thymus/FuzzyTime" "c" "J" (.long w)) :
    OwnCtr l Z (⟨"com/example/thymus/thymus/FuzzyTime", "c", "()J"⟩ : MethodName) ws prog_12_method_7_code 1 (some .long) ({ frames := 0, cells := 0, slots := 0, locals := 0 } : Room) #[(.ref a1)] h0 (fun v h L => v = some (.long w) ∧ Fr n0 L ∧ h = h0) := by
  refine own_body (g0 := fun m => mkF m 0 #[.val (.ref a1)] []) pn_11 (fun m => ef_11 m a1) ?_
  intro p e s m below meth c s₁ X0 hx hby hml hown hnm hZ e0 hret hlk
  have hml : c.maxLocals = 1 := hml
  have hown : s.vm.findClass "com/example/thymus/thymus/FuzzyTime" = some m.cls := hown
  have hnm : meth.name = "c" := hnm
  have hret : meth.sig.returnType = (some .long) := hret
  have N0 := Fr.nil n0
  show OwnFin p e below s _ _ _ (s₁.setTop (mkF m 0 #[.val (.ref a1)] []))
  refine own_go (fun t_ k_ => XS.aloadN X0.here hx rfl (hb hby d11_0) rfl rfl k_) ?_
  show OwnFin p e below s _ _ _ (s₁.setTop (mkF m 1 #[.val (.ref a1)] [(.ref a1)]))
  obtain ⟨T1, X1, e1, st1⟩ := getF X0 hx hZ hown (host := "") (Or.inl (hw _ (List.mem_of_getElem? (i := 55) rfl))) Via.refl e0 F_a1 (g := (mkF m 1 #[.val (.ref a1)] [(.ref a1)])) rfl rfl (hb hby d11_1)
  refine own_go st1 ?_
  show OwnFin p e below s _ _ _ (T1.setTop (mkF m 4 #[.val (.ref a1)] [(.long w)]))
  refine own_ret X1 (v := some (.long w)) hlk (fun hh => by rw [hret] at hh; cases hh) (fun fs hr => own_retJ X1 hx hret (hb hby d11_4) hr) (by decide) (by decide) ?_
  rw [e1]
  exact ⟨rfl, N0, rfl⟩
theorem pn_0 : plainFor (⟨"com/example/thymus/thymus/TimesCrispPinLaw", "law", "(IIIJ)Z"⟩ : MethodName) = true := plainFor_of_name (by first | (simp [plainName, overriddenIn]; done) | decide +kernel)
theorem pd_0_0 : parseMethodDescriptor "(I)Lcom/example/thymus/thymus/Times;" = some ⟨[.int], some (.object "com/example/thymus/thymus/Times")⟩ := by decide +kernel
theorem pd_0_3 : parseMethodDescriptor "()Z" = some ⟨[], some .boolean⟩ := by decide +kernel
theorem pd_0_4 : parseMethodDescriptor "(IJJJ)V" = some ⟨[.int, .long, .long, .long], none⟩ := by decide +kernel
theorem pd_0_5 : parseMethodDescriptor "(I)Lcom/example/thymus/thymus/FuzzyTime;" = some ⟨[.int], some (.object "com/example/thymus/thymus/FuzzyTime")⟩ := by decide +kernel
theorem pd_0_7 : parseMethodDescriptor "()J" = some ⟨[], some .long⟩ := by decide +kernel
theorem ef_0 (m : MethodId) (pn : Int32) (pI : Int32) (pJ : Int32) (qv : Int64) : entryFrame m #[(.int pn), (.int pI), (.int pJ), (.long qv)] maxLocals = mkF m 0 #[.val (.int pn), .val (.int pI), .val (.int pJ), .val (.long qv), .second, .unset, .unset, .unset, .unset, .unset, .unset, .unset, .unset, .unset, .unset, .unset] [] := by first | (simp [entryFrame, mkF, argsToLocals, Value.category, maxLocals]; done) | rfl
set_option maxRecDepth 65536 in
set_option maxHeartbeats 40000000 in
theorem rm0 (l : Launch) (Z : State) (a0 : Array Value) (hw : ∀ d ∈ tables_1, d.before a0 Z = true) (ws : List Jvm.Cond) (pn : Int32) (pI : Int32) (pJ : Int32) (qv : Int64) (h0 : Heap) (n0 : Nat) (Z0 : n0 ≤ h0.size) :
    OwnCtr l Z x ws code maxLocals ret room_1 #[(.int pn), (.int pI), (.int pJ), (.long qv)] h0 (fun v h L => v = some (.int 1) ∧ Fr n0 L) := by
  refine own_body (g0 := fun m => mkF m 0 #[.val (.int pn), .val (.int pI), .val (.int pJ), .val (.long qv), .second, .unset, .unset, .unset, .unset, .unset, .unset, .unset, .unset, .unset, .unset, .unset] []) pn_0 (fun m => ef_0 m pn pI pJ qv) ?_
  intro p e s m below meth c s₁ X0 hx hby hml hown hnm hZ e0 hret hlk
  have hml : c.maxLocals = 16 := hml
  have hown : s.vm.findClass "com/example/thymus/thymus/TimesCrispPinLaw" = some m.cls := hown
  have hnm : meth.name = "law" := hnm
  have hret : meth.sig.returnType = (some .boolean) := hret
  have N0 := Fr.nil n0
  show OwnFin p e below s _ _ _ (s₁.setTop (mkF m 0 #[.val (.int pn), .val (.int pI), .val (.int pJ), .val (.long qv), .second, .unset, .unset, .unset, .unset, .unset, .unset, .unset, .unset, .unset, .unset, .unset] []))
  refine own_go (fun t_ k_ => XS.iloadN X0.here hx rfl (hb hby at_0) rfl k_) ?_
  show OwnFin p e below s _ _ _ (s₁.setTop (mkF m 1 #[.val (.int pn), .val (.int pI), .val (.int pJ), .val (.long qv), .second, .unset, .unset, .unset, .unset, .unset, .unset, .unset, .unset, .unset, .unset, .unset] [(.int pn)]))
  refine own_go (fun t_ k_ => XS.bipush X0.here hx rfl (hb hby at_1) k_) ?_
  show OwnFin p e below s _ _ _ (s₁.setTop (mkF m 3 #[.val (.int pn), .val (.int pI), .val (.int pJ), .val (.long qv), .second, .unset, .unset, .unset, .unset, .unset, .unset, .unset, .unset, .unset, .unset, .unset] [(.int (7 : Int32)), (.int pn)]))
  refine own_go (fun t_ k_ => XS.iand X0.here hx rfl (hb hby at_3) rfl k_) ?_
  show OwnFin p e below s _ _ _ (s₁.setTop (mkF m 4 #[.val (.int pn), .val (.int pI), .val (.int pJ), .val (.long qv), .second, .unset, .unset, .unset, .unset, .unset, .unset, .unset, .unset, .unset, .unset, .unset] [(.int (pn &&& (7 : Int32)))]))
  refine own_go (fun t_ k_ => XS.istore X0.here hx rfl (hb hby at_4) rfl (l' := #[.val (.int pn), .val (.int pI), .val (.int pJ), .val (.long qv), .second, .val (.int (pn &&& (7 : Int32))), .unset, .unset, .unset, .unset, .unset, .unset, .unset, .unset, .unset, .unset]) rfl k_) ?_
  show OwnFin p e below s _ _ _ (s₁.setTop (mkF m 6 #[.val (.int pn), .val (.int pI), .val (.int pJ), .val (.long qv), .second, .val (.int (pn &&& (7 : Int32))), .unset, .unset, .unset, .unset, .unset, .unset, .unset, .unset, .unset, .unset] []))
  obtain ⟨k, hk, hk7⟩ := own_and7 pn
  rw [hk]
  show OwnFin p e below s _ _ _ (s₁.setTop (mkF m 6 #[.val (.int pn), .val (.int pI), .val (.int pJ), .val (.long qv), .second, .val (.int (Int32.ofNat k)), .unset, .unset, .unset, .unset, .unset, .unset, .unset, .unset, .unset, .unset] []))
  refine own_go (fun t_ k_ => XS.iload X0.here hx rfl (hb hby at_6) rfl k_) ?_
  show OwnFin p e below s _ _ _ (s₁.setTop (mkF m 8 #[.val (.int pn), .val (.int pI), .val (.int pJ), .val (.long qv), .second, .val (.int (Int32.ofNat k)), .unset, .unset, .unset, .unset, .unset, .unset, .unset, .unset, .unset, .unset] [(.int (Int32.ofNat k))]))
  obtain ⟨v1, T1, L1, X1, hQ1, st1⟩ := own_callS X0 hx hZ (y := (⟨"com/example/thymus/thymus/Times", "crisp", "(I)Lcom/example/thymus/thymus/Times;"⟩ : MethodName)) hown (hw _ (List.mem_of_getElem? (i := 0) rfl)) (hw _ (List.mem_of_getElem? (i := 1) rfl)) (hw _ (List.mem_of_getElem? (i := 2) rfl)) (hw _ (List.mem_of_getElem? (i := 3) rfl)) (by decide) (W := 0) (rm1 l Z a0 hw [] (Int32.ofNat k) k h0 n0 Z0 rfl hk7) (by decide) (by decide) (g := (mkF m 8 #[.val (.int pn), .val (.int pI), .val (.int pJ), .val (.long qv), .second, .val (.int (Int32.ofNat k)), .unset, .unset, .unset, .unset, .unset, .unset, .unset, .unset, .unset, .unset] [(.int (Int32.ofNat k))])) rfl (by rw [hml]; rfl) (argsL := [(.int (Int32.ofNat k))]) (rest := []) (lenOf pd_0_0 rfl) rfl (by show 2 * 0 + _ ≤ _; exact Nat.le_of_eq rfl) (hb hby at_8) e0 rfl (by decide) (by decide)
  obtain ⟨tm, ar, rfl, Nq1, Kq1, sq1, sq2, ne_tm_ar, E_tm, F_low, F_mid, F_high, V_ar⟩ := hQ1
  have N1 := Fr.app N0 Nq1
  have g_tm : n0 ≤ tm := Nat.le_trans Z0 sq1
  have g_ar : n0 ≤ ar := Nat.le_trans Z0 sq2
  have Z1 : n0 ≤ T1.heap.size := Nat.le_trans Z0 Kq1.1
  refine own_go st1 ?_
  show OwnFin p e below s _ _ _ (T1.setTop (mkF m 11 #[.val (.int pn), .val (.int pI), .val (.int pJ), .val (.long qv), .second, .val (.int (Int32.ofNat k)), .unset, .unset, .unset, .unset, .unset, .unset, .unset, .unset, .unset, .unset] [(.ref tm)]))
  refine own_go (fun t_ k_ => XS.astore X1.here hx rfl (hb hby at_11) rfl rfl (l' := #[.val (.int pn), .val (.int pI), .val (.int pJ), .val (.long qv), .second, .val (.int (Int32.ofNat k)), .val (.ref tm), .unset, .unset, .unset, .unset, .unset, .unset, .unset, .unset, .unset]) rfl k_) ?_
  show OwnFin p e below s _ _ _ (T1.setTop (mkF m 13 #[.val (.int pn), .val (.int pI), .val (.int pJ), .val (.long qv), .second, .val (.int (Int32.ofNat k)), .val (.ref tm), .unset, .unset, .unset, .unset, .unset, .unset, .unset, .unset, .unset] []))
  refine own_go (fun t_ k_ => XS.aload X1.here hx rfl (hb hby at_13) rfl rfl k_) ?_
  show OwnFin p e below s _ _ _ (T1.setTop (mkF m 15 #[.val (.int pn), .val (.int pI), .val (.int pJ), .val (.long qv), .second, .val (.int (Int32.ofNat k)), .val (.ref tm), .unset, .unset, .unset, .unset, .unset, .unset, .unset, .unset, .unset] [(.ref tm)]))
  obtain ⟨T2, X2, e2, st2⟩ := getF X1 hx hZ hown (host := "") (Or.inl (hw _ (List.mem_of_getElem? (i := 19) rfl))) Via.refl rfl F_low (g := (mkF m 15 #[.val (.int pn), .val (.int pI), .val (.int pJ), .val (.long qv), .second, .val (.int (Int32.ofNat k)), .val (.ref tm), .unset, .unset, .unset, .unset, .unset, .unset, .unset, .unset, .unset] [(.ref tm)])) rfl rfl (hb hby at_15)
  refine own_go st2 ?_
  show OwnFin p e below s _ _ _ (T2.setTop (mkF m 18 #[.val (.int pn), .val (.int pI), .val (.int pJ), .val (.long qv), .second, .val (.int (Int32.ofNat k)), .val (.ref tm), .unset, .unset, .unset, .unset, .unset, .unset, .unset, .unset, .unset] [(.ref ar)]))
  refine own_go (fun t_ k_ => XS.aload X2.here hx rfl (hb hby at_18) rfl rfl k_) ?_
  show OwnFin p e below s _ _ _ (T2.setTop (mkF m 20 #[.val (.int pn), .val (.int pI), .val (.int pJ), .val (.long qv), .second, .val (.int (Int32.ofNat k)), .val (.ref tm), .unset, .unset, .unset, .unset, .unset, .unset, .unset, .unset, .unset] [(.ref tm), (.ref ar)]))
  obtain ⟨T3, X3, e3, st3⟩ := getF X2 hx hZ hown (host := "") (Or.inl (hw _ (List.mem_of_getElem? (i := 20) rfl))) Via.refl e2 F_mid (g := (mkF m 20 #[.val (.int pn), .val (.int pI), .val (.int pJ), .val (.long qv), .second, .val (.int (Int32.ofNat k)), .val (.ref tm), .unset, .unset, .unset, .unset, .unset, .unset, .unset, .unset, .unset] [(.ref tm), (.ref ar)])) rfl rfl (hb hby at_20)
  refine own_go st3 ?_
  show OwnFin p e below s _ _ _ (T3.setTop (mkF m 23 #[.val (.int pn), .val (.int pI), .val (.int pJ), .val (.long qv), .second, .val (.int (Int32.ofNat k)), .val (.ref tm), .unset, .unset, .unset, .unset, .unset, .unset, .unset, .unset, .unset] [(.ref ar), (.ref ar)]))
  refine own_go (fun t_ k_ => Jvm.RoadKit.acmp (g := (mkF m 23 #[.val (.int pn), .val (.int pI), .val (.int pJ), .val (.long qv), .second, .val (.int (Int32.ofNat k)), .val (.ref tm), .unset, .unset, .unset, .unset, .unset, .unset, .unset, .unset, .unset] [(.ref ar), (.ref ar)])) X3 hx rfl rfl rfl (pc0 := 23) (pc' := 26) (same := true) rfl (hb hby at_23) rfl (decide_eq_true rfl) (by decide) (by decide) k_) ?_
  show OwnFin p e below s _ _ _ (T3.setTop (mkF m 26 #[.val (.int pn), .val (.int pI), .val (.int pJ), .val (.long qv), .second, .val (.int (Int32.ofNat k)), .val (.ref tm), .unset, .unset, .unset, .unset, .unset, .unset, .unset, .unset, .unset] []))
  refine own_go (fun t_ k_ => XS.aload X3.here hx rfl (hb hby at_26) rfl rfl k_) ?_
  show OwnFin p e below s _ _ _ (T3.setTop (mkF m 28 #[.val (.int pn), .val (.int pI), .val (.int pJ), .val (.long qv), .second, .val (.int (Int32.ofNat k)), .val (.ref tm), .unset, .unset, .unset, .unset, .unset, .unset, .unset, .unset, .unset] [(.ref tm)]))
  obtain ⟨T4, X4, e4, st4⟩ := getF X3 hx hZ hown (host := "") (Or.inl (hw _ (List.mem_of_getElem? (i := 20) rfl))) Via.refl e3 F_mid (g := (mkF m 28 #[.val (.int pn), .val (.int pI), .val (.int pJ), .val (.long qv), .second, .val (.int (Int32.ofNat k)), .val (.ref tm), .unset, .unset, .unset, .unset, .unset, .unset, .unset, .unset, .unset] [(.ref tm)])) rfl rfl (hb hby at_28)
  refine own_go st4 ?_
  show OwnFin p e below s _ _ _ (T4.setTop (mkF m 31 #[.val (.int pn), .val (.int pI), .val (.int pJ), .val (.long qv), .second, .val (.int (Int32.ofNat k)), .val (.ref tm), .unset, .unset, .unset, .unset, .unset, .unset, .unset, .unset, .unset] [(.ref ar)]))
  refine own_go (fun t_ k_ => XS.aload X4.here hx rfl (hb hby at_31) rfl rfl k_) ?_
  show OwnFin p e below s _ _ _ (T4.setTop (mkF m 33 #[.val (.int pn), .val (.int pI), .val (.int pJ), .val (.long qv), .second, .val (.int (Int32.ofNat k)), .val (.ref tm), .unset, .unset, .unset, .unset, .unset, .unset, .unset, .unset, .unset] [(.ref tm), (.ref ar)]))
  obtain ⟨T5, X5, e5, st5⟩ := getF X4 hx hZ hown (host := "") (Or.inl (hw _ (List.mem_of_getElem? (i := 21) rfl))) Via.refl e4 F_high (g := (mkF m 33 #[.val (.int pn), .val (.int pI), .val (.int pJ), .val (.long qv), .second, .val (.int (Int32.ofNat k)), .val (.ref tm), .unset, .unset, .unset, .unset, .unset, .unset, .unset, .unset, .unset] [(.ref tm), (.ref ar)])) rfl rfl (hb hby at_33)
  refine own_go st5 ?_
  show OwnFin p e below s _ _ _ (T5.setTop (mkF m 36 #[.val (.int pn), .val (.int pI), .val (.int pJ), .val (.long qv), .second, .val (.int (Int32.ofNat k)), .val (.ref tm), .unset, .unset, .unset, .unset, .unset, .unset, .unset, .unset, .unset] [(.ref ar), (.ref ar)]))
  refine own_go (fun t_ k_ => Jvm.RoadKit.acmp (g := (mkF m 36 #[.val (.int pn), .val (.int pI), .val (.int pJ), .val (.long qv), .second, .val (.int (Int32.ofNat k)), .val (.ref tm), .unset, .unset, .unset, .unset, .unset, .unset, .unset, .unset, .unset] [(.ref ar), (.ref ar)])) X5 hx rfl rfl rfl (pc0 := 36) (pc' := 39) (same := true) rfl (hb hby at_36) rfl (decide_eq_true rfl) (by decide) (by decide) k_) ?_
  show OwnFin p e below s _ _ _ (T5.setTop (mkF m 39 #[.val (.int pn), .val (.int pI), .val (.int pJ), .val (.long qv), .second, .val (.int (Int32.ofNat k)), .val (.ref tm), .unset, .unset, .unset, .unset, .unset, .unset, .unset, .unset, .unset] []))
  refine own_go (fun t_ k_ => XS.aload X5.here hx rfl (hb hby at_39) rfl rfl k_) ?_
  show OwnFin p e below s _ _ _ (T5.setTop (mkF m 41 #[.val (.int pn), .val (.int pI), .val (.int pJ), .val (.long qv), .second, .val (.int (Int32.ofNat k)), .val (.ref tm), .unset, .unset, .unset, .unset, .unset, .unset, .unset, .unset, .unset] [(.ref tm)]))
  obtain ⟨v6, T6, L6, X6, hQ6, st6⟩ := own_callV X5 hx hZ (y := (⟨"com/example/thymus/thymus/Times", "isFuzzy", "()Z"⟩ : MethodName)) (z := (⟨"com/example/thymus/thymus/Times", "isFuzzy", "()Z"⟩ : MethodName)) hown (hw _ (List.mem_of_getElem? (i := 22) rfl)) (hw _ (List.mem_of_getElem? (i := 23) rfl)) (notFace_of_selects (args := #[]) (mvT hZ (hw _ (List.mem_of_getElem? (i := 25) rfl)))) (hw _ (List.mem_of_getElem? (i := 25) rfl)) (hw _ (List.mem_of_getElem? (i := 24) rfl)) (hw _ (List.mem_of_getElem? (i := 2) rfl)) (hw _ (List.mem_of_getElem? (i := 26) rfl)) (by decide) (W := 0) (rm4 l Z a0 hw [] tm T1.heap n0 Z1 F_low F_mid) (by decide) (by decide) E_tm (g := (mkF m 41 #[.val (.int pn), .val (.int pI), .val (.int pJ), .val (.long qv), .second, .val (.int (Int32.ofNat k)), .val (.ref tm), .unset, .unset, .unset, .unset, .unset, .unset, .unset, .unset, .unset] [(.ref tm)])) rfl (by rw [hml]; rfl) (argsL := []) (rest := []) (lenOf pd_0_3 rfl) rfl (by show 2 * 0 + _ ≤ _; exact Nat.le_of_eq rfl) (hb hby at_41) e5 rfl (by decide) (by decide)
  obtain ⟨rfl, Nq6, e6⟩ := hQ6
  have N6 := Fr.app N1 Nq6
  refine own_go st6 ?_
  show OwnFin p e below s _ _ _ (T6.setTop (mkF m 44 #[.val (.int pn), .val (.int pI), .val (.int pJ), .val (.long qv), .second, .val (.int (Int32.ofNat k)), .val (.ref tm), .unset, .unset, .unset, .unset, .unset, .unset, .unset, .unset, .unset] [(.int (0 : Int32))]))
  refine own_go (fun t_ k_ => XS.ifNo X6.here hx rfl (hb hby at_44) rfl ((if0 _ _).trans (teq (by decide)).2) k_) ?_
  show OwnFin p e below s _ _ _ (T6.setTop (mkF m 47 #[.val (.int pn), .val (.int pI), .val (.int pJ), .val (.long qv), .second, .val (.int (Int32.ofNat k)), .val (.ref tm), .unset, .unset, .unset, .unset, .unset, .unset, .unset, .unset, .unset] []))
  refine own_go (fun t_ k_ => XS.aload X6.here hx rfl (hb hby at_47) rfl rfl k_) ?_
  show OwnFin p e below s _ _ _ (T6.setTop (mkF m 49 #[.val (.int pn), .val (.int pI), .val (.int pJ), .val (.long qv), .second, .val (.int (Int32.ofNat k)), .val (.ref tm), .unset, .unset, .unset, .unset, .unset, .unset, .unset, .unset, .unset] [(.ref tm)]))
  obtain ⟨T7, X7, e7, st7⟩ := getF X6 hx hZ hown (host := "") (Or.inl (hw _ (List.mem_of_getElem? (i := 20) rfl))) Via.refl e6 F_mid (g := (mkF m 49 #[.val (.int pn), .val (.int pI), .val (.int pJ), .val (.long qv), .second, .val (.int (Int32.ofNat k)), .val (.ref tm), .unset, .unset, .unset, .unset, .unset, .unset, .unset, .unset, .unset] [(.ref tm)])) rfl rfl (hb hby at_49)
  refine own_go st7 ?_
  show OwnFin p e below s _ _ _ (T7.setTop (mkF m 52 #[.val (.int pn), .val (.int pI), .val (.int pJ), .val (.long qv), .second, .val (.int (Int32.ofNat k)), .val (.ref tm), .unset, .unset, .unset, .unset, .unset, .unset, .unset, .unset, .unset] [(.ref ar)]))
  refine own_go (own_alength X7 hx hZ e7 V_ar (g := (mkF m 52 #[.val (.int pn), .val (.int pI), .val (.int pJ), .val (.long qv), .second, .val (.int (Int32.ofNat k)), .val (.ref tm), .unset, .unset, .unset, .unset, .unset, .unset, .unset, .unset, .unset] [(.ref ar)])) rfl rfl (hb hby at_52)) ?_
  show OwnFin p e below s _ _ _ (T7.setTop (mkF m 53 #[.val (.int pn), .val (.int pI), .val (.int pJ), .val (.long qv), .second, .val (.int (Int32.ofNat k)), .val (.ref tm), .unset, .unset, .unset, .unset, .unset, .unset, .unset, .unset, .unset] [(.int (Int32.ofNat k))]))
  refine own_go (fun t_ k_ => XS.iload X7.here hx rfl (hb hby at_53) rfl k_) ?_
  show OwnFin p e below s _ _ _ (T7.setTop (mkF m 55 #[.val (.int pn), .val (.int pI), .val (.int pJ), .val (.long qv), .second, .val (.int (Int32.ofNat k)), .val (.ref tm), .unset, .unset, .unset, .unset, .unset, .unset, .unset, .unset, .unset] [(.int (Int32.ofNat k)), (.int (Int32.ofNat k))]))
  refine own_go (fun t_ k_ => XS.icmpNo X7.here hx rfl (hb hby at_55) rfl (teq rfl).2 k_) ?_
  show OwnFin p e below s _ _ _ (T7.setTop (mkF m 58 #[.val (.int pn), .val (.int pI), .val (.int pJ), .val (.long qv), .second, .val (.int (Int32.ofNat k)), .val (.ref tm), .unset, .unset, .unset, .unset, .unset, .unset, .unset, .unset, .unset] []))
  refine own_go (fun t_ k_ => XS.iconst X7.here hx rfl (hb hby at_58) k_) ?_
  show OwnFin p e below s _ _ _ (T7.setTop (mkF m 59 #[.val (.int pn), .val (.int pI), .val (.int pJ), .val (.long qv), .second, .val (.int (Int32.ofNat k)), .val (.ref tm), .unset, .unset, .unset, .unset, .unset, .unset, .unset, .unset, .unset] [(.int (1 : Int32))]))
  refine own_go (fun t_ k_ => XS.goto X7.here hx rfl (pc0 := 59) (pc' := 63) rfl (hb hby at_59) (by decide) (by decide) k_) ?_
  show OwnFin p e below s _ _ _ (T7.setTop (mkF m 63 #[.val (.int pn), .val (.int pI), .val (.int pJ), .val (.long qv), .second, .val (.int (Int32.ofNat k)), .val (.ref tm), .unset, .unset, .unset, .unset, .unset, .unset, .unset, .unset, .unset] [(.int (1 : Int32))]))
  refine own_go (fun t_ k_ => XS.istore X7.here hx rfl (hb hby at_63) rfl (l' := #[.val (.int pn), .val (.int pI), .val (.int pJ), .val (.long qv), .second, .val (.int (Int32.ofNat k)), .val (.ref tm), .val (.int (1 : Int32)), .unset, .unset, .unset, .unset, .unset, .unset, .unset, .unset]) rfl k_) ?_
  show OwnFin p e below s _ _ _ (T7.setTop (mkF m 65 #[.val (.int pn), .val (.int pI), .val (.int pJ), .val (.long qv), .second, .val (.int (Int32.ofNat k)), .val (.ref tm), .val (.int (1 : Int32)), .unset, .unset, .unset, .unset, .unset, .unset, .unset, .unset] []))
  refine own_go (fun t_ k_ => XS.iload X7.here hx rfl (hb hby at_65) rfl k_) ?_
  show OwnFin p e below s _ _ _ (T7.setTop (mkF m 67 #[.val (.int pn), .val (.int pI), .val (.int pJ), .val (.long qv), .second, .val (.int (Int32.ofNat k)), .val (.ref tm), .val (.int (1 : Int32)), .unset, .unset, .unset, .unset, .unset, .unset, .unset, .unset] [(.int (1 : Int32))]))
  refine own_go (fun t_ k_ => XS.ifYes X7.here hx rfl (pc0 := 67) (pc' := 72) rfl (hb hby at_67) rfl ((if0 _ _).trans (feq (by decide)).2) (by decide) (by decide) k_) ?_
  show OwnFin p e below s _ _ _ (T7.setTop (mkF m 72 #[.val (.int pn), .val (.int pI), .val (.int pJ), .val (.long qv), .second, .val (.int (Int32.ofNat k)), .val (.ref tm), .val (.int (1 : Int32)), .unset, .unset, .unset, .unset, .unset, .unset, .unset, .unset] []))
  refine own_go (fun t_ k_ => XS.iload X7.here hx rfl (hb hby at_72) rfl k_) ?_
  show OwnFin p e below s _ _ _ (T7.setTop (mkF m 74 #[.val (.int pn), .val (.int pI), .val (.int pJ), .val (.long qv), .second, .val (.int (Int32.ofNat k)), .val (.ref tm), .val (.int (1 : Int32)), .unset, .unset, .unset, .unset, .unset, .unset, .unset, .unset] [(.int (Int32.ofNat k))]))
  by_cases hc74 : (Int32.ofNat k) = (0 : Int32)
  · refine own_go (fun t_ k_ => XS.ifNo X7.here hx rfl (hb hby at_74) rfl ((if0 _ _).trans (teq hc74).2) k_) ?_
    show OwnFin p e below s _ _ _ (T7.setTop (mkF m 77 #[.val (.int pn), .val (.int pI), .val (.int pJ), .val (.long qv), .second, .val (.int (Int32.ofNat k)), .val (.ref tm), .val (.int (1 : Int32)), .unset, .unset, .unset, .unset, .unset, .unset, .unset, .unset] []))
    refine own_go (fun t_ k_ => XS.iconst X7.here hx rfl (hb hby at_77) k_) ?_
    show OwnFin p e below s _ _ _ (T7.setTop (mkF m 78 #[.val (.int pn), .val (.int pI), .val (.int pJ), .val (.long qv), .second, .val (.int (Int32.ofNat k)), .val (.ref tm), .val (.int (1 : Int32)), .unset, .unset, .unset, .unset, .unset, .unset, .unset, .unset] [(.int (1 : Int32))]))
    refine own_ret X7 (v := some (.int (1 : Int32))) hlk (fun hh => by rw [hret] at hh; cases hh) (fun fs hr => retN X7 hx (t := .boolean) hret (by simp) (hb hby at_78) hr) (by decide) (by decide) ?_
    exact ⟨rfl, N6⟩
  · refine own_go (fun t_ k_ => XS.ifYes X7.here hx rfl (pc0 := 74) (pc' := 79) rfl (hb hby at_74) rfl ((if0 _ _).trans (feq hc74).2) (by decide) (by decide) k_) ?_
    show OwnFin p e below s _ _ _ (T7.setTop (mkF m 79 #[.val (.int pn), .val (.int pI), .val (.int pJ), .val (.long qv), .second, .val (.int (Int32.ofNat k)), .val (.ref tm), .val (.int (1 : Int32)), .unset, .unset, .unset, .unset, .unset, .unset, .unset, .unset] []))
    have hkpos : 0 < k := Nat.pos_of_ne_zero (fun q => hc74 (by rw [q]; rfl))
    refine own_go (fun t_ k_ => XS.iloadN X7.here hx rfl (hb hby at_79) rfl k_) ?_
    show OwnFin p e below s _ _ _ (T7.setTop (mkF m 80 #[.val (.int pn), .val (.int pI), .val (.int pJ), .val (.long qv), .second, .val (.int (Int32.ofNat k)), .val (.ref tm), .val (.int (1 : Int32)), .unset, .unset, .unset, .unset, .unset, .unset, .unset, .unset] [(.int pI)]))
    refine own_go (X7.ldcInt hx hown (mvT hZ (hw _ (List.mem_of_getElem? (i := 27) rfl))) (g := (mkF m 80 #[.val (.int pn), .val (.int pI), .val (.int pJ), .val (.long qv), .second, .val (.int (Int32.ofNat k)), .val (.ref tm), .val (.int (1 : Int32)), .unset, .unset, .unset, .unset, .unset, .unset, .unset, .unset] [(.int pI)])) rfl (hb hby at_80)) ?_
    show OwnFin p e below s _ _ _ (T7.setTop (mkF m 82 #[.val (.int pn), .val (.int pI), .val (.int pJ), .val (.long qv), .second, .val (.int (Int32.ofNat k)), .val (.ref tm), .val (.int (1 : Int32)), .unset, .unset, .unset, .unset, .unset, .unset, .unset, .unset] [(.int (2147483647 : Int32)), (.int pI)]))
    refine own_go (fun t_ k_ => XS.iand X7.here hx rfl (hb hby at_82) rfl k_) ?_
    show OwnFin p e below s _ _ _ (T7.setTop (mkF m 83 #[.val (.int pn), .val (.int pI), .val (.int pJ), .val (.long qv), .second, .val (.int (Int32.ofNat k)), .val (.ref tm), .val (.int (1 : Int32)), .unset, .unset, .unset, .unset, .unset, .unset, .unset, .unset] [(.int (pI &&& (2147483647 : Int32)))]))
    refine own_go (fun t_ k_ => XS.iload X7.here hx rfl (hb hby at_83) rfl k_) ?_
    show OwnFin p e below s _ _ _ (T7.setTop (mkF m 85 #[.val (.int pn), .val (.int pI), .val (.int pJ), .val (.long qv), .second, .val (.int (Int32.ofNat k)), .val (.ref tm), .val (.int (1 : Int32)), .unset, .unset, .unset, .unset, .unset, .unset, .unset, .unset] [(.int (Int32.ofNat k)), (.int (pI &&& (2147483647 : Int32)))]))
    refine own_go (fun t_ k_ => Jvm.RoadKit.iremM X7 hx rfl (hb hby at_85) rfl hc74 k_) ?_
    show OwnFin p e below s _ _ _ (T7.setTop (mkF m 86 #[.val (.int pn), .val (.int pI), .val (.int pJ), .val (.long qv), .second, .val (.int (Int32.ofNat k)), .val (.ref tm), .val (.int (1 : Int32)), .unset, .unset, .unset, .unset, .unset, .unset, .unset, .unset] [(.int ((pI &&& (2147483647 : Int32)) % (Int32.ofNat k)))]))
    refine own_go (fun t_ k_ => XS.istore X7.here hx rfl (hb hby at_86) rfl (l' := #[.val (.int pn), .val (.int pI), .val (.int pJ), .val (.long qv), .second, .val (.int (Int32.ofNat k)), .val (.ref tm), .val (.int (1 : Int32)), .val (.int ((pI &&& (2147483647 : Int32)) % (Int32.ofNat k))), .unset, .unset, .unset, .unset, .unset, .unset, .unset]) rfl k_) ?_
    show OwnFin p e below s _ _ _ (T7.setTop (mkF m 88 #[.val (.int pn), .val (.int pI), .val (.int pJ), .val (.long qv), .second, .val (.int (Int32.ofNat k)), .val (.ref tm), .val (.int (1 : Int32)), .val (.int ((pI &&& (2147483647 : Int32)) % (Int32.ofNat k))), .unset, .unset, .unset, .unset, .unset, .unset, .unset] []))
    obtain ⟨i, hi, hik⟩ := own_rem pI (d := k) hkpos hk7
    rw [hi]
    show OwnFin p e below s _ _ _ (T7.setTop (mkF m 88 #[.val (.int pn), .val (.int pI), .val (.int pJ), .val (.long qv), .second, .val (.int (Int32.ofNat k)), .val (.ref tm), .val (.int (1 : Int32)), .val (.int (Int32.ofNat i)), .unset, .unset, .unset, .unset, .unset, .unset, .unset] []))
    refine own_go (fun t_ k_ => XS.iloadN X7.here hx rfl (hb hby at_88) rfl k_) ?_
    show OwnFin p e below s _ _ _ (T7.setTop (mkF m 89 #[.val (.int pn), .val (.int pI), .val (.int pJ), .val (.long qv), .second, .val (.int (Int32.ofNat k)), .val (.ref tm), .val (.int (1 : Int32)), .val (.int (Int32.ofNat i)), .unset, .unset, .unset, .unset, .unset, .unset, .unset] [(.int pJ)]))
    refine own_go (X7.ldcInt hx hown (mvT hZ (hw _ (List.mem_of_getElem? (i := 27) rfl))) (g := (mkF m 89 #[.val (.int pn), .val (.int pI), .val (.int pJ), .val (.long qv), .second, .val (.int (Int32.ofNat k)), .val (.ref tm), .val (.int (1 : Int32)), .val (.int (Int32.ofNat i)), .unset, .unset, .unset, .unset, .unset, .unset, .unset] [(.int pJ)])) rfl (hb hby at_89)) ?_
    show OwnFin p e below s _ _ _ (T7.setTop (mkF m 91 #[.val (.int pn), .val (.int pI), .val (.int pJ), .val (.long qv), .second, .val (.int (Int32.ofNat k)), .val (.ref tm), .val (.int (1 : Int32)), .val (.int (Int32.ofNat i)), .unset, .unset, .unset, .unset, .unset, .unset, .unset] [(.int (2147483647 : Int32)), (.int pJ)]))
    refine own_go (fun t_ k_ => XS.iand X7.here hx rfl (hb hby at_91) rfl k_) ?_
    show OwnFin p e below s _ _ _ (T7.setTop (mkF m 92 #[.val (.int pn), .val (.int pI), .val (.int pJ), .val (.long qv), .second, .val (.int (Int32.ofNat k)), .val (.ref tm), .val (.int (1 : Int32)), .val (.int (Int32.ofNat i)), .unset, .unset, .unset, .unset, .unset, .unset, .unset] [(.int (pJ &&& (2147483647 : Int32)))]))
    refine own_go (fun t_ k_ => XS.iload X7.here hx rfl (hb hby at_92) rfl k_) ?_
    show OwnFin p e below s _ _ _ (T7.setTop (mkF m 94 #[.val (.int pn), .val (.int pI), .val (.int pJ), .val (.long qv), .second, .val (.int (Int32.ofNat k)), .val (.ref tm), .val (.int (1 : Int32)), .val (.int (Int32.ofNat i)), .unset, .unset, .unset, .unset, .unset, .unset, .unset] [(.int (Int32.ofNat k)), (.int (pJ &&& (2147483647 : Int32)))]))
    refine own_go (fun t_ k_ => Jvm.RoadKit.iremM X7 hx rfl (hb hby at_94) rfl hc74 k_) ?_
    show OwnFin p e below s _ _ _ (T7.setTop (mkF m 95 #[.val (.int pn), .val (.int pI), .val (.int pJ), .val (.long qv), .second, .val (.int (Int32.ofNat k)), .val (.ref tm), .val (.int (1 : Int32)), .val (.int (Int32.ofNat i)), .unset, .unset, .unset, .unset, .unset, .unset, .unset] [(.int ((pJ &&& (2147483647 : Int32)) % (Int32.ofNat k)))]))
    refine own_go (fun t_ k_ => XS.istore X7.here hx rfl (hb hby at_95) rfl (l' := #[.val (.int pn), .val (.int pI), .val (.int pJ), .val (.long qv), .second, .val (.int (Int32.ofNat k)), .val (.ref tm), .val (.int (1 : Int32)), .val (.int (Int32.ofNat i)), .val (.int ((pJ &&& (2147483647 : Int32)) % (Int32.ofNat k))), .unset, .unset, .unset, .unset, .unset, .unset]) rfl k_) ?_
    show OwnFin p e below s _ _ _ (T7.setTop (mkF m 97 #[.val (.int pn), .val (.int pI), .val (.int pJ), .val (.long qv), .second, .val (.int (Int32.ofNat k)), .val (.ref tm), .val (.int (1 : Int32)), .val (.int (Int32.ofNat i)), .val (.int ((pJ &&& (2147483647 : Int32)) % (Int32.ofNat k))), .unset, .unset, .unset, .unset, .unset, .unset] []))
    obtain ⟨j, hj, hjk⟩ := own_rem pJ (d := k) hkpos hk7
    rw [hj]
    show OwnFin p e below s _ _ _ (T7.setTop (mkF m 97 #[.val (.int pn), .val (.int pI), .val (.int pJ), .val (.long qv), .second, .val (.int (Int32.ofNat k)), .val (.ref tm), .val (.int (1 : Int32)), .val (.int (Int32.ofNat i)), .val (.int (Int32.ofNat j)), .unset, .unset, .unset, .unset, .unset, .unset] []))
    refine own_go (fun t_ k_ => XS.aload X7.here hx rfl (hb hby at_97) rfl rfl k_) ?_
    show OwnFin p e below s _ _ _ (T7.setTop (mkF m 99 #[.val (.int pn), .val (.int pI), .val (.int pJ), .val (.long qv), .second, .val (.int (Int32.ofNat k)), .val (.ref tm), .val (.int (1 : Int32)), .val (.int (Int32.ofNat i)), .val (.int (Int32.ofNat j)), .unset, .unset, .unset, .unset, .unset, .unset] [(.ref tm)]))
    obtain ⟨T8, X8, e8, st8⟩ := getF X7 hx hZ hown (host := "") (Or.inl (hw _ (List.mem_of_getElem? (i := 20) rfl))) Via.refl e7 F_mid (g := (mkF m 99 #[.val (.int pn), .val (.int pI), .val (.int pJ), .val (.long qv), .second, .val (.int (Int32.ofNat k)), .val (.ref tm), .val (.int (1 : Int32)), .val (.int (Int32.ofNat i)), .val (.int (Int32.ofNat j)), .unset, .unset, .unset, .unset, .unset, .unset] [(.ref tm)])) rfl rfl (hb hby at_99)
    refine own_go st8 ?_
    show OwnFin p e below s _ _ _ (T8.setTop (mkF m 102 #[.val (.int pn), .val (.int pI), .val (.int pJ), .val (.long qv), .second, .val (.int (Int32.ofNat k)), .val (.ref tm), .val (.int (1 : Int32)), .val (.int (Int32.ofNat i)), .val (.int (Int32.ofNat j)), .unset, .unset, .unset, .unset, .unset, .unset] [(.ref ar)]))
    refine own_go (fun t_ k_ => XS.iload X8.here hx rfl (hb hby at_102) rfl k_) ?_
    show OwnFin p e below s _ _ _ (T8.setTop (mkF m 104 #[.val (.int pn), .val (.int pI), .val (.int pJ), .val (.long qv), .second, .val (.int (Int32.ofNat k)), .val (.ref tm), .val (.int (1 : Int32)), .val (.int (Int32.ofNat i)), .val (.int (Int32.ofNat j)), .unset, .unset, .unset, .unset, .unset, .unset] [(.int (Int32.ofNat j)), (.ref ar)]))
    refine own_go (own_laload X8 hx hZ e8 V_ar (i := j) rfl hjk (g := (mkF m 104 #[.val (.int pn), .val (.int pI), .val (.int pJ), .val (.long qv), .second, .val (.int (Int32.ofNat k)), .val (.ref tm), .val (.int (1 : Int32)), .val (.int (Int32.ofNat i)), .val (.int (Int32.ofNat j)), .unset, .unset, .unset, .unset, .unset, .unset] [(.int (Int32.ofNat j)), (.ref ar)])) rfl rfl (hb hby at_104)) ?_
    show OwnFin p e below s _ _ _ (T8.setTop (mkF m 105 #[.val (.int pn), .val (.int pI), .val (.int pJ), .val (.long qv), .second, .val (.int (Int32.ofNat k)), .val (.ref tm), .val (.int (1 : Int32)), .val (.int (Int32.ofNat i)), .val (.int (Int32.ofNat j)), .unset, .unset, .unset, .unset, .unset, .unset] [(.long (0 : Int64))]))
    refine own_go (fun t_ k_ => XS.lconst X8.here hx rfl (hb hby at_105) k_) ?_
    show OwnFin p e below s _ _ _ (T8.setTop (mkF m 106 #[.val (.int pn), .val (.int pI), .val (.int pJ), .val (.long qv), .second, .val (.int (Int32.ofNat k)), .val (.ref tm), .val (.int (1 : Int32)), .val (.int (Int32.ofNat i)), .val (.int (Int32.ofNat j)), .unset, .unset, .unset, .unset, .unset, .unset] [(.long (0 : Int64)), (.long (0 : Int64))]))
    refine own_go (fun t_ k_ => XS.lcmp X8.here hx rfl (hb hby at_106) rfl k_) ?_
    show OwnFin p e below s _ _ _ (T8.setTop (mkF m 107 #[.val (.int pn), .val (.int pI), .val (.int pJ), .val (.long qv), .second, .val (.int (Int32.ofNat k)), .val (.ref tm), .val (.int (1 : Int32)), .val (.int (Int32.ofNat i)), .val (.int (Int32.ofNat j)), .unset, .unset, .unset, .unset, .unset, .unset] [(.int (lcmpW (0 : Int64) (0 : Int64)))]))
    refine own_go (fun t_ k_ => XS.ifYes X8.here hx rfl (pc0 := 107) (pc' := 112) rfl (hb hby at_107) rfl ((if0 _ _).trans (teq ((lw_eq (0 : Int64) (0 : Int64)).mpr (by decide))).1) (by decide) (by decide) k_) ?_
    show OwnFin p e below s _ _ _ (T8.setTop (mkF m 112 #[.val (.int pn), .val (.int pI), .val (.int pJ), .val (.long qv), .second, .val (.int (Int32.ofNat k)), .val (.ref tm), .val (.int (1 : Int32)), .val (.int (Int32.ofNat i)), .val (.int (Int32.ofNat j)), .unset, .unset, .unset, .unset, .unset, .unset] []))
    refine own_go (fun t_ k_ => XS.lloadN X8.here hx rfl (hb hby at_112) rfl k_) ?_
    show OwnFin p e below s _ _ _ (T8.setTop (mkF m 113 #[.val (.int pn), .val (.int pI), .val (.int pJ), .val (.long qv), .second, .val (.int (Int32.ofNat k)), .val (.ref tm), .val (.int (1 : Int32)), .val (.int (Int32.ofNat i)), .val (.int (Int32.ofNat j)), .unset, .unset, .unset, .unset, .unset, .unset] [(.long qv)]))
    refine own_go (X8.ldc2Long hx hown (mvT hZ (hw _ (List.mem_of_getElem? (i := 28) rfl))) (g := (mkF m 113 #[.val (.int pn), .val (.int pI), .val (.int pJ), .val (.long qv), .second, .val (.int (Int32.ofNat k)), .val (.ref tm), .val (.int (1 : Int32)), .val (.int (Int32.ofNat i)), .val (.int (Int32.ofNat j)), .unset, .unset, .unset, .unset, .unset, .unset] [(.long qv)])) rfl (hb hby at_113)) ?_
    show OwnFin p e below s _ _ _ (T8.setTop (mkF m 116 #[.val (.int pn), .val (.int pI), .val (.int pJ), .val (.long qv), .second, .val (.int (Int32.ofNat k)), .val (.ref tm), .val (.int (1 : Int32)), .val (.int (Int32.ofNat i)), .val (.int (Int32.ofNat j)), .unset, .unset, .unset, .unset, .unset, .unset] [(.long (9223372036854775807 : Int64)), (.long qv)]))
    refine own_go (fun t_ k_ => XS.land X8.here hx rfl (hb hby at_116) rfl k_) ?_
    show OwnFin p e below s _ _ _ (T8.setTop (mkF m 117 #[.val (.int pn), .val (.int pI), .val (.int pJ), .val (.long qv), .second, .val (.int (Int32.ofNat k)), .val (.ref tm), .val (.int (1 : Int32)), .val (.int (Int32.ofNat i)), .val (.int (Int32.ofNat j)), .unset, .unset, .unset, .unset, .unset, .unset] [(.long (qv &&& (9223372036854775807 : Int64)))]))
    refine own_go (fun t_ k_ => XS.lstore X8.here hx rfl (hb hby at_117) rfl (l' := #[.val (.int pn), .val (.int pI), .val (.int pJ), .val (.long qv), .second, .val (.int (Int32.ofNat k)), .val (.ref tm), .val (.int (1 : Int32)), .val (.int (Int32.ofNat i)), .val (.int (Int32.ofNat j)), .val (.long (qv &&& (9223372036854775807 : Int64))), .second, .unset, .unset, .unset, .unset]) rfl k_) ?_
    show OwnFin p e below s _ _ _ (T8.setTop (mkF m 119 #[.val (.int pn), .val (.int pI), .val (.int pJ), .val (.long qv), .second, .val (.int (Int32.ofNat k)), .val (.ref tm), .val (.int (1 : Int32)), .val (.int (Int32.ofNat i)), .val (.int (Int32.ofNat j)), .val (.long (qv &&& (9223372036854775807 : Int64))), .second, .unset, .unset, .unset, .unset] []))
    have hvv := own_nnL qv
    generalize (qv &&& (9223372036854775807 : Int64)) = vv at hvv ⊢
    show OwnFin p e below s _ _ _ (T8.setTop (mkF m 119 #[.val (.int pn), .val (.int pI), .val (.int pJ), .val (.long qv), .second, .val (.int (Int32.ofNat k)), .val (.ref tm), .val (.int (1 : Int32)), .val (.int (Int32.ofNat i)), .val (.int (Int32.ofNat j)), .val (.long vv), .second, .unset, .unset, .unset, .unset] []))
    refine own_go (fun t_ k_ => XS.aload X8.here hx rfl (hb hby at_119) rfl rfl k_) ?_
    show OwnFin p e below s _ _ _ (T8.setTop (mkF m 121 #[.val (.int pn), .val (.int pI), .val (.int pJ), .val (.long qv), .second, .val (.int (Int32.ofNat k)), .val (.ref tm), .val (.int (1 : Int32)), .val (.int (Int32.ofNat i)), .val (.int (Int32.ofNat j)), .val (.long vv), .second, .unset, .unset, .unset, .unset] [(.ref tm)]))
    refine own_go (fun t_ k_ => XS.iload X8.here hx rfl (hb hby at_121) rfl k_) ?_
    show OwnFin p e below s _ _ _ (T8.setTop (mkF m 123 #[.val (.int pn), .val (.int pI), .val (.int pJ), .val (.long qv), .second, .val (.int (Int32.ofNat k)), .val (.ref tm), .val (.int (1 : Int32)), .val (.int (Int32.ofNat i)), .val (.int (Int32.ofNat j)), .val (.long vv), .second, .unset, .unset, .unset, .unset] [(.int (Int32.ofNat i)), (.ref tm)]))
    refine own_go (fun t_ k_ => XS.lload X8.here hx rfl (hb hby at_123) rfl k_) ?_
    show OwnFin p e below s _ _ _ (T8.setTop (mkF m 125 #[.val (.int pn), .val (.int pI), .val (.int pJ), .val (.long qv), .second, .val (.int (Int32.ofNat k)), .val (.ref tm), .val (.int (1 : Int32)), .val (.int (Int32.ofNat i)), .val (.int (Int32.ofNat j)), .val (.long vv), .second, .unset, .unset, .unset, .unset] [(.long vv), (.int (Int32.ofNat i)), (.ref tm)]))
    refine own_go (fun t_ k_ => XS.lload X8.here hx rfl (hb hby at_125) rfl k_) ?_
    show OwnFin p e below s _ _ _ (T8.setTop (mkF m 127 #[.val (.int pn), .val (.int pI), .val (.int pJ), .val (.long qv), .second, .val (.int (Int32.ofNat k)), .val (.ref tm), .val (.int (1 : Int32)), .val (.int (Int32.ofNat i)), .val (.int (Int32.ofNat j)), .val (.long vv), .second, .unset, .unset, .unset, .unset] [(.long vv), (.long vv), (.int (Int32.ofNat i)), (.ref tm)]))
    refine own_go (fun t_ k_ => XS.lload X8.here hx rfl (hb hby at_127) rfl k_) ?_
    show OwnFin p e below s _ _ _ (T8.setTop (mkF m 129 #[.val (.int pn), .val (.int pI), .val (.int pJ), .val (.long qv), .second, .val (.int (Int32.ofNat k)), .val (.ref tm), .val (.int (1 : Int32)), .val (.int (Int32.ofNat i)), .val (.int (Int32.ofNat j)), .val (.long vv), .second, .unset, .unset, .unset, .unset] [(.long vv), (.long vv), (.long vv), (.int (Int32.ofNat i)), (.ref tm)]))
    obtain ⟨v9, T9, L9, X9, hQ9, st9⟩ := own_callV X8 hx hZ (y := (⟨"com/example/thymus/thymus/Times", "set", "(IJJJ)V"⟩ : MethodName)) (z := (⟨"com/example/thymus/thymus/Times", "set", "(IJJJ)V"⟩ : MethodName)) hown (hw _ (List.mem_of_getElem? (i := 29) rfl)) (hw _ (List.mem_of_getElem? (i := 30) rfl)) (notFace_of_selects (args := #[]) (mvT hZ (hw _ (List.mem_of_getElem? (i := 32) rfl)))) (hw _ (List.mem_of_getElem? (i := 32) rfl)) (hw _ (List.mem_of_getElem? (i := 31) rfl)) (hw _ (List.mem_of_getElem? (i := 2) rfl)) (hw _ (List.mem_of_getElem? (i := 33) rfl)) (by decide) (W := 0) (rm5 l Z a0 hw [] tm (Int32.ofNat i) vv vv vv ar k i (fun _ => 0) T1.heap n0 Z1 F_low F_mid F_high V_ar rfl hik g_ar ne_tm_ar) (by decide) (by decide) E_tm (g := (mkF m 129 #[.val (.int pn), .val (.int pI), .val (.int pJ), .val (.long qv), .second, .val (.int (Int32.ofNat k)), .val (.ref tm), .val (.int (1 : Int32)), .val (.int (Int32.ofNat i)), .val (.int (Int32.ofNat j)), .val (.long vv), .second, .unset, .unset, .unset, .unset] [(.long vv), (.long vv), (.long vv), (.int (Int32.ofNat i)), (.ref tm)])) rfl (by rw [hml]; rfl) (argsL := [(.int (Int32.ofNat i)), (.long vv), (.long vv), (.long vv)]) (rest := []) (lenOf pd_0_4 rfl) rfl (by show 2 * 0 + _ ≤ _; exact Nat.le_of_eq rfl) (hb hby at_129) e8 rfl (by decide) (by decide)
    obtain ⟨rfl, Nq9, Kq9, V_ar2⟩ := hQ9
    have N9 := Fr.app N6 Nq9
    have E_tm_9 := E_tm.keep Kq9
    have F_low_9 := F_low.keep Kq9 (ninS ne_tm_ar nin0)
    have F_mid_9 := F_mid.keep Kq9 (ninS ne_tm_ar nin0)
    have F_high_9 := F_high.keep Kq9 (ninS ne_tm_ar nin0)
    have Z9 : n0 ≤ T9.heap.size := Nat.le_trans Z1 Kq9.1
    refine own_go st9 ?_
    show OwnFin p e below s _ _ _ (T9.setTop (mkF m 132 #[.val (.int pn), .val (.int pI), .val (.int pJ), .val (.long qv), .second, .val (.int (Int32.ofNat k)), .val (.ref tm), .val (.int (1 : Int32)), .val (.int (Int32.ofNat i)), .val (.int (Int32.ofNat j)), .val (.long vv), .second, .unset, .unset, .unset, .unset] []))
    refine own_go (fun t_ k_ => XS.aload X9.here hx rfl (hb hby at_132) rfl rfl k_) ?_
    show OwnFin p e below s _ _ _ (T9.setTop (mkF m 134 #[.val (.int pn), .val (.int pI), .val (.int pJ), .val (.long qv), .second, .val (.int (Int32.ofNat k)), .val (.ref tm), .val (.int (1 : Int32)), .val (.int (Int32.ofNat i)), .val (.int (Int32.ofNat j)), .val (.long vv), .second, .unset, .unset, .unset, .unset] [(.ref tm)]))
    refine own_go (fun t_ k_ => XS.iload X9.here hx rfl (hb hby at_134) rfl k_) ?_
    show OwnFin p e below s _ _ _ (T9.setTop (mkF m 136 #[.val (.int pn), .val (.int pI), .val (.int pJ), .val (.long qv), .second, .val (.int (Int32.ofNat k)), .val (.ref tm), .val (.int (1 : Int32)), .val (.int (Int32.ofNat i)), .val (.int (Int32.ofNat j)), .val (.long vv), .second, .unset, .unset, .unset, .unset] [(.int (Int32.ofNat i)), (.ref tm)]))
    obtain ⟨v10, T10, L10, X10, hQ10, st10⟩ := own_callV X9 hx hZ (y := (⟨"com/example/thymus/thymus/Times", "get", "(I)Lcom/example/thymus/thymus/FuzzyTime;"⟩ : MethodName)) (z := (⟨"com/example/thymus/thymus/Times", "get", "(I)Lcom/example/thymus/thymus/FuzzyTime;"⟩ : MethodName)) hown (hw _ (List.mem_of_getElem? (i := 34) rfl)) (hw _ (List.mem_of_getElem? (i := 35) rfl)) (notFace_of_selects (args := #[]) (mvT hZ (hw _ (List.mem_of_getElem? (i := 37) rfl)))) (hw _ (List.mem_of_getElem? (i := 37) rfl)) (hw _ (List.mem_of_getElem? (i := 36) rfl)) (hw _ (List.mem_of_getElem? (i := 2) rfl)) (hw _ (List.mem_of_getElem? (i := 38) rfl)) (by decide) (W := 0) (rm6 l Z a0 hw [] tm (Int32.ofNat i) ar k i (fun z => if z = i then vv else 0) T9.heap n0 Z9 F_low_9 F_mid_9 F_high_9 V_ar2 rfl hik (own_nni _ _ hvv)) (by decide) (by decide) E_tm_9 (g := (mkF m 136 #[.val (.int pn), .val (.int pI), .val (.int pJ), .val (.long qv), .second, .val (.int (Int32.ofNat k)), .val (.ref tm), .val (.int (1 : Int32)), .val (.int (Int32.ofNat i)), .val (.int (Int32.ofNat j)), .val (.long vv), .second, .unset, .unset, .unset, .unset] [(.int (Int32.ofNat i)), (.ref tm)])) rfl (by rw [hml]; rfl) (argsL := [(.int (Int32.ofNat i))]) (rest := []) (lenOf pd_0_5 rfl) rfl (by show 2 * 0 + _ ≤ _; exact Nat.le_of_eq rfl) (hb hby at_136) rfl rfl (by decide) (by decide)
    obtain ⟨r10, rfl, Nq10, Kq10, sq10, Eq10, Fq10_0, Fq10_1, Fq10_2⟩ := hQ10
    have N10 := Fr.app N9 Nq10
    have g_r10 : n0 ≤ r10 := Nat.le_trans Z9 sq10
    have ne_tm_r10 : tm ≠ r10 := Nat.ne_of_lt (Nat.lt_of_lt_of_le E_tm_9.lt sq10)
    have ne_ar_r10 : ar ≠ r10 := Nat.ne_of_lt (Nat.lt_of_lt_of_le V_ar2.lt sq10)
    have E_tm_10 := E_tm_9.keep Kq10
    have F_low_10 := F_low_9.keep Kq10 nin0
    have F_mid_10 := F_mid_9.keep Kq10 nin0
    have F_high_10 := F_high_9.keep Kq10 nin0
    have V_ar2_10 := V_ar2.keep Kq10 nin0
    have Z10 : n0 ≤ T10.heap.size := Nat.le_trans Z9 Kq10.1
    refine own_go st10 ?_
    show OwnFin p e below s _ _ _ (T10.setTop (mkF m 139 #[.val (.int pn), .val (.int pI), .val (.int pJ), .val (.long qv), .second, .val (.int (Int32.ofNat k)), .val (.ref tm), .val (.int (1 : Int32)), .val (.int (Int32.ofNat i)), .val (.int (Int32.ofNat j)), .val (.long vv), .second, .unset, .unset, .unset, .unset] [(.ref r10)]))
    refine own_go (fun t_ k_ => XS.astore X10.here hx rfl (hb hby at_139) rfl rfl (l' := #[.val (.int pn), .val (.int pI), .val (.int pJ), .val (.long qv), .second, .val (.int (Int32.ofNat k)), .val (.ref tm), .val (.int (1 : Int32)), .val (.int (Int32.ofNat i)), .val (.int (Int32.ofNat j)), .val (.long vv), .second, .val (.ref r10), .unset, .unset, .unset]) rfl k_) ?_
    show OwnFin p e below s _ _ _ (T10.setTop (mkF m 141 #[.val (.int pn), .val (.int pI), .val (.int pJ), .val (.long qv), .second, .val (.int (Int32.ofNat k)), .val (.ref tm), .val (.int (1 : Int32)), .val (.int (Int32.ofNat i)), .val (.int (Int32.ofNat j)), .val (.long vv), .second, .val (.ref r10), .unset, .unset, .unset] []))
    refine own_go (fun t_ k_ => XS.aload X10.here hx rfl (hb hby at_141) rfl rfl k_) ?_
    show OwnFin p e below s _ _ _ (T10.setTop (mkF m 143 #[.val (.int pn), .val (.int pI), .val (.int pJ), .val (.long qv), .second, .val (.int (Int32.ofNat k)), .val (.ref tm), .val (.int (1 : Int32)), .val (.int (Int32.ofNat i)), .val (.int (Int32.ofNat j)), .val (.long vv), .second, .val (.ref r10), .unset, .unset, .unset] [(.ref tm)]))
    refine own_go (fun t_ k_ => XS.iload X10.here hx rfl (hb hby at_143) rfl k_) ?_
    show OwnFin p e below s _ _ _ (T10.setTop (mkF m 145 #[.val (.int pn), .val (.int pI), .val (.int pJ), .val (.long qv), .second, .val (.int (Int32.ofNat k)), .val (.ref tm), .val (.int (1 : Int32)), .val (.int (Int32.ofNat i)), .val (.int (Int32.ofNat j)), .val (.long vv), .second, .val (.ref r10), .unset, .unset, .unset] [(.int (Int32.ofNat j)), (.ref tm)]))
    obtain ⟨v11, T11, L11, X11, hQ11, st11⟩ := own_callV X10 hx hZ (y := (⟨"com/example/thymus/thymus/Times", "get", "(I)Lcom/example/thymus/thymus/FuzzyTime;"⟩ : MethodName)) (z := (⟨"com/example/thymus/thymus/Times", "get", "(I)Lcom/example/thymus/thymus/FuzzyTime;"⟩ : MethodName)) hown (hw _ (List.mem_of_getElem? (i := 34) rfl)) (hw _ (List.mem_of_getElem? (i := 35) rfl)) (notFace_of_selects (args := #[]) (mvT hZ (hw _ (List.mem_of_getElem? (i := 37) rfl)))) (hw _ (List.mem_of_getElem? (i := 37) rfl)) (hw _ (List.mem_of_getElem? (i := 36) rfl)) (hw _ (List.mem_of_getElem? (i := 2) rfl)) (hw _ (List.mem_of_getElem? (i := 38) rfl)) (by decide) (W := 0) (rm6 l Z a0 hw [] tm (Int32.ofNat j) ar k j (fun z => if z = i then vv else 0) T10.heap n0 Z10 F_low_10 F_mid_10 F_high_10 V_ar2_10 rfl hjk (own_nni _ _ hvv)) (by decide) (by decide) E_tm_10 (g := (mkF m 145 #[.val (.int pn), .val (.int pI), .val (.int pJ), .val (.long qv), .second, .val (.int (Int32.ofNat k)), .val (.ref tm), .val (.int (1 : Int32)), .val (.int (Int32.ofNat i)), .val (.int (Int32.ofNat j)), .val (.long vv), .second, .val (.ref r10), .unset, .unset, .unset] [(.int (Int32.ofNat j)), (.ref tm)])) rfl (by rw [hml]; rfl) (argsL := [(.int (Int32.ofNat j))]) (rest := []) (lenOf pd_0_5 rfl) rfl (by show 2 * 0 + _ ≤ _; exact Nat.le_of_eq rfl) (hb hby at_145) rfl rfl (by decide) (by decide)
    obtain ⟨r11, rfl, Nq11, Kq11, sq11, Eq11, Fq11_0, Fq11_1, Fq11_2⟩ := hQ11
    have N11 := Fr.app N10 Nq11
    have g_r11 : n0 ≤ r11 := Nat.le_trans Z10 sq11
    have ne_tm_r11 : tm ≠ r11 := Nat.ne_of_lt (Nat.lt_of_lt_of_le E_tm_10.lt sq11)
    have ne_ar_r11 : ar ≠ r11 := Nat.ne_of_lt (Nat.lt_of_lt_of_le V_ar2_10.lt sq11)
    have ne_r10_r11 : r10 ≠ r11 := Nat.ne_of_lt (Nat.lt_of_lt_of_le Eq10.lt sq11)
    have E_tm_11 := E_tm_10.keep Kq11
    have F_low_11 := F_low_10.keep Kq11 nin0
    have F_mid_11 := F_mid_10.keep Kq11 nin0
    have F_high_11 := F_high_10.keep Kq11 nin0
    have V_ar2_11 := V_ar2_10.keep Kq11 nin0
    have E_r10_11 := Eq10.keep Kq11
    have F_a_r10_11 := Fq10_0.keep Kq11 nin0
    have F_b_r10_11 := Fq10_1.keep Kq11 nin0
    have F_c_r10_11 := Fq10_2.keep Kq11 nin0
    have Z11 : n0 ≤ T11.heap.size := Nat.le_trans Z10 Kq11.1
    refine own_go st11 ?_
    show OwnFin p e below s _ _ _ (T11.setTop (mkF m 148 #[.val (.int pn), .val (.int pI), .val (.int pJ), .val (.long qv), .second, .val (.int (Int32.ofNat k)), .val (.ref tm), .val (.int (1 : Int32)), .val (.int (Int32.ofNat i)), .val (.int (Int32.ofNat j)), .val (.long vv), .second, .val (.ref r10), .unset, .unset, .unset] [(.ref r11)]))
    refine own_go (fun t_ k_ => XS.astore X11.here hx rfl (hb hby at_148) rfl rfl (l' := #[.val (.int pn), .val (.int pI), .val (.int pJ), .val (.long qv), .second, .val (.int (Int32.ofNat k)), .val (.ref tm), .val (.int (1 : Int32)), .val (.int (Int32.ofNat i)), .val (.int (Int32.ofNat j)), .val (.long vv), .second, .val (.ref r10), .val (.ref r11), .unset, .unset]) rfl k_) ?_
    show OwnFin p e below s _ _ _ (T11.setTop (mkF m 150 #[.val (.int pn), .val (.int pI), .val (.int pJ), .val (.long qv), .second, .val (.int (Int32.ofNat k)), .val (.ref tm), .val (.int (1 : Int32)), .val (.int (Int32.ofNat i)), .val (.int (Int32.ofNat j)), .val (.long vv), .second, .val (.ref r10), .val (.ref r11), .unset, .unset] []))
    by_cases hji : j = i
    · refine own_go (fun t_ k_ => XS.iload X11.here hx rfl (hb hby at_150) rfl k_) ?_
      show OwnFin p e below s _ _ _ (T11.setTop (mkF m 152 #[.val (.int pn), .val (.int pI), .val (.int pJ), .val (.long qv), .second, .val (.int (Int32.ofNat k)), .val (.ref tm), .val (.int (1 : Int32)), .val (.int (Int32.ofNat i)), .val (.int (Int32.ofNat j)), .val (.long vv), .second, .val (.ref r10), .val (.ref r11), .unset, .unset] [(.int (Int32.ofNat j))]))
      refine own_go (fun t_ k_ => XS.iload X11.here hx rfl (hb hby at_152) rfl k_) ?_
      show OwnFin p e below s _ _ _ (T11.setTop (mkF m 154 #[.val (.int pn), .val (.int pI), .val (.int pJ), .val (.long qv), .second, .val (.int (Int32.ofNat k)), .val (.ref tm), .val (.int (1 : Int32)), .val (.int (Int32.ofNat i)), .val (.int (Int32.ofNat j)), .val (.long vv), .second, .val (.ref r10), .val (.ref r11), .unset, .unset] [(.int (Int32.ofNat i)), (.int (Int32.ofNat j))]))
      have hc154 : (Int32.ofNat j) = (Int32.ofNat i) := by rw [hji]
      refine own_go (fun t_ k_ => XS.icmpNo X11.here hx rfl (hb hby at_154) rfl (teq hc154).2 k_) ?_
      show OwnFin p e below s _ _ _ (T11.setTop (mkF m 157 #[.val (.int pn), .val (.int pI), .val (.int pJ), .val (.long qv), .second, .val (.int (Int32.ofNat k)), .val (.ref tm), .val (.int (1 : Int32)), .val (.int (Int32.ofNat i)), .val (.int (Int32.ofNat j)), .val (.long vv), .second, .val (.ref r10), .val (.ref r11), .unset, .unset] []))
      refine own_go (fun t_ k_ => XS.lload X11.here hx rfl (hb hby at_157) rfl k_) ?_
      show OwnFin p e below s _ _ _ (T11.setTop (mkF m 159 #[.val (.int pn), .val (.int pI), .val (.int pJ), .val (.long qv), .second, .val (.int (Int32.ofNat k)), .val (.ref tm), .val (.int (1 : Int32)), .val (.int (Int32.ofNat i)), .val (.int (Int32.ofNat j)), .val (.long vv), .second, .val (.ref r10), .val (.ref r11), .unset, .unset] [(.long vv)]))
      refine own_go (fun t_ k_ => XS.goto X11.here hx rfl (pc0 := 159) (pc' := 163) rfl (hb hby at_159) (by decide) (by decide) k_) ?_
      show OwnFin p e below s _ _ _ (T11.setTop (mkF m 163 #[.val (.int pn), .val (.int pI), .val (.int pJ), .val (.long qv), .second, .val (.int (Int32.ofNat k)), .val (.ref tm), .val (.int (1 : Int32)), .val (.int (Int32.ofNat i)), .val (.int (Int32.ofNat j)), .val (.long vv), .second, .val (.ref r10), .val (.ref r11), .unset, .unset] [(.long vv)]))
      refine own_go (fun t_ k_ => XS.lstore X11.here hx rfl (hb hby at_163) rfl (l' := #[.val (.int pn), .val (.int pI), .val (.int pJ), .val (.long qv), .second, .val (.int (Int32.ofNat k)), .val (.ref tm), .val (.int (1 : Int32)), .val (.int (Int32.ofNat i)), .val (.int (Int32.ofNat j)), .val (.long vv), .second, .val (.ref r10), .val (.ref r11), .val (.long vv), .second]) rfl k_) ?_
      show OwnFin p e below s _ _ _ (T11.setTop (mkF m 165 #[.val (.int pn), .val (.int pI), .val (.int pJ), .val (.long qv), .second, .val (.int (Int32.ofNat k)), .val (.ref tm), .val (.int (1 : Int32)), .val (.int (Int32.ofNat i)), .val (.int (Int32.ofNat j)), .val (.long vv), .second, .val (.ref r10), .val (.ref r11), .val (.long vv), .second] []))
      refine own_go (fun t_ k_ => XS.aload X11.here hx rfl (hb hby at_165) rfl rfl k_) ?_
      show OwnFin p e below s _ _ _ (T11.setTop (mkF m 167 #[.val (.int pn), .val (.int pI), .val (.int pJ), .val (.long qv), .second, .val (.int (Int32.ofNat k)), .val (.ref tm), .val (.int (1 : Int32)), .val (.int (Int32.ofNat i)), .val (.int (Int32.ofNat j)), .val (.long vv), .second, .val (.ref r10), .val (.ref r11), .val (.long vv), .second] [(.ref r10)]))
      obtain ⟨v12, T12, L12, X12, hQ12, st12⟩ := own_callV X11 hx hZ (y := (⟨"com/example/thymus/thymus/FuzzyTime", "a", "()J"⟩ : MethodName)) (z := (⟨"com/example/thymus/thymus/FuzzyTime", "a", "()J"⟩ : MethodName)) hown (hw _ (List.mem_of_getElem? (i := 57) rfl)) (hw _ (List.mem_of_getElem? (i := 58) rfl)) (notFace_of_selects (args := #[]) (mvT hZ (hw _ (List.mem_of_getElem? (i := 60) rfl)))) (hw _ (List.mem_of_getElem? (i := 60) rfl)) (hw _ (List.mem_of_getElem? (i := 59) rfl)) (hw _ (List.mem_of_getElem? (i := 41) rfl)) (hw _ (List.mem_of_getElem? (i := 61) rfl)) (by decide) (W := 0) (rm9 l Z a0 hw [] r10 T11.heap n0 Z11 F_a_r10_11) (by decide) (by decide) E_r10_11 (g := (mkF m 167 #[.val (.int pn), .val (.int pI), .val (.int pJ), .val (.long qv), .second, .val (.int (Int32.ofNat k)), .val (.ref tm), .val (.int (1 : Int32)), .val (.int (Int32.ofNat i)), .val (.int (Int32.ofNat j)), .val (.long vv), .second, .val (.ref r10), .val (.ref r11), .val (.long vv), .second] [(.ref r10)])) rfl (by rw [hml]; rfl) (argsL := []) (rest := []) (lenOf pd_0_7 rfl) rfl (by show 2 * 0 + _ ≤ _; exact Nat.le_of_eq rfl) (hb hby at_167) rfl rfl (by decide) (by decide)
      obtain ⟨rfl, Nq12, e12⟩ := hQ12
      have N12 := Fr.app N11 Nq12
      refine own_go st12 ?_
      show OwnFin p e below s _ _ _ (T12.setTop (mkF m 170 #[.val (.int pn), .val (.int pI), .val (.int pJ), .val (.long qv), .second, .val (.int (Int32.ofNat k)), .val (.ref tm), .val (.int (1 : Int32)), .val (.int (Int32.ofNat i)), .val (.int (Int32.ofNat j)), .val (.long vv), .second, .val (.ref r10), .val (.ref r11), .val (.long vv), .second] [(.long (if i = i then vv else 0))]))
      refine own_go (fun t_ k_ => XS.lload X12.here hx rfl (hb hby at_170) rfl k_) ?_
      show OwnFin p e below s _ _ _ (T12.setTop (mkF m 172 #[.val (.int pn), .val (.int pI), .val (.int pJ), .val (.long qv), .second, .val (.int (Int32.ofNat k)), .val (.ref tm), .val (.int (1 : Int32)), .val (.int (Int32.ofNat i)), .val (.int (Int32.ofNat j)), .val (.long vv), .second, .val (.ref r10), .val (.ref r11), .val (.long vv), .second] [(.long vv), (.long (if i = i then vv else 0))]))
      refine own_go (fun t_ k_ => XS.lcmp X12.here hx rfl (hb hby at_172) rfl k_) ?_
      show OwnFin p e below s _ _ _ (T12.setTop (mkF m 173 #[.val (.int pn), .val (.int pI), .val (.int pJ), .val (.long qv), .second, .val (.int (Int32.ofNat k)), .val (.ref tm), .val (.int (1 : Int32)), .val (.int (Int32.ofNat i)), .val (.int (Int32.ofNat j)), .val (.long vv), .second, .val (.ref r10), .val (.ref r11), .val (.long vv), .second] [(.int (lcmpW (if i = i then vv else 0) vv))]))
      have hc173 : (if i = i then vv else 0) = vv := if_pos rfl
      refine own_go (fun t_ k_ => XS.ifNo X12.here hx rfl (hb hby at_173) rfl ((if0 _ _).trans (teq ((lw_eq (if i = i then vv else 0) vv).mpr hc173)).2) k_) ?_
      show OwnFin p e below s _ _ _ (T12.setTop (mkF m 176 #[.val (.int pn), .val (.int pI), .val (.int pJ), .val (.long qv), .second, .val (.int (Int32.ofNat k)), .val (.ref tm), .val (.int (1 : Int32)), .val (.int (Int32.ofNat i)), .val (.int (Int32.ofNat j)), .val (.long vv), .second, .val (.ref r10), .val (.ref r11), .val (.long vv), .second] []))
      refine own_go (fun t_ k_ => XS.aload X12.here hx rfl (hb hby at_176) rfl rfl k_) ?_
      show OwnFin p e below s _ _ _ (T12.setTop (mkF m 178 #[.val (.int pn), .val (.int pI), .val (.int pJ), .val (.long qv), .second, .val (.int (Int32.ofNat k)), .val (.ref tm), .val (.int (1 : Int32)), .val (.int (Int32.ofNat i)), .val (.int (Int32.ofNat j)), .val (.long vv), .second, .val (.ref r10), .val (.ref r11), .val (.long vv), .second] [(.ref r10)]))
      obtain ⟨v13, T13, L13, X13, hQ13, st13⟩ := own_callV X12 hx hZ (y := (⟨"com/example/thymus/thymus/FuzzyTime", "b", "()J"⟩ : MethodName)) (z := (⟨"com/example/thymus/thymus/FuzzyTime", "b", "()J"⟩ : MethodName)) hown (hw _ (List.mem_of_getElem? (i := 62) rfl)) (hw _ (List.mem_of_getElem? (i := 63) rfl)) (notFace_of_selects (args := #[]) (mvT hZ (hw _ (List.mem_of_getElem? (i := 65) rfl)))) (hw _ (List.mem_of_getElem? (i := 65) rfl)) (hw _ (List.mem_of_getElem? (i := 64) rfl)) (hw _ (List.mem_of_getElem? (i := 41) rfl)) (hw _ (List.mem_of_getElem? (i := 66) rfl)) (by decide) (W := 0) (rm10 l Z a0 hw [] r10 T11.heap n0 Z11 F_b_r10_11) (by decide) (by decide) E_r10_11 (g := (mkF m 178 #[.val (.int pn), .val (.int pI), .val (.int pJ), .val (.long qv), .second, .val (.int (Int32.ofNat k)), .val (.ref tm), .val (.int (1 : Int32)), .val (.int (Int32.ofNat i)), .val (.int (Int32.ofNat j)), .val (.long vv), .second, .val (.ref r10), .val (.ref r11), .val (.long vv), .second] [(.ref r10)])) rfl (by rw [hml]; rfl) (argsL := []) (rest := []) (lenOf pd_0_7 rfl) rfl (by show 2 * 0 + _ ≤ _; exact Nat.le_of_eq rfl) (hb hby at_178) e12 rfl (by decide) (by decide)
      obtain ⟨rfl, Nq13, e13⟩ := hQ13
      have N13 := Fr.app N12 Nq13
      refine own_go st13 ?_
      show OwnFin p e below s _ _ _ (T13.setTop (mkF m 181 #[.val (.int pn), .val (.int pI), .val (.int pJ), .val (.long qv), .second, .val (.int (Int32.ofNat k)), .val (.ref tm), .val (.int (1 : Int32)), .val (.int (Int32.ofNat i)), .val (.int (Int32.ofNat j)), .val (.long vv), .second, .val (.ref r10), .val (.ref r11), .val (.long vv), .second] [(.long (if i = i then vv else 0))]))
      refine own_go (fun t_ k_ => XS.lload X13.here hx rfl (hb hby at_181) rfl k_) ?_
      show OwnFin p e below s _ _ _ (T13.setTop (mkF m 183 #[.val (.int pn), .val (.int pI), .val (.int pJ), .val (.long qv), .second, .val (.int (Int32.ofNat k)), .val (.ref tm), .val (.int (1 : Int32)), .val (.int (Int32.ofNat i)), .val (.int (Int32.ofNat j)), .val (.long vv), .second, .val (.ref r10), .val (.ref r11), .val (.long vv), .second] [(.long vv), (.long (if i = i then vv else 0))]))
      refine own_go (fun t_ k_ => XS.lcmp X13.here hx rfl (hb hby at_183) rfl k_) ?_
      show OwnFin p e below s _ _ _ (T13.setTop (mkF m 184 #[.val (.int pn), .val (.int pI), .val (.int pJ), .val (.long qv), .second, .val (.int (Int32.ofNat k)), .val (.ref tm), .val (.int (1 : Int32)), .val (.int (Int32.ofNat i)), .val (.int (Int32.ofNat j)), .val (.long vv), .second, .val (.ref r10), .val (.ref r11), .val (.long vv), .second] [(.int (lcmpW (if i = i then vv else 0) vv))]))
      have hc184 : (if i = i then vv else 0) = vv := if_pos rfl
      refine own_go (fun t_ k_ => XS.ifNo X13.here hx rfl (hb hby at_184) rfl ((if0 _ _).trans (teq ((lw_eq (if i = i then vv else 0) vv).mpr hc184)).2) k_) ?_
      show OwnFin p e below s _ _ _ (T13.setTop (mkF m 187 #[.val (.int pn), .val (.int pI), .val (.int pJ), .val (.long qv), .second, .val (.int (Int32.ofNat k)), .val (.ref tm), .val (.int (1 : Int32)), .val (.int (Int32.ofNat i)), .val (.int (Int32.ofNat j)), .val (.long vv), .second, .val (.ref r10), .val (.ref r11), .val (.long vv), .second] []))
      refine own_go (fun t_ k_ => XS.aload X13.here hx rfl (hb hby at_187) rfl rfl k_) ?_
      show OwnFin p e below s _ _ _ (T13.setTop (mkF m 189 #[.val (.int pn), .val (.int pI), .val (.int pJ), .val (.long qv), .second, .val (.int (Int32.ofNat k)), .val (.ref tm), .val (.int (1 : Int32)), .val (.int (Int32.ofNat i)), .val (.int (Int32.ofNat j)), .val (.long vv), .second, .val (.ref r10), .val (.ref r11), .val (.long vv), .second] [(.ref r10)]))
      obtain ⟨v14, T14, L14, X14, hQ14, st14⟩ := own_callV X13 hx hZ (y := (⟨"com/example/thymus/thymus/FuzzyTime", "c", "()J"⟩ : MethodName)) (z := (⟨"com/example/thymus/thymus/FuzzyTime", "c", "()J"⟩ : MethodName)) hown (hw _ (List.mem_of_getElem? (i := 67) rfl)) (hw _ (List.mem_of_getElem? (i := 68) rfl)) (notFace_of_selects (args := #[]) (mvT hZ (hw _ (List.mem_of_getElem? (i := 70) rfl)))) (hw _ (List.mem_of_getElem? (i := 70) rfl)) (hw _ (List.mem_of_getElem? (i := 69) rfl)) (hw _ (List.mem_of_getElem? (i := 41) rfl)) (hw _ (List.mem_of_getElem? (i := 71) rfl)) (by decide) (W := 0) (rm11 l Z a0 hw [] r10 T11.heap n0 Z11 F_c_r10_11) (by decide) (by decide) E_r10_11 (g := (mkF m 189 #[.val (.int pn), .val (.int pI), .val (.int pJ), .val (.long qv), .second, .val (.int (Int32.ofNat k)), .val (.ref tm), .val (.int (1 : Int32)), .val (.int (Int32.ofNat i)), .val (.int (Int32.ofNat j)), .val (.long vv), .second, .val (.ref r10), .val (.ref r11), .val (.long vv), .second] [(.ref r10)])) rfl (by rw [hml]; rfl) (argsL := []) (rest := []) (lenOf pd_0_7 rfl) rfl (by show 2 * 0 + _ ≤ _; exact Nat.le_of_eq rfl) (hb hby at_189) e13 rfl (by decide) (by decide)
      obtain ⟨rfl, Nq14, e14⟩ := hQ14
      have N14 := Fr.app N13 Nq14
      refine own_go st14 ?_
      show OwnFin p e below s _ _ _ (T14.setTop (mkF m 192 #[.val (.int pn), .val (.int pI), .val (.int pJ), .val (.long qv), .second, .val (.int (Int32.ofNat k)), .val (.ref tm), .val (.int (1 : Int32)), .val (.int (Int32.ofNat i)), .val (.int (Int32.ofNat j)), .val (.long vv), .second, .val (.ref r10), .val (.ref r11), .val (.long vv), .second] [(.long (if i = i then vv else 0))]))
      refine own_go (fun t_ k_ => XS.lload X14.here hx rfl (hb hby at_192) rfl k_) ?_
      show OwnFin p e below s _ _ _ (T14.setTop (mkF m 194 #[.val (.int pn), .val (.int pI), .val (.int pJ), .val (.long qv), .second, .val (.int (Int32.ofNat k)), .val (.ref tm), .val (.int (1 : Int32)), .val (.int (Int32.ofNat i)), .val (.int (Int32.ofNat j)), .val (.long vv), .second, .val (.ref r10), .val (.ref r11), .val (.long vv), .second] [(.long vv), (.long (if i = i then vv else 0))]))
      refine own_go (fun t_ k_ => XS.lcmp X14.here hx rfl (hb hby at_194) rfl k_) ?_
      show OwnFin p e below s _ _ _ (T14.setTop (mkF m 195 #[.val (.int pn), .val (.int pI), .val (.int pJ), .val (.long qv), .second, .val (.int (Int32.ofNat k)), .val (.ref tm), .val (.int (1 : Int32)), .val (.int (Int32.ofNat i)), .val (.int (Int32.ofNat j)), .val (.long vv), .second, .val (.ref r10), .val (.ref r11), .val (.long vv), .second] [(.int (lcmpW (if i = i then vv else 0) vv))]))
      have hc195 : (if i = i then vv else 0) = vv := if_pos rfl
      refine own_go (fun t_ k_ => XS.ifNo X14.here hx rfl (hb hby at_195) rfl ((if0 _ _).trans (teq ((lw_eq (if i = i then vv else 0) vv).mpr hc195)).2) k_) ?_
      show OwnFin p e below s _ _ _ (T14.setTop (mkF m 198 #[.val (.int pn), .val (.int pI), .val (.int pJ), .val (.long qv), .second, .val (.int (Int32.ofNat k)), .val (.ref tm), .val (.int (1 : Int32)), .val (.int (Int32.ofNat i)), .val (.int (Int32.ofNat j)), .val (.long vv), .second, .val (.ref r10), .val (.ref r11), .val (.long vv), .second] []))
      refine own_go (fun t_ k_ => XS.aload X14.here hx rfl (hb hby at_198) rfl rfl k_) ?_
      show OwnFin p e below s _ _ _ (T14.setTop (mkF m 200 #[.val (.int pn), .val (.int pI), .val (.int pJ), .val (.long qv), .second, .val (.int (Int32.ofNat k)), .val (.ref tm), .val (.int (1 : Int32)), .val (.int (Int32.ofNat i)), .val (.int (Int32.ofNat j)), .val (.long vv), .second, .val (.ref r10), .val (.ref r11), .val (.long vv), .second] [(.ref r11)]))
      obtain ⟨v15, T15, L15, X15, hQ15, st15⟩ := own_callV X14 hx hZ (y := (⟨"com/example/thymus/thymus/FuzzyTime", "a", "()J"⟩ : MethodName)) (z := (⟨"com/example/thymus/thymus/FuzzyTime", "a", "()J"⟩ : MethodName)) hown (hw _ (List.mem_of_getElem? (i := 57) rfl)) (hw _ (List.mem_of_getElem? (i := 58) rfl)) (notFace_of_selects (args := #[]) (mvT hZ (hw _ (List.mem_of_getElem? (i := 60) rfl)))) (hw _ (List.mem_of_getElem? (i := 60) rfl)) (hw _ (List.mem_of_getElem? (i := 59) rfl)) (hw _ (List.mem_of_getElem? (i := 41) rfl)) (hw _ (List.mem_of_getElem? (i := 61) rfl)) (by decide) (W := 0) (rm9 l Z a0 hw [] r11 T11.heap n0 Z11 Fq11_0) (by decide) (by decide) Eq11 (g := (mkF m 200 #[.val (.int pn), .val (.int pI), .val (.int pJ), .val (.long qv), .second, .val (.int (Int32.ofNat k)), .val (.ref tm), .val (.int (1 : Int32)), .val (.int (Int32.ofNat i)), .val (.int (Int32.ofNat j)), .val (.long vv), .second, .val (.ref r10), .val (.ref r11), .val (.long vv), .second] [(.ref r11)])) rfl (by rw [hml]; rfl) (argsL := []) (rest := []) (lenOf pd_0_7 rfl) rfl (by show 2 * 0 + _ ≤ _; exact Nat.le_of_eq rfl) (hb hby at_200) e14 rfl (by decide) (by decide)
      obtain ⟨rfl, Nq15, e15⟩ := hQ15
      have N15 := Fr.app N14 Nq15
      refine own_go st15 ?_
      show OwnFin p e below s _ _ _ (T15.setTop (mkF m 203 #[.val (.int pn), .val (.int pI), .val (.int pJ), .val (.long qv), .second, .val (.int (Int32.ofNat k)), .val (.ref tm), .val (.int (1 : Int32)), .val (.int (Int32.ofNat i)), .val (.int (Int32.ofNat j)), .val (.long vv), .second, .val (.ref r10), .val (.ref r11), .val (.long vv), .second] [(.long (if j = i then vv else 0))]))
      refine own_go (fun t_ k_ => XS.lload X15.here hx rfl (hb hby at_203) rfl k_) ?_
      show OwnFin p e below s _ _ _ (T15.setTop (mkF m 205 #[.val (.int pn), .val (.int pI), .val (.int pJ), .val (.long qv), .second, .val (.int (Int32.ofNat k)), .val (.ref tm), .val (.int (1 : Int32)), .val (.int (Int32.ofNat i)), .val (.int (Int32.ofNat j)), .val (.long vv), .second, .val (.ref r10), .val (.ref r11), .val (.long vv), .second] [(.long vv), (.long (if j = i then vv else 0))]))
      refine own_go (fun t_ k_ => XS.lcmp X15.here hx rfl (hb hby at_205) rfl k_) ?_
      show OwnFin p e below s _ _ _ (T15.setTop (mkF m 206 #[.val (.int pn), .val (.int pI), .val (.int pJ), .val (.long qv), .second, .val (.int (Int32.ofNat k)), .val (.ref tm), .val (.int (1 : Int32)), .val (.int (Int32.ofNat i)), .val (.int (Int32.ofNat j)), .val (.long vv), .second, .val (.ref r10), .val (.ref r11), .val (.long vv), .second] [(.int (lcmpW (if j = i then vv else 0) vv))]))
      have hc206 : (if j = i then vv else 0) = vv := if_pos hji
      refine own_go (fun t_ k_ => XS.ifNo X15.here hx rfl (hb hby at_206) rfl ((if0 _ _).trans (teq ((lw_eq (if j = i then vv else 0) vv).mpr hc206)).2) k_) ?_
      show OwnFin p e below s _ _ _ (T15.setTop (mkF m 209 #[.val (.int pn), .val (.int pI), .val (.int pJ), .val (.long qv), .second, .val (.int (Int32.ofNat k)), .val (.ref tm), .val (.int (1 : Int32)), .val (.int (Int32.ofNat i)), .val (.int (Int32.ofNat j)), .val (.long vv), .second, .val (.ref r10), .val (.ref r11), .val (.long vv), .second] []))
      refine own_go (fun t_ k_ => XS.aload X15.here hx rfl (hb hby at_209) rfl rfl k_) ?_
      show OwnFin p e below s _ _ _ (T15.setTop (mkF m 211 #[.val (.int pn), .val (.int pI), .val (.int pJ), .val (.long qv), .second, .val (.int (Int32.ofNat k)), .val (.ref tm), .val (.int (1 : Int32)), .val (.int (Int32.ofNat i)), .val (.int (Int32.ofNat j)), .val (.long vv), .second, .val (.ref r10), .val (.ref r11), .val (.long vv), .second] [(.ref r11)]))
      obtain ⟨v16, T16, L16, X16, hQ16, st16⟩ := own_callV X15 hx hZ (y := (⟨"com/example/thymus/thymus/FuzzyTime", "b", "()J"⟩ : MethodName)) (z := (⟨"com/example/thymus/thymus/FuzzyTime", "b", "()J"⟩ : MethodName)) hown (hw _ (List.mem_of_getElem? (i := 62) rfl)) (hw _ (List.mem_of_getElem? (i := 63) rfl)) (notFace_of_selects (args := #[]) (mvT hZ (hw _ (List.mem_of_getElem? (i := 65) rfl)))) (hw _ (List.mem_of_getElem? (i := 65) rfl)) (hw _ (List.mem_of_getElem? (i := 64) rfl)) (hw _ (List.mem_of_getElem? (i := 41) rfl)) (hw _ (List.mem_of_getElem? (i := 66) rfl)) (by decide) (W := 0) (rm10 l Z a0 hw [] r11 T11.heap n0 Z11 Fq11_1) (by decide) (by decide) Eq11 (g := (mkF m 211 #[.val (.int pn), .val (.int pI), .val (.int pJ), .val (.long qv), .second, .val (.int (Int32.ofNat k)), .val (.ref tm), .val (.int (1 : Int32)), .val (.int (Int32.ofNat i)), .val (.int (Int32.ofNat j)), .val (.long vv), .second, .val (.ref r10), .val (.ref r11), .val (.long vv), .second] [(.ref r11)])) rfl (by rw [hml]; rfl) (argsL := []) (rest := []) (lenOf pd_0_7 rfl) rfl (by show 2 * 0 + _ ≤ _; exact Nat.le_of_eq rfl) (hb hby at_211) e15 rfl (by decide) (by decide)
      obtain ⟨rfl, Nq16, e16⟩ := hQ16
      have N16 := Fr.app N15 Nq16
      refine own_go st16 ?_
      show OwnFin p e below s _ _ _ (T16.setTop (mkF m 214 #[.val (.int pn), .val (.int pI), .val (.int pJ), .val (.long qv), .second, .val (.int (Int32.ofNat k)), .val (.ref tm), .val (.int (1 : Int32)), .val (.int (Int32.ofNat i)), .val (.int (Int32.ofNat j)), .val (.long vv), .second, .val (.ref r10), .val (.ref r11), .val (.long vv), .second] [(.long (if j = i then vv else 0))]))
      refine own_go (fun t_ k_ => XS.lload X16.here hx rfl (hb hby at_214) rfl k_) ?_
      show OwnFin p e below s _ _ _ (T16.setTop (mkF m 216 #[.val (.int pn), .val (.int pI), .val (.int pJ), .val (.long qv), .second, .val (.int (Int32.ofNat k)), .val (.ref tm), .val (.int (1 : Int32)), .val (.int (Int32.ofNat i)), .val (.int (Int32.ofNat j)), .val (.long vv), .second, .val (.ref r10), .val (.ref r11), .val (.long vv), .second] [(.long vv), (.long (if j = i then vv else 0))]))
      refine own_go (fun t_ k_ => XS.lcmp X16.here hx rfl (hb hby at_216) rfl k_) ?_
      show OwnFin p e below s _ _ _ (T16.setTop (mkF m 217 #[.val (.int pn), .val (.int pI), .val (.int pJ), .val (.long qv), .second, .val (.int (Int32.ofNat k)), .val (.ref tm), .val (.int (1 : Int32)), .val (.int (Int32.ofNat i)), .val (.int (Int32.ofNat j)), .val (.long vv), .second, .val (.ref r10), .val (.ref r11), .val (.long vv), .second] [(.int (lcmpW (if j = i then vv else 0) vv))]))
      have hc217 : (if j = i then vv else 0) = vv := if_pos hji
      refine own_go (fun t_ k_ => XS.ifNo X16.here hx rfl (hb hby at_217) rfl ((if0 _ _).trans (teq ((lw_eq (if j = i then vv else 0) vv).mpr hc217)).2) k_) ?_
      show OwnFin p e below s _ _ _ (T16.setTop (mkF m 220 #[.val (.int pn), .val (.int pI), .val (.int pJ), .val (.long qv), .second, .val (.int (Int32.ofNat k)), .val (.ref tm), .val (.int (1 : Int32)), .val (.int (Int32.ofNat i)), .val (.int (Int32.ofNat j)), .val (.long vv), .second, .val (.ref r10), .val (.ref r11), .val (.long vv), .second] []))
      refine own_go (fun t_ k_ => XS.aload X16.here hx rfl (hb hby at_220) rfl rfl k_) ?_
      show OwnFin p e below s _ _ _ (T16.setTop (mkF m 222 #[.val (.int pn), .val (.int pI), .val (.int pJ), .val (.long qv), .second, .val (.int (Int32.ofNat k)), .val (.ref tm), .val (.int (1 : Int32)), .val (.int (Int32.ofNat i)), .val (.int (Int32.ofNat j)), .val (.long vv), .second, .val (.ref r10), .val (.ref r11), .val (.long vv), .second] [(.ref r11)]))
      obtain ⟨v17, T17, L17, X17, hQ17, st17⟩ := own_callV X16 hx hZ (y := (⟨"com/example/thymus/thymus/FuzzyTime", "c", "()J"⟩ : MethodName)) (z := (⟨"com/example/thymus/thymus/FuzzyTime", "c", "()J"⟩ : MethodName)) hown (hw _ (List.mem_of_getElem? (i := 67) rfl)) (hw _ (List.mem_of_getElem? (i := 68) rfl)) (notFace_of_selects (args := #[]) (mvT hZ (hw _ (List.mem_of_getElem? (i := 70) rfl)))) (hw _ (List.mem_of_getElem? (i := 70) rfl)) (hw _ (List.mem_of_getElem? (i := 69) rfl)) (hw _ (List.mem_of_getElem? (i := 41) rfl)) (hw _ (List.mem_of_getElem? (i := 71) rfl)) (by decide) (W := 0) (rm11 l Z a0 hw [] r11 T11.heap n0 Z11 Fq11_2) (by decide) (by decide) Eq11 (g := (mkF m 222 #[.val (.int pn), .val (.int pI), .val (.int pJ), .val (.long qv), .second, .val (.int (Int32.ofNat k)), .val (.ref tm), .val (.int (1 : Int32)), .val (.int (Int32.ofNat i)), .val (.int (Int32.ofNat j)), .val (.long vv), .second, .val (.ref r10), .val (.ref r11), .val (.long vv), .second] [(.ref r11)])) rfl (by rw [hml]; rfl) (argsL := []) (rest := []) (lenOf pd_0_7 rfl) rfl (by show 2 * 0 + _ ≤ _; exact Nat.le_of_eq rfl) (hb hby at_222) e16 rfl (by decide) (by decide)
      obtain ⟨rfl, Nq17, e17⟩ := hQ17
      have N17 := Fr.app N16 Nq17
      refine own_go st17 ?_
      show OwnFin p e below s _ _ _ (T17.setTop (mkF m 225 #[.val (.int pn), .val (.int pI), .val (.int pJ), .val (.long qv), .second, .val (.int (Int32.ofNat k)), .val (.ref tm), .val (.int (1 : Int32)), .val (.int (Int32.ofNat i)), .val (.int (Int32.ofNat j)), .val (.long vv), .second, .val (.ref r10), .val (.ref r11), .val (.long vv), .second] [(.long (if j = i then vv else 0))]))
      refine own_go (fun t_ k_ => XS.lload X17.here hx rfl (hb hby at_225) rfl k_) ?_
      show OwnFin p e below s _ _ _ (T17.setTop (mkF m 227 #[.val (.int pn), .val (.int pI), .val (.int pJ), .val (.long qv), .second, .val (.int (Int32.ofNat k)), .val (.ref tm), .val (.int (1 : Int32)), .val (.int (Int32.ofNat i)), .val (.int (Int32.ofNat j)), .val (.long vv), .second, .val (.ref r10), .val (.ref r11), .val (.long vv), .second] [(.long vv), (.long (if j = i then vv else 0))]))
      refine own_go (fun t_ k_ => XS.lcmp X17.here hx rfl (hb hby at_227) rfl k_) ?_
      show OwnFin p e below s _ _ _ (T17.setTop (mkF m 228 #[.val (.int pn), .val (.int pI), .val (.int pJ), .val (.long qv), .second, .val (.int (Int32.ofNat k)), .val (.ref tm), .val (.int (1 : Int32)), .val (.int (Int32.ofNat i)), .val (.int (Int32.ofNat j)), .val (.long vv), .second, .val (.ref r10), .val (.ref r11), .val (.long vv), .second] [(.int (lcmpW (if j = i then vv else 0) vv))]))
      have hc228 : (if j = i then vv else 0) = vv := if_pos hji
      refine own_go (fun t_ k_ => XS.ifNo X17.here hx rfl (hb hby at_228) rfl ((if0 _ _).trans (teq ((lw_eq (if j = i then vv else 0) vv).mpr hc228)).2) k_) ?_
      show OwnFin p e below s _ _ _ (T17.setTop (mkF m 231 #[.val (.int pn), .val (.int pI), .val (.int pJ), .val (.long qv), .second, .val (.int (Int32.ofNat k)), .val (.ref tm), .val (.int (1 : Int32)), .val (.int (Int32.ofNat i)), .val (.int (Int32.ofNat j)), .val (.long vv), .second, .val (.ref r10), .val (.ref r11), .val (.long vv), .second] []))
      refine own_go (fun t_ k_ => XS.aload X17.here hx rfl (hb hby at_231) rfl rfl k_) ?_
      show OwnFin p e below s _ _ _ (T17.setTop (mkF m 233 #[.val (.int pn), .val (.int pI), .val (.int pJ), .val (.long qv), .second, .val (.int (Int32.ofNat k)), .val (.ref tm), .val (.int (1 : Int32)), .val (.int (Int32.ofNat i)), .val (.int (Int32.ofNat j)), .val (.long vv), .second, .val (.ref r10), .val (.ref r11), .val (.long vv), .second] [(.ref tm)]))
      obtain ⟨T18, X18, e18, st18⟩ := getF X17 hx hZ hown (host := "") (Or.inl (hw _ (List.mem_of_getElem? (i := 19) rfl))) Via.refl e17 F_low_11 (g := (mkF m 233 #[.val (.int pn), .val (.int pI), .val (.int pJ), .val (.long qv), .second, .val (.int (Int32.ofNat k)), .val (.ref tm), .val (.int (1 : Int32)), .val (.int (Int32.ofNat i)), .val (.int (Int32.ofNat j)), .val (.long vv), .second, .val (.ref r10), .val (.ref r11), .val (.long vv), .second] [(.ref tm)])) rfl rfl (hb hby at_233)
      refine own_go st18 ?_
      show OwnFin p e below s _ _ _ (T18.setTop (mkF m 236 #[.val (.int pn), .val (.int pI), .val (.int pJ), .val (.long qv), .second, .val (.int (Int32.ofNat k)), .val (.ref tm), .val (.int (1 : Int32)), .val (.int (Int32.ofNat i)), .val (.int (Int32.ofNat j)), .val (.long vv), .second, .val (.ref r10), .val (.ref r11), .val (.long vv), .second] [(.ref ar)]))
      refine own_go (fun t_ k_ => XS.iload X18.here hx rfl (hb hby at_236) rfl k_) ?_
      show OwnFin p e below s _ _ _ (T18.setTop (mkF m 238 #[.val (.int pn), .val (.int pI), .val (.int pJ), .val (.long qv), .second, .val (.int (Int32.ofNat k)), .val (.ref tm), .val (.int (1 : Int32)), .val (.int (Int32.ofNat i)), .val (.int (Int32.ofNat j)), .val (.long vv), .second, .val (.ref r10), .val (.ref r11), .val (.long vv), .second] [(.int (Int32.ofNat j)), (.ref ar)]))
      refine own_go (own_laload X18 hx hZ e18 V_ar2_11 (i := j) rfl hjk (g := (mkF m 238 #[.val (.int pn), .val (.int pI), .val (.int pJ), .val (.long qv), .second, .val (.int (Int32.ofNat k)), .val (.ref tm), .val (.int (1 : Int32)), .val (.int (Int32.ofNat i)), .val (.int (Int32.ofNat j)), .val (.long vv), .second, .val (.ref r10), .val (.ref r11), .val (.long vv), .second] [(.int (Int32.ofNat j)), (.ref ar)])) rfl rfl (hb hby at_238)) ?_
      show OwnFin p e below s _ _ _ (T18.setTop (mkF m 239 #[.val (.int pn), .val (.int pI), .val (.int pJ), .val (.long qv), .second, .val (.int (Int32.ofNat k)), .val (.ref tm), .val (.int (1 : Int32)), .val (.int (Int32.ofNat i)), .val (.int (Int32.ofNat j)), .val (.long vv), .second, .val (.ref r10), .val (.ref r11), .val (.long vv), .second] [(.long (if j = i then vv else 0))]))
      refine own_go (fun t_ k_ => XS.lload X18.here hx rfl (hb hby at_239) rfl k_) ?_
      show OwnFin p e below s _ _ _ (T18.setTop (mkF m 241 #[.val (.int pn), .val (.int pI), .val (.int pJ), .val (.long qv), .second, .val (.int (Int32.ofNat k)), .val (.ref tm), .val (.int (1 : Int32)), .val (.int (Int32.ofNat i)), .val (.int (Int32.ofNat j)), .val (.long vv), .second, .val (.ref r10), .val (.ref r11), .val (.long vv), .second] [(.long vv), (.long (if j = i then vv else 0))]))
      refine own_go (fun t_ k_ => XS.lcmp X18.here hx rfl (hb hby at_241) rfl k_) ?_
      show OwnFin p e below s _ _ _ (T18.setTop (mkF m 242 #[.val (.int pn), .val (.int pI), .val (.int pJ), .val (.long qv), .second, .val (.int (Int32.ofNat k)), .val (.ref tm), .val (.int (1 : Int32)), .val (.int (Int32.ofNat i)), .val (.int (Int32.ofNat j)), .val (.long vv), .second, .val (.ref r10), .val (.ref r11), .val (.long vv), .second] [(.int (lcmpW (if j = i then vv else 0) vv))]))
      have hc242 : (if j = i then vv else 0) = vv := if_pos hji
      refine own_go (fun t_ k_ => XS.ifNo X18.here hx rfl (hb hby at_242) rfl ((if0 _ _).trans (teq ((lw_eq (if j = i then vv else 0) vv).mpr hc242)).2) k_) ?_
      show OwnFin p e below s _ _ _ (T18.setTop (mkF m 245 #[.val (.int pn), .val (.int pI), .val (.int pJ), .val (.long qv), .second, .val (.int (Int32.ofNat k)), .val (.ref tm), .val (.int (1 : Int32)), .val (.int (Int32.ofNat i)), .val (.int (Int32.ofNat j)), .val (.long vv), .second, .val (.ref r10), .val (.ref r11), .val (.long vv), .second] []))
      refine own_go (fun t_ k_ => XS.aload X18.here hx rfl (hb hby at_245) rfl rfl k_) ?_
      show OwnFin p e below s _ _ _ (T18.setTop (mkF m 247 #[.val (.int pn), .val (.int pI), .val (.int pJ), .val (.long qv), .second, .val (.int (Int32.ofNat k)), .val (.ref tm), .val (.int (1 : Int32)), .val (.int (Int32.ofNat i)), .val (.int (Int32.ofNat j)), .val (.long vv), .second, .val (.ref r10), .val (.ref r11), .val (.long vv), .second] [(.ref tm)]))
      obtain ⟨T19, X19, e19, st19⟩ := getF X18 hx hZ hown (host := "") (Or.inl (hw _ (List.mem_of_getElem? (i := 21) rfl))) Via.refl e18 F_high_11 (g := (mkF m 247 #[.val (.int pn), .val (.int pI), .val (.int pJ), .val (.long qv), .second, .val (.int (Int32.ofNat k)), .val (.ref tm), .val (.int (1 : Int32)), .val (.int (Int32.ofNat i)), .val (.int (Int32.ofNat j)), .val (.long vv), .second, .val (.ref r10), .val (.ref r11), .val (.long vv), .second] [(.ref tm)])) rfl rfl (hb hby at_247)
      refine own_go st19 ?_
      show OwnFin p e below s _ _ _ (T19.setTop (mkF m 250 #[.val (.int pn), .val (.int pI), .val (.int pJ), .val (.long qv), .second, .val (.int (Int32.ofNat k)), .val (.ref tm), .val (.int (1 : Int32)), .val (.int (Int32.ofNat i)), .val (.int (Int32.ofNat j)), .val (.long vv), .second, .val (.ref r10), .val (.ref r11), .val (.long vv), .second] [(.ref ar)]))
      refine own_go (fun t_ k_ => XS.iload X19.here hx rfl (hb hby at_250) rfl k_) ?_
      show OwnFin p e below s _ _ _ (T19.setTop (mkF m 252 #[.val (.int pn), .val (.int pI), .val (.int pJ), .val (.long qv), .second, .val (.int (Int32.ofNat k)), .val (.ref tm), .val (.int (1 : Int32)), .val (.int (Int32.ofNat i)), .val (.int (Int32.ofNat j)), .val (.long vv), .second, .val (.ref r10), .val (.ref r11), .val (.long vv), .second] [(.int (Int32.ofNat j)), (.ref ar)]))
      refine own_go (own_laload X19 hx hZ e19 V_ar2_11 (i := j) rfl hjk (g := (mkF m 252 #[.val (.int pn), .val (.int pI), .val (.int pJ), .val (.long qv), .second, .val (.int (Int32.ofNat k)), .val (.ref tm), .val (.int (1 : Int32)), .val (.int (Int32.ofNat i)), .val (.int (Int32.ofNat j)), .val (.long vv), .second, .val (.ref r10), .val (.ref r11), .val (.long vv), .second] [(.int (Int32.ofNat j)), (.ref ar)])) rfl rfl (hb hby at_252)) ?_
      show OwnFin p e below s _ _ _ (T19.setTop (mkF m 253 #[.val (.int pn), .val (.int pI), .val (.int pJ), .val (.long qv), .second, .val (.int (Int32.ofNat k)), .val (.ref tm), .val (.int (1 : Int32)), .val (.int (Int32.ofNat i)), .val (.int (Int32.ofNat j)), .val (.long vv), .second, .val (.ref r10), .val (.ref r11), .val (.long vv), .second] [(.long (if j = i then vv else 0))]))
      refine own_go (fun t_ k_ => XS.lload X19.here hx rfl (hb hby at_253) rfl k_) ?_
      show OwnFin p e below s _ _ _ (T19.setTop (mkF m 255 #[.val (.int pn), .val (.int pI), .val (.int pJ), .val (.long qv), .second, .val (.int (Int32.ofNat k)), .val (.ref tm), .val (.int (1 : Int32)), .val (.int (Int32.ofNat i)), .val (.int (Int32.ofNat j)), .val (.long vv), .second, .val (.ref r10), .val (.ref r11), .val (.long vv), .second] [(.long vv), (.long (if j = i then vv else 0))]))
      refine own_go (fun t_ k_ => XS.lcmp X19.here hx rfl (hb hby at_255) rfl k_) ?_
      show OwnFin p e below s _ _ _ (T19.setTop (mkF m 256 #[.val (.int pn), .val (.int pI), .val (.int pJ), .val (.long qv), .second, .val (.int (Int32.ofNat k)), .val (.ref tm), .val (.int (1 : Int32)), .val (.int (Int32.ofNat i)), .val (.int (Int32.ofNat j)), .val (.long vv), .second, .val (.ref r10), .val (.ref r11), .val (.long vv), .second] [(.int (lcmpW (if j = i then vv else 0) vv))]))
      have hc256 : (if j = i then vv else 0) = vv := if_pos hji
      refine own_go (fun t_ k_ => XS.ifNo X19.here hx rfl (hb hby at_256) rfl ((if0 _ _).trans (teq ((lw_eq (if j = i then vv else 0) vv).mpr hc256)).2) k_) ?_
      show OwnFin p e below s _ _ _ (T19.setTop (mkF m 259 #[.val (.int pn), .val (.int pI), .val (.int pJ), .val (.long qv), .second, .val (.int (Int32.ofNat k)), .val (.ref tm), .val (.int (1 : Int32)), .val (.int (Int32.ofNat i)), .val (.int (Int32.ofNat j)), .val (.long vv), .second, .val (.ref r10), .val (.ref r11), .val (.long vv), .second] []))
      refine own_go (fun t_ k_ => XS.iconst X19.here hx rfl (hb hby at_259) k_) ?_
      show OwnFin p e below s _ _ _ (T19.setTop (mkF m 260 #[.val (.int pn), .val (.int pI), .val (.int pJ), .val (.long qv), .second, .val (.int (Int32.ofNat k)), .val (.ref tm), .val (.int (1 : Int32)), .val (.int (Int32.ofNat i)), .val (.int (Int32.ofNat j)), .val (.long vv), .second, .val (.ref r10), .val (.ref r11), .val (.long vv), .second] [(.int (1 : Int32))]))
      refine own_go (fun t_ k_ => XS.goto X19.here hx rfl (pc0 := 260) (pc' := 264) rfl (hb hby at_260) (by decide) (by decide) k_) ?_
      show OwnFin p e below s _ _ _ (T19.setTop (mkF m 264 #[.val (.int pn), .val (.int pI), .val (.int pJ), .val (.long qv), .second, .val (.int (Int32.ofNat k)), .val (.ref tm), .val (.int (1 : Int32)), .val (.int (Int32.ofNat i)), .val (.int (Int32.ofNat j)), .val (.long vv), .second, .val (.ref r10), .val (.ref r11), .val (.long vv), .second] [(.int (1 : Int32))]))
      refine own_ret X19 (v := some (.int (1 : Int32))) hlk (fun hh => by rw [hret] at hh; cases hh) (fun fs hr => retN X19 hx (t := .boolean) hret (by simp) (hb hby at_264) hr) (by decide) (by decide) ?_
      exact ⟨rfl, N17⟩
    · refine own_go (fun t_ k_ => XS.iload X11.here hx rfl (hb hby at_150) rfl k_) ?_
      show OwnFin p e below s _ _ _ (T11.setTop (mkF m 152 #[.val (.int pn), .val (.int pI), .val (.int pJ), .val (.long qv), .second, .val (.int (Int32.ofNat k)), .val (.ref tm), .val (.int (1 : Int32)), .val (.int (Int32.ofNat i)), .val (.int (Int32.ofNat j)), .val (.long vv), .second, .val (.ref r10), .val (.ref r11), .unset, .unset] [(.int (Int32.ofNat j))]))
      refine own_go (fun t_ k_ => XS.iload X11.here hx rfl (hb hby at_152) rfl k_) ?_
      show OwnFin p e below s _ _ _ (T11.setTop (mkF m 154 #[.val (.int pn), .val (.int pI), .val (.int pJ), .val (.long qv), .second, .val (.int (Int32.ofNat k)), .val (.ref tm), .val (.int (1 : Int32)), .val (.int (Int32.ofNat i)), .val (.int (Int32.ofNat j)), .val (.long vv), .second, .val (.ref r10), .val (.ref r11), .unset, .unset] [(.int (Int32.ofNat i)), (.int (Int32.ofNat j))]))
      have hc154 : ¬ ((Int32.ofNat j) = (Int32.ofNat i)) := fun q => hji (own_ofNat_inj (by omega) (by omega) q)
      refine own_go (fun t_ k_ => XS.icmpYes X11.here hx rfl (pc0 := 154) (pc' := 162) rfl (hb hby at_154) rfl (feq hc154).2 (by decide) (by decide) k_) ?_
      show OwnFin p e below s _ _ _ (T11.setTop (mkF m 162 #[.val (.int pn), .val (.int pI), .val (.int pJ), .val (.long qv), .second, .val (.int (Int32.ofNat k)), .val (.ref tm), .val (.int (1 : Int32)), .val (.int (Int32.ofNat i)), .val (.int (Int32.ofNat j)), .val (.long vv), .second, .val (.ref r10), .val (.ref r11), .unset, .unset] []))
      refine own_go (fun t_ k_ => XS.lconst X11.here hx rfl (hb hby at_162) k_) ?_
      show OwnFin p e below s _ _ _ (T11.setTop (mkF m 163 #[.val (.int pn), .val (.int pI), .val (.int pJ), .val (.long qv), .second, .val (.int (Int32.ofNat k)), .val (.ref tm), .val (.int (1 : Int32)), .val (.int (Int32.ofNat i)), .val (.int (Int32.ofNat j)), .val (.long vv), .second, .val (.ref r10), .val (.ref r11), .unset, .unset] [(.long (0 : Int64))]))
      refine own_go (fun t_ k_ => XS.lstore X11.here hx rfl (hb hby at_163) rfl (l' := #[.val (.int pn), .val (.int pI), .val (.int pJ), .val (.long qv), .second, .val (.int (Int32.ofNat k)), .val (.ref tm), .val (.int (1 : Int32)), .val (.int (Int32.ofNat i)), .val (.int (Int32.ofNat j)), .val (.long vv), .second, .val (.ref r10), .val (.ref r11), .val (.long (0 : Int64)), .second]) rfl k_) ?_
      show OwnFin p e below s _ _ _ (T11.setTop (mkF m 165 #[.val (.int pn), .val (.int pI), .val (.int pJ), .val (.long qv), .second, .val (.int (Int32.ofNat k)), .val (.ref tm), .val (.int (1 : Int32)), .val (.int (Int32.ofNat i)), .val (.int (Int32.ofNat j)), .val (.long vv), .second, .val (.ref r10), .val (.ref r11), .val (.long (0 : Int64)), .second] []))
      refine own_go (fun t_ k_ => XS.aload X11.here hx rfl (hb hby at_165) rfl rfl k_) ?_
      show OwnFin p e below s _ _ _ (T11.setTop (mkF m 167 #[.val (.int pn), .val (.int pI), .val (.int pJ), .val (.long qv), .second, .val (.int (Int32.ofNat k)), .val (.ref tm), .val (.int (1 : Int32)), .val (.int (Int32.ofNat i)), .val (.int (Int32.ofNat j)), .val (.long vv), .second, .val (.ref r10), .val (.ref r11), .val (.long (0 : Int64)), .second] [(.ref r10)]))
      obtain ⟨v20, T20, L20, X20, hQ20, st20⟩ := own_callV X11 hx hZ (y := (⟨"com/example/thymus/thymus/FuzzyTime", "a", "()J"⟩ : MethodName)) (z := (⟨"com/example/thymus/thymus/FuzzyTime", "a", "()J"⟩ : MethodName)) hown (hw _ (List.mem_of_getElem? (i := 57) rfl)) (hw _ (List.mem_of_getElem? (i := 58) rfl)) (notFace_of_selects (args := #[]) (mvT hZ (hw _ (List.mem_of_getElem? (i := 60) rfl)))) (hw _ (List.mem_of_getElem? (i := 60) rfl)) (hw _ (List.mem_of_getElem? (i := 59) rfl)) (hw _ (List.mem_of_getElem? (i := 41) rfl)) (hw _ (List.mem_of_getElem? (i := 61) rfl)) (by decide) (W := 0) (rm9 l Z a0 hw [] r10 T11.heap n0 Z11 F_a_r10_11) (by decide) (by decide) E_r10_11 (g := (mkF m 167 #[.val (.int pn), .val (.int pI), .val (.int pJ), .val (.long qv), .second, .val (.int (Int32.ofNat k)), .val (.ref tm), .val (.int (1 : Int32)), .val (.int (Int32.ofNat i)), .val (.int (Int32.ofNat j)), .val (.long vv), .second, .val (.ref r10), .val (.ref r11), .val (.long (0 : Int64)), .second] [(.ref r10)])) rfl (by rw [hml]; rfl) (argsL := []) (rest := []) (lenOf pd_0_7 rfl) rfl (by show 2 * 0 + _ ≤ _; exact Nat.le_of_eq rfl) (hb hby at_167) rfl rfl (by decide) (by decide)
      obtain ⟨rfl, Nq20, e20⟩ := hQ20
      have N20 := Fr.app N11 Nq20
      refine own_go st20 ?_
      show OwnFin p e below s _ _ _ (T20.setTop (mkF m 170 #[.val (.int pn), .val (.int pI), .val (.int pJ), .val (.long qv), .second, .val (.int (Int32.ofNat k)), .val (.ref tm), .val (.int (1 : Int32)), .val (.int (Int32.ofNat i)), .val (.int (Int32.ofNat j)), .val (.long vv), .second, .val (.ref r10), .val (.ref r11), .val (.long (0 : Int64)), .second] [(.long (if i = i then vv else 0))]))
      refine own_go (fun t_ k_ => XS.lload X20.here hx rfl (hb hby at_170) rfl k_) ?_
      show OwnFin p e below s _ _ _ (T20.setTop (mkF m 172 #[.val (.int pn), .val (.int pI), .val (.int pJ), .val (.long qv), .second, .val (.int (Int32.ofNat k)), .val (.ref tm), .val (.int (1 : Int32)), .val (.int (Int32.ofNat i)), .val (.int (Int32.ofNat j)), .val (.long vv), .second, .val (.ref r10), .val (.ref r11), .val (.long (0 : Int64)), .second] [(.long vv), (.long (if i = i then vv else 0))]))
      refine own_go (fun t_ k_ => XS.lcmp X20.here hx rfl (hb hby at_172) rfl k_) ?_
      show OwnFin p e below s _ _ _ (T20.setTop (mkF m 173 #[.val (.int pn), .val (.int pI), .val (.int pJ), .val (.long qv), .second, .val (.int (Int32.ofNat k)), .val (.ref tm), .val (.int (1 : Int32)), .val (.int (Int32.ofNat i)), .val (.int (Int32.ofNat j)), .val (.long vv), .second, .val (.ref r10), .val (.ref r11), .val (.long (0 : Int64)), .second] [(.int (lcmpW (if i = i then vv else 0) vv))]))
      have hc173 : (if i = i then vv else 0) = vv := if_pos rfl
      refine own_go (fun t_ k_ => XS.ifNo X20.here hx rfl (hb hby at_173) rfl ((if0 _ _).trans (teq ((lw_eq (if i = i then vv else 0) vv).mpr hc173)).2) k_) ?_
      show OwnFin p e below s _ _ _ (T20.setTop (mkF m 176 #[.val (.int pn), .val (.int pI), .val (.int pJ), .val (.long qv), .second, .val (.int (Int32.ofNat k)), .val (.ref tm), .val (.int (1 : Int32)), .val (.int (Int32.ofNat i)), .val (.int (Int32.ofNat j)), .val (.long vv), .second, .val (.ref r10), .val (.ref r11), .val (.long (0 : Int64)), .second] []))
      refine own_go (fun t_ k_ => XS.aload X20.here hx rfl (hb hby at_176) rfl rfl k_) ?_
      show OwnFin p e below s _ _ _ (T20.setTop (mkF m 178 #[.val (.int pn), .val (.int pI), .val (.int pJ), .val (.long qv), .second, .val (.int (Int32.ofNat k)), .val (.ref tm), .val (.int (1 : Int32)), .val (.int (Int32.ofNat i)), .val (.int (Int32.ofNat j)), .val (.long vv), .second, .val (.ref r10), .val (.ref r11), .val (.long (0 : Int64)), .second] [(.ref r10)]))
      obtain ⟨v21, T21, L21, X21, hQ21, st21⟩ := own_callV X20 hx hZ (y := (⟨"com/example/thymus/thymus/FuzzyTime", "b", "()J"⟩ : MethodName)) (z := (⟨"com/example/thymus/thymus/FuzzyTime", "b", "()J"⟩ : MethodName)) hown (hw _ (List.mem_of_getElem? (i := 62) rfl)) (hw _ (List.mem_of_getElem? (i := 63) rfl)) (notFace_of_selects (args := #[]) (mvT hZ (hw _ (List.mem_of_getElem? (i := 65) rfl)))) (hw _ (List.mem_of_getElem? (i := 65) rfl)) (hw _ (List.mem_of_getElem? (i := 64) rfl)) (hw _ (List.mem_of_getElem? (i := 41) rfl)) (hw _ (List.mem_of_getElem? (i := 66) rfl)) (by decide) (W := 0) (rm10 l Z a0 hw [] r10 T11.heap n0 Z11 F_b_r10_11) (by decide) (by decide) E_r10_11 (g := (mkF m 178 #[.val (.int pn), .val (.int pI), .val (.int pJ), .val (.long qv), .second, .val (.int (Int32.ofNat k)), .val (.ref tm), .val (.int (1 : Int32)), .val (.int (Int32.ofNat i)), .val (.int (Int32.ofNat j)), .val (.long vv), .second, .val (.ref r10), .val (.ref r11), .val (.long (0 : Int64)), .second] [(.ref r10)])) rfl (by rw [hml]; rfl) (argsL := []) (rest := []) (lenOf pd_0_7 rfl) rfl (by show 2 * 0 + _ ≤ _; exact Nat.le_of_eq rfl) (hb hby at_178) e20 rfl (by decide) (by decide)
      obtain ⟨rfl, Nq21, e21⟩ := hQ21
      have N21 := Fr.app N20 Nq21
      refine own_go st21 ?_
      show OwnFin p e below s _ _ _ (T21.setTop (mkF m 181 #[.val (.int pn), .val (.int pI), .val (.int pJ), .val (.long qv), .second, .val (.int (Int32.ofNat k)), .val (.ref tm), .val (.int (1 : Int32)), .val (.int (Int32.ofNat i)), .val (.int (Int32.ofNat j)), .val (.long vv), .second, .val (.ref r10), .val (.ref r11), .val (.long (0 : Int64)), .second] [(.long (if i = i then vv else 0))]))
      refine own_go (fun t_ k_ => XS.lload X21.here hx rfl (hb hby at_181) rfl k_) ?_
      show OwnFin p e below s _ _ _ (T21.setTop (mkF m 183 #[.val (.int pn), .val (.int pI), .val (.int pJ), .val (.long qv), .second, .val (.int (Int32.ofNat k)), .val (.ref tm), .val (.int (1 : Int32)), .val (.int (Int32.ofNat i)), .val (.int (Int32.ofNat j)), .val (.long vv), .second, .val (.ref r10), .val (.ref r11), .val (.long (0 : Int64)), .second] [(.long vv), (.long (if i = i then vv else 0))]))
      refine own_go (fun t_ k_ => XS.lcmp X21.here hx rfl (hb hby at_183) rfl k_) ?_
      show OwnFin p e below s _ _ _ (T21.setTop (mkF m 184 #[.val (.int pn), .val (.int pI), .val (.int pJ), .val (.long qv), .second, .val (.int (Int32.ofNat k)), .val (.ref tm), .val (.int (1 : Int32)), .val (.int (Int32.ofNat i)), .val (.int (Int32.ofNat j)), .val (.long vv), .second, .val (.ref r10), .val (.ref r11), .val (.long (0 : Int64)), .second] [(.int (lcmpW (if i = i then vv else 0) vv))]))
      have hc184 : (if i = i then vv else 0) = vv := if_pos rfl
      refine own_go (fun t_ k_ => XS.ifNo X21.here hx rfl (hb hby at_184) rfl ((if0 _ _).trans (teq ((lw_eq (if i = i then vv else 0) vv).mpr hc184)).2) k_) ?_
      show OwnFin p e below s _ _ _ (T21.setTop (mkF m 187 #[.val (.int pn), .val (.int pI), .val (.int pJ), .val (.long qv), .second, .val (.int (Int32.ofNat k)), .val (.ref tm), .val (.int (1 : Int32)), .val (.int (Int32.ofNat i)), .val (.int (Int32.ofNat j)), .val (.long vv), .second, .val (.ref r10), .val (.ref r11), .val (.long (0 : Int64)), .second] []))
      refine own_go (fun t_ k_ => XS.aload X21.here hx rfl (hb hby at_187) rfl rfl k_) ?_
      show OwnFin p e below s _ _ _ (T21.setTop (mkF m 189 #[.val (.int pn), .val (.int pI), .val (.int pJ), .val (.long qv), .second, .val (.int (Int32.ofNat k)), .val (.ref tm), .val (.int (1 : Int32)), .val (.int (Int32.ofNat i)), .val (.int (Int32.ofNat j)), .val (.long vv), .second, .val (.ref r10), .val (.ref r11), .val (.long (0 : Int64)), .second] [(.ref r10)]))
      obtain ⟨v22, T22, L22, X22, hQ22, st22⟩ := own_callV X21 hx hZ (y := (⟨"com/example/thymus/thymus/FuzzyTime", "c", "()J"⟩ : MethodName)) (z := (⟨"com/example/thymus/thymus/FuzzyTime", "c", "()J"⟩ : MethodName)) hown (hw _ (List.mem_of_getElem? (i := 67) rfl)) (hw _ (List.mem_of_getElem? (i := 68) rfl)) (notFace_of_selects (args := #[]) (mvT hZ (hw _ (List.mem_of_getElem? (i := 70) rfl)))) (hw _ (List.mem_of_getElem? (i := 70) rfl)) (hw _ (List.mem_of_getElem? (i := 69) rfl)) (hw _ (List.mem_of_getElem? (i := 41) rfl)) (hw _ (List.mem_of_getElem? (i := 71) rfl)) (by decide) (W := 0) (rm11 l Z a0 hw [] r10 T11.heap n0 Z11 F_c_r10_11) (by decide) (by decide) E_r10_11 (g := (mkF m 189 #[.val (.int pn), .val (.int pI), .val (.int pJ), .val (.long qv), .second, .val (.int (Int32.ofNat k)), .val (.ref tm), .val (.int (1 : Int32)), .val (.int (Int32.ofNat i)), .val (.int (Int32.ofNat j)), .val (.long vv), .second, .val (.ref r10), .val (.ref r11), .val (.long (0 : Int64)), .second] [(.ref r10)])) rfl (by rw [hml]; rfl) (argsL := []) (rest := []) (lenOf pd_0_7 rfl) rfl (by show 2 * 0 + _ ≤ _; exact Nat.le_of_eq rfl) (hb hby at_189) e21 rfl (by decide) (by decide)
      obtain ⟨rfl, Nq22, e22⟩ := hQ22
      have N22 := Fr.app N21 Nq22
      refine own_go st22 ?_
      show OwnFin p e below s _ _ _ (T22.setTop (mkF m 192 #[.val (.int pn), .val (.int pI), .val (.int pJ), .val (.long qv), .second, .val (.int (Int32.ofNat k)), .val (.ref tm), .val (.int (1 : Int32)), .val (.int (Int32.ofNat i)), .val (.int (Int32.ofNat j)), .val (.long vv), .second, .val (.ref r10), .val (.ref r11), .val (.long (0 : Int64)), .second] [(.long (if i = i then vv else 0))]))
      refine own_go (fun t_ k_ => XS.lload X22.here hx rfl (hb hby at_192) rfl k_) ?_
      show OwnFin p e below s _ _ _ (T22.setTop (mkF m 194 #[.val (.int pn), .val (.int pI), .val (.int pJ), .val (.long qv), .second, .val (.int (Int32.ofNat k)), .val (.ref tm), .val (.int (1 : Int32)), .val (.int (Int32.ofNat i)), .val (.int (Int32.ofNat j)), .val (.long vv), .second, .val (.ref r10), .val (.ref r11), .val (.long (0 : Int64)), .second] [(.long vv), (.long (if i = i then vv else 0))]))
      refine own_go (fun t_ k_ => XS.lcmp X22.here hx rfl (hb hby at_194) rfl k_) ?_
      show OwnFin p e below s _ _ _ (T22.setTop (mkF m 195 #[.val (.int pn), .val (.int pI), .val (.int pJ), .val (.long qv), .second, .val (.int (Int32.ofNat k)), .val (.ref tm), .val (.int (1 : Int32)), .val (.int (Int32.ofNat i)), .val (.int (Int32.ofNat j)), .val (.long vv), .second, .val (.ref r10), .val (.ref r11), .val (.long (0 : Int64)), .second] [(.int (lcmpW (if i = i then vv else 0) vv))]))
      have hc195 : (if i = i then vv else 0) = vv := if_pos rfl
      refine own_go (fun t_ k_ => XS.ifNo X22.here hx rfl (hb hby at_195) rfl ((if0 _ _).trans (teq ((lw_eq (if i = i then vv else 0) vv).mpr hc195)).2) k_) ?_
      show OwnFin p e below s _ _ _ (T22.setTop (mkF m 198 #[.val (.int pn), .val (.int pI), .val (.int pJ), .val (.long qv), .second, .val (.int (Int32.ofNat k)), .val (.ref tm), .val (.int (1 : Int32)), .val (.int (Int32.ofNat i)), .val (.int (Int32.ofNat j)), .val (.long vv), .second, .val (.ref r10), .val (.ref r11), .val (.long (0 : Int64)), .second] []))
      refine own_go (fun t_ k_ => XS.aload X22.here hx rfl (hb hby at_198) rfl rfl k_) ?_
      show OwnFin p e below s _ _ _ (T22.setTop (mkF m 200 #[.val (.int pn), .val (.int pI), .val (.int pJ), .val (.long qv), .second, .val (.int (Int32.ofNat k)), .val (.ref tm), .val (.int (1 : Int32)), .val (.int (Int32.ofNat i)), .val (.int (Int32.ofNat j)), .val (.long vv), .second, .val (.ref r10), .val (.ref r11), .val (.long (0 : Int64)), .second] [(.ref r11)]))
      obtain ⟨v23, T23, L23, X23, hQ23, st23⟩ := own_callV X22 hx hZ (y := (⟨"com/example/thymus/thymus/FuzzyTime", "a", "()J"⟩ : MethodName)) (z := (⟨"com/example/thymus/thymus/FuzzyTime", "a", "()J"⟩ : MethodName)) hown (hw _ (List.mem_of_getElem? (i := 57) rfl)) (hw _ (List.mem_of_getElem? (i := 58) rfl)) (notFace_of_selects (args := #[]) (mvT hZ (hw _ (List.mem_of_getElem? (i := 60) rfl)))) (hw _ (List.mem_of_getElem? (i := 60) rfl)) (hw _ (List.mem_of_getElem? (i := 59) rfl)) (hw _ (List.mem_of_getElem? (i := 41) rfl)) (hw _ (List.mem_of_getElem? (i := 61) rfl)) (by decide) (W := 0) (rm9 l Z a0 hw [] r11 T11.heap n0 Z11 Fq11_0) (by decide) (by decide) Eq11 (g := (mkF m 200 #[.val (.int pn), .val (.int pI), .val (.int pJ), .val (.long qv), .second, .val (.int (Int32.ofNat k)), .val (.ref tm), .val (.int (1 : Int32)), .val (.int (Int32.ofNat i)), .val (.int (Int32.ofNat j)), .val (.long vv), .second, .val (.ref r10), .val (.ref r11), .val (.long (0 : Int64)), .second] [(.ref r11)])) rfl (by rw [hml]; rfl) (argsL := []) (rest := []) (lenOf pd_0_7 rfl) rfl (by show 2 * 0 + _ ≤ _; exact Nat.le_of_eq rfl) (hb hby at_200) e22 rfl (by decide) (by decide)
      obtain ⟨rfl, Nq23, e23⟩ := hQ23
      have N23 := Fr.app N22 Nq23
      refine own_go st23 ?_
      show OwnFin p e below s _ _ _ (T23.setTop (mkF m 203 #[.val (.int pn), .val (.int pI), .val (.int pJ), .val (.long qv), .second, .val (.int (Int32.ofNat k)), .val (.ref tm), .val (.int (1 : Int32)), .val (.int (Int32.ofNat i)), .val (.int (Int32.ofNat j)), .val (.long vv), .second, .val (.ref r10), .val (.ref r11), .val (.long (0 : Int64)), .second] [(.long (if j = i then vv else 0))]))
      refine own_go (fun t_ k_ => XS.lload X23.here hx rfl (hb hby at_203) rfl k_) ?_
      show OwnFin p e below s _ _ _ (T23.setTop (mkF m 205 #[.val (.int pn), .val (.int pI), .val (.int pJ), .val (.long qv), .second, .val (.int (Int32.ofNat k)), .val (.ref tm), .val (.int (1 : Int32)), .val (.int (Int32.ofNat i)), .val (.int (Int32.ofNat j)), .val (.long vv), .second, .val (.ref r10), .val (.ref r11), .val (.long (0 : Int64)), .second] [(.long (0 : Int64)), (.long (if j = i then vv else 0))]))
      refine own_go (fun t_ k_ => XS.lcmp X23.here hx rfl (hb hby at_205) rfl k_) ?_
      show OwnFin p e below s _ _ _ (T23.setTop (mkF m 206 #[.val (.int pn), .val (.int pI), .val (.int pJ), .val (.long qv), .second, .val (.int (Int32.ofNat k)), .val (.ref tm), .val (.int (1 : Int32)), .val (.int (Int32.ofNat i)), .val (.int (Int32.ofNat j)), .val (.long vv), .second, .val (.ref r10), .val (.ref r11), .val (.long (0 : Int64)), .second] [(.int (lcmpW (if j = i then vv else 0) (0 : Int64)))]))
      have hc206 : (if j = i then vv else 0) = (0 : Int64) := if_neg hji
      refine own_go (fun t_ k_ => XS.ifNo X23.here hx rfl (hb hby at_206) rfl ((if0 _ _).trans (teq ((lw_eq (if j = i then vv else 0) (0 : Int64)).mpr hc206)).2) k_) ?_
      show OwnFin p e below s _ _ _ (T23.setTop (mkF m 209 #[.val (.int pn), .val (.int pI), .val (.int pJ), .val (.long qv), .second, .val (.int (Int32.ofNat k)), .val (.ref tm), .val (.int (1 : Int32)), .val (.int (Int32.ofNat i)), .val (.int (Int32.ofNat j)), .val (.long vv), .second, .val (.ref r10), .val (.ref r11), .val (.long (0 : Int64)), .second] []))
      refine own_go (fun t_ k_ => XS.aload X23.here hx rfl (hb hby at_209) rfl rfl k_) ?_
      show OwnFin p e below s _ _ _ (T23.setTop (mkF m 211 #[.val (.int pn), .val (.int pI), .val (.int pJ), .val (.long qv), .second, .val (.int (Int32.ofNat k)), .val (.ref tm), .val (.int (1 : Int32)), .val (.int (Int32.ofNat i)), .val (.int (Int32.ofNat j)), .val (.long vv), .second, .val (.ref r10), .val (.ref r11), .val (.long (0 : Int64)), .second] [(.ref r11)]))
      obtain ⟨v24, T24, L24, X24, hQ24, st24⟩ := own_callV X23 hx hZ (y := (⟨"com/example/thymus/thymus/FuzzyTime", "b", "()J"⟩ : MethodName)) (z := (⟨"com/example/thymus/thymus/FuzzyTime", "b", "()J"⟩ : MethodName)) hown (hw _ (List.mem_of_getElem? (i := 62) rfl)) (hw _ (List.mem_of_getElem? (i := 63) rfl)) (notFace_of_selects (args := #[]) (mvT hZ (hw _ (List.mem_of_getElem? (i := 65) rfl)))) (hw _ (List.mem_of_getElem? (i := 65) rfl)) (hw _ (List.mem_of_getElem? (i := 64) rfl)) (hw _ (List.mem_of_getElem? (i := 41) rfl)) (hw _ (List.mem_of_getElem? (i := 66) rfl)) (by decide) (W := 0) (rm10 l Z a0 hw [] r11 T11.heap n0 Z11 Fq11_1) (by decide) (by decide) Eq11 (g := (mkF m 211 #[.val (.int pn), .val (.int pI), .val (.int pJ), .val (.long qv), .second, .val (.int (Int32.ofNat k)), .val (.ref tm), .val (.int (1 : Int32)), .val (.int (Int32.ofNat i)), .val (.int (Int32.ofNat j)), .val (.long vv), .second, .val (.ref r10), .val (.ref r11), .val (.long (0 : Int64)), .second] [(.ref r11)])) rfl (by rw [hml]; rfl) (argsL := []) (rest := []) (lenOf pd_0_7 rfl) rfl (by show 2 * 0 + _ ≤ _; exact Nat.le_of_eq rfl) (hb hby at_211) e23 rfl (by decide) (by decide)
      obtain ⟨rfl, Nq24, e24⟩ := hQ24
      have N24 := Fr.app N23 Nq24
      refine own_go st24 ?_
      show OwnFin p e below s _ _ _ (T24.setTop (mkF m 214 #[.val (.int pn), .val (.int pI), .val (.int pJ), .val (.long qv), .second, .val (.int (Int32.ofNat k)), .val (.ref tm), .val (.int (1 : Int32)), .val (.int (Int32.ofNat i)), .val (.int (Int32.ofNat j)), .val (.long vv), .second, .val (.ref r10), .val (.ref r11), .val (.long (0 : Int64)), .second] [(.long (if j = i then vv else 0))]))
      refine own_go (fun t_ k_ => XS.lload X24.here hx rfl (hb hby at_214) rfl k_) ?_
      show OwnFin p e below s _ _ _ (T24.setTop (mkF m 216 #[.val (.int pn), .val (.int pI), .val (.int pJ), .val (.long qv), .second, .val (.int (Int32.ofNat k)), .val (.ref tm), .val (.int (1 : Int32)), .val (.int (Int32.ofNat i)), .val (.int (Int32.ofNat j)), .val (.long vv), .second, .val (.ref r10), .val (.ref r11), .val (.long (0 : Int64)), .second] [(.long (0 : Int64)), (.long (if j = i then vv else 0))]))
      refine own_go (fun t_ k_ => XS.lcmp X24.here hx rfl (hb hby at_216) rfl k_) ?_
      show OwnFin p e below s _ _ _ (T24.setTop (mkF m 217 #[.val (.int pn), .val (.int pI), .val (.int pJ), .val (.long qv), .second, .val (.int (Int32.ofNat k)), .val (.ref tm), .val (.int (1 : Int32)), .val (.int (Int32.ofNat i)), .val (.int (Int32.ofNat j)), .val (.long vv), .second, .val (.ref r10), .val (.ref r11), .val (.long (0 : Int64)), .second] [(.int (lcmpW (if j = i then vv else 0) (0 : Int64)))]))
      have hc217 : (if j = i then vv else 0) = (0 : Int64) := if_neg hji
      refine own_go (fun t_ k_ => XS.ifNo X24.here hx rfl (hb hby at_217) rfl ((if0 _ _).trans (teq ((lw_eq (if j = i then vv else 0) (0 : Int64)).mpr hc217)).2) k_) ?_
      show OwnFin p e below s _ _ _ (T24.setTop (mkF m 220 #[.val (.int pn), .val (.int pI), .val (.int pJ), .val (.long qv), .second, .val (.int (Int32.ofNat k)), .val (.ref tm), .val (.int (1 : Int32)), .val (.int (Int32.ofNat i)), .val (.int (Int32.ofNat j)), .val (.long vv), .second, .val (.ref r10), .val (.ref r11), .val (.long (0 : Int64)), .second] []))
      refine own_go (fun t_ k_ => XS.aload X24.here hx rfl (hb hby at_220) rfl rfl k_) ?_
      show OwnFin p e below s _ _ _ (T24.setTop (mkF m 222 #[.val (.int pn), .val (.int pI), .val (.int pJ), .val (.long qv), .second, .val (.int (Int32.ofNat k)), .val (.ref tm), .val (.int (1 : Int32)), .val (.int (Int32.ofNat i)), .val (.int (Int32.ofNat j)), .val (.long vv), .second, .val (.ref r10), .val (.ref r11), .val (.long (0 : Int64)), .second] [(.ref r11)]))
      obtain ⟨v25, T25, L25, X25, hQ25, st25⟩ := own_callV X24 hx hZ (y := (⟨"com/example/thymus/thymus/FuzzyTime", "c", "()J"⟩ : MethodName)) (z := (⟨"com/example/thymus/thymus/FuzzyTime", "c", "()J"⟩ : MethodName)) hown (hw _ (List.mem_of_getElem? (i := 67) rfl)) (hw _ (List.mem_of_getElem? (i := 68) rfl)) (notFace_of_selects (args := #[]) (mvT hZ (hw _ (List.mem_of_getElem? (i := 70) rfl)))) (hw _ (List.mem_of_getElem? (i := 70) rfl)) (hw _ (List.mem_of_getElem? (i := 69) rfl)) (hw _ (List.mem_of_getElem? (i := 41) rfl)) (hw _ (List.mem_of_getElem? (i := 71) rfl)) (by decide) (W := 0) (rm11 l Z a0 hw [] r11 T11.heap n0 Z11 Fq11_2) (by decide) (by decide) Eq11 (g := (mkF m 222 #[.val (.int pn), .val (.int pI), .val (.int pJ), .val (.long qv), .second, .val (.int (Int32.ofNat k)), .val (.ref tm), .val (.int (1 : Int32)), .val (.int (Int32.ofNat i)), .val (.int (Int32.ofNat j)), .val (.long vv), .second, .val (.ref r10), .val (.ref r11), .val (.long (0 : Int64)), .second] [(.ref r11)])) rfl (by rw [hml]; rfl) (argsL := []) (rest := []) (lenOf pd_0_7 rfl) rfl (by show 2 * 0 + _ ≤ _; exact Nat.le_of_eq rfl) (hb hby at_222) e24 rfl (by decide) (by decide)
      obtain ⟨rfl, Nq25, e25⟩ := hQ25
      have N25 := Fr.app N24 Nq25
      refine own_go st25 ?_
      show OwnFin p e below s _ _ _ (T25.setTop (mkF m 225 #[.val (.int pn), .val (.int pI), .val (.int pJ), .val (.long qv), .second, .val (.int (Int32.ofNat k)), .val (.ref tm), .val (.int (1 : Int32)), .val (.int (Int32.ofNat i)), .val (.int (Int32.ofNat j)), .val (.long vv), .second, .val (.ref r10), .val (.ref r11), .val (.long (0 : Int64)), .second] [(.long (if j = i then vv else 0))]))
      refine own_go (fun t_ k_ => XS.lload X25.here hx rfl (hb hby at_225) rfl k_) ?_
      show OwnFin p e below s _ _ _ (T25.setTop (mkF m 227 #[.val (.int pn), .val (.int pI), .val (.int pJ), .val (.long qv), .second, .val (.int (Int32.ofNat k)), .val (.ref tm), .val (.int (1 : Int32)), .val (.int (Int32.ofNat i)), .val (.int (Int32.ofNat j)), .val (.long vv), .second, .val (.ref r10), .val (.ref r11), .val (.long (0 : Int64)), .second] [(.long (0 : Int64)), (.long (if j = i then vv else 0))]))
      refine own_go (fun t_ k_ => XS.lcmp X25.here hx rfl (hb hby at_227) rfl k_) ?_
      show OwnFin p e below s _ _ _ (T25.setTop (mkF m 228 #[.val (.int pn), .val (.int pI), .val (.int pJ), .val (.long qv), .second, .val (.int (Int32.ofNat k)), .val (.ref tm), .val (.int (1 : Int32)), .val (.int (Int32.ofNat i)), .val (.int (Int32.ofNat j)), .val (.long vv), .second, .val (.ref r10), .val (.ref r11), .val (.long (0 : Int64)), .second] [(.int (lcmpW (if j = i then vv else 0) (0 : Int64)))]))
      have hc228 : (if j = i then vv else 0) = (0 : Int64) := if_neg hji
      refine own_go (fun t_ k_ => XS.ifNo X25.here hx rfl (hb hby at_228) rfl ((if0 _ _).trans (teq ((lw_eq (if j = i then vv else 0) (0 : Int64)).mpr hc228)).2) k_) ?_
      show OwnFin p e below s _ _ _ (T25.setTop (mkF m 231 #[.val (.int pn), .val (.int pI), .val (.int pJ), .val (.long qv), .second, .val (.int (Int32.ofNat k)), .val (.ref tm), .val (.int (1 : Int32)), .val (.int (Int32.ofNat i)), .val (.int (Int32.ofNat j)), .val (.long vv), .second, .val (.ref r10), .val (.ref r11), .val (.long (0 : Int64)), .second] []))
      refine own_go (fun t_ k_ => XS.aload X25.here hx rfl (hb hby at_231) rfl rfl k_) ?_
      show OwnFin p e below s _ _ _ (T25.setTop (mkF m 233 #[.val (.int pn), .val (.int pI), .val (.int pJ), .val (.long qv), .second, .val (.int (Int32.ofNat k)), .val (.ref tm), .val (.int (1 : Int32)), .val (.int (Int32.ofNat i)), .val (.int (Int32.ofNat j)), .val (.long vv), .second, .val (.ref r10), .val (.ref r11), .val (.long (0 : Int64)), .second] [(.ref tm)]))
      obtain ⟨T26, X26, e26, st26⟩ := getF X25 hx hZ hown (host := "") (Or.inl (hw _ (List.mem_of_getElem? (i := 19) rfl))) Via.refl e25 F_low_11 (g := (mkF m 233 #[.val (.int pn), .val (.int pI), .val (.int pJ), .val (.long qv), .second, .val (.int (Int32.ofNat k)), .val (.ref tm), .val (.int (1 : Int32)), .val (.int (Int32.ofNat i)), .val (.int (Int32.ofNat j)), .val (.long vv), .second, .val (.ref r10), .val (.ref r11), .val (.long (0 : Int64)), .second] [(.ref tm)])) rfl rfl (hb hby at_233)
      refine own_go st26 ?_
      show OwnFin p e below s _ _ _ (T26.setTop (mkF m 236 #[.val (.int pn), .val (.int pI), .val (.int pJ), .val (.long qv), .second, .val (.int (Int32.ofNat k)), .val (.ref tm), .val (.int (1 : Int32)), .val (.int (Int32.ofNat i)), .val (.int (Int32.ofNat j)), .val (.long vv), .second, .val (.ref r10), .val (.ref r11), .val (.long (0 : Int64)), .second] [(.ref ar)]))
      refine own_go (fun t_ k_ => XS.iload X26.here hx rfl (hb hby at_236) rfl k_) ?_
      show OwnFin p e below s _ _ _ (T26.setTop (mkF m 238 #[.val (.int pn), .val (.int pI), .val (.int pJ), .val (.long qv), .second, .val (.int (Int32.ofNat k)), .val (.ref tm), .val (.int (1 : Int32)), .val (.int (Int32.ofNat i)), .val (.int (Int32.ofNat j)), .val (.long vv), .second, .val (.ref r10), .val (.ref r11), .val (.long (0 : Int64)), .second] [(.int (Int32.ofNat j)), (.ref ar)]))
      refine own_go (own_laload X26 hx hZ e26 V_ar2_11 (i := j) rfl hjk (g := (mkF m 238 #[.val (.int pn), .val (.int pI), .val (.int pJ), .val (.long qv), .second, .val (.int (Int32.ofNat k)), .val (.ref tm), .val (.int (1 : Int32)), .val (.int (Int32.ofNat i)), .val (.int (Int32.ofNat j)), .val (.long vv), .second, .val (.ref r10), .val (.ref r11), .val (.long (0 : Int64)), .second] [(.int (Int32.ofNat j)), (.ref ar)])) rfl rfl (hb hby at_238)) ?_
      show OwnFin p e below s _ _ _ (T26.setTop (mkF m 239 #[.val (.int pn), .val (.int pI), .val (.int pJ), .val (.long qv), .second, .val (.int (Int32.ofNat k)), .val (.ref tm), .val (.int (1 : Int32)), .val (.int (Int32.ofNat i)), .val (.int (Int32.ofNat j)), .val (.long vv), .second, .val (.ref r10), .val (.ref r11), .val (.long (0 : Int64)), .second] [(.long (if j = i then vv else 0))]))
      refine own_go (fun t_ k_ => XS.lload X26.here hx rfl (hb hby at_239) rfl k_) ?_
      show OwnFin p e below s _ _ _ (T26.setTop (mkF m 241 #[.val (.int pn), .val (.int pI), .val (.int pJ), .val (.long qv), .second, .val (.int (Int32.ofNat k)), .val (.ref tm), .val (.int (1 : Int32)), .val (.int (Int32.ofNat i)), .val (.int (Int32.ofNat j)), .val (.long vv), .second, .val (.ref r10), .val (.ref r11), .val (.long (0 : Int64)), .second] [(.long (0 : Int64)), (.long (if j = i then vv else 0))]))
      refine own_go (fun t_ k_ => XS.lcmp X26.here hx rfl (hb hby at_241) rfl k_) ?_
      show OwnFin p e below s _ _ _ (T26.setTop (mkF m 242 #[.val (.int pn), .val (.int pI), .val (.int pJ), .val (.long qv), .second, .val (.int (Int32.ofNat k)), .val (.ref tm), .val (.int (1 : Int32)), .val (.int (Int32.ofNat i)), .val (.int (Int32.ofNat j)), .val (.long vv), .second, .val (.ref r10), .val (.ref r11), .val (.long (0 : Int64)), .second] [(.int (lcmpW (if j = i then vv else 0) (0 : Int64)))]))
      have hc242 : (if j = i then vv else 0) = (0 : Int64) := if_neg hji
      refine own_go (fun t_ k_ => XS.ifNo X26.here hx rfl (hb hby at_242) rfl ((if0 _ _).trans (teq ((lw_eq (if j = i then vv else 0) (0 : Int64)).mpr hc242)).2) k_) ?_
      show OwnFin p e below s _ _ _ (T26.setTop (mkF m 245 #[.val (.int pn), .val (.int pI), .val (.int pJ), .val (.long qv), .second, .val (.int (Int32.ofNat k)), .val (.ref tm), .val (.int (1 : Int32)), .val (.int (Int32.ofNat i)), .val (.int (Int32.ofNat j)), .val (.long vv), .second, .val (.ref r10), .val (.ref r11), .val (.long (0 : Int64)), .second] []))
      refine own_go (fun t_ k_ => XS.aload X26.here hx rfl (hb hby at_245) rfl rfl k_) ?_
      show OwnFin p e below s _ _ _ (T26.setTop (mkF m 247 #[.val (.int pn), .val (.int pI), .val (.int pJ), .val (.long qv), .second, .val (.int (Int32.ofNat k)), .val (.ref tm), .val (.int (1 : Int32)), .val (.int (Int32.ofNat i)), .val (.int (Int32.ofNat j)), .val (.long vv), .second, .val (.ref r10), .val (.ref r11), .val (.long (0 : Int64)), .second] [(.ref tm)]))
      obtain ⟨T27, X27, e27, st27⟩ := getF X26 hx hZ hown (host := "") (Or.inl (hw _ (List.mem_of_getElem? (i := 21) rfl))) Via.refl e26 F_high_11 (g := (mkF m 247 #[.val (.int pn), .val (.int pI), .val (.int pJ), .val (.long qv), .second, .val (.int (Int32.ofNat k)), .val (.ref tm), .val (.int (1 : Int32)), .val (.int (Int32.ofNat i)), .val (.int (Int32.ofNat j)), .val (.long vv), .second, .val (.ref r10), .val (.ref r11), .val (.long (0 : Int64)), .second] [(.ref tm)])) rfl rfl (hb hby at_247)
      refine own_go st27 ?_
      show OwnFin p e below s _ _ _ (T27.setTop (mkF m 250 #[.val (.int pn), .val (.int pI), .val (.int pJ), .val (.long qv), .second, .val (.int (Int32.ofNat k)), .val (.ref tm), .val (.int (1 : Int32)), .val (.int (Int32.ofNat i)), .val (.int (Int32.ofNat j)), .val (.long vv), .second, .val (.ref r10), .val (.ref r11), .val (.long (0 : Int64)), .second] [(.ref ar)]))
      refine own_go (fun t_ k_ => XS.iload X27.here hx rfl (hb hby at_250) rfl k_) ?_
      show OwnFin p e below s _ _ _ (T27.setTop (mkF m 252 #[.val (.int pn), .val (.int pI), .val (.int pJ), .val (.long qv), .second, .val (.int (Int32.ofNat k)), .val (.ref tm), .val (.int (1 : Int32)), .val (.int (Int32.ofNat i)), .val (.int (Int32.ofNat j)), .val (.long vv), .second, .val (.ref r10), .val (.ref r11), .val (.long (0 : Int64)), .second] [(.int (Int32.ofNat j)), (.ref ar)]))
      refine own_go (own_laload X27 hx hZ e27 V_ar2_11 (i := j) rfl hjk (g := (mkF m 252 #[.val (.int pn), .val (.int pI), .val (.int pJ), .val (.long qv), .second, .val (.int (Int32.ofNat k)), .val (.ref tm), .val (.int (1 : Int32)), .val (.int (Int32.ofNat i)), .val (.int (Int32.ofNat j)), .val (.long vv), .second, .val (.ref r10), .val (.ref r11), .val (.long (0 : Int64)), .second] [(.int (Int32.ofNat j)), (.ref ar)])) rfl rfl (hb hby at_252)) ?_
      show OwnFin p e below s _ _ _ (T27.setTop (mkF m 253 #[.val (.int pn), .val (.int pI), .val (.int pJ), .val (.long qv), .second, .val (.int (Int32.ofNat k)), .val (.ref tm), .val (.int (1 : Int32)), .val (.int (Int32.ofNat i)), .val (.int (Int32.ofNat j)), .val (.long vv), .second, .val (.ref r10), .val (.ref r11), .val (.long (0 : Int64)), .second] [(.long (if j = i then vv else 0))]))
      refine own_go (fun t_ k_ => XS.lload X27.here hx rfl (hb hby at_253) rfl k_) ?_
      show OwnFin p e below s _ _ _ (T27.setTop (mkF m 255 #[.val (.int pn), .val (.int pI), .val (.int pJ), .val (.long qv), .second, .val (.int (Int32.ofNat k)), .val (.ref tm), .val (.int (1 : Int32)), .val (.int (Int32.ofNat i)), .val (.int (Int32.ofNat j)), .val (.long vv), .second, .val (.ref r10), .val (.ref r11), .val (.long (0 : Int64)), .second] [(.long (0 : Int64)), (.long (if j = i then vv else 0))]))
      refine own_go (fun t_ k_ => XS.lcmp X27.here hx rfl (hb hby at_255) rfl k_) ?_
      show OwnFin p e below s _ _ _ (T27.setTop (mkF m 256 #[.val (.int pn), .val (.int pI), .val (.int pJ), .val (.long qv), .second, .val (.int (Int32.ofNat k)), .val (.ref tm), .val (.int (1 : Int32)), .val (.int (Int32.ofNat i)), .val (.int (Int32.ofNat j)), .val (.long vv), .second, .val (.ref r10), .val (.ref r11), .val (.long (0 : Int64)), .second] [(.int (lcmpW (if j = i then vv else 0) (0 : Int64)))]))
      have hc256 : (if j = i then vv else 0) = (0 : Int64) := if_neg hji
      refine own_go (fun t_ k_ => XS.ifNo X27.here hx rfl (hb hby at_256) rfl ((if0 _ _).trans (teq ((lw_eq (if j = i then vv else 0) (0 : Int64)).mpr hc256)).2) k_) ?_
      show OwnFin p e below s _ _ _ (T27.setTop (mkF m 259 #[.val (.int pn), .val (.int pI), .val (.int pJ), .val (.long qv), .second, .val (.int (Int32.ofNat k)), .val (.ref tm), .val (.int (1 : Int32)), .val (.int (Int32.ofNat i)), .val (.int (Int32.ofNat j)), .val (.long vv), .second, .val (.ref r10), .val (.ref r11), .val (.long (0 : Int64)), .second] []))
      refine own_go (fun t_ k_ => XS.iconst X27.here hx rfl (hb hby at_259) k_) ?_
      show OwnFin p e below s _ _ _ (T27.setTop (mkF m 260 #[.val (.int pn), .val (.int pI), .val (.int pJ), .val (.long qv), .second, .val (.int (Int32.ofNat k)), .val (.ref tm), .val (.int (1 : Int32)), .val (.int (Int32.ofNat i)), .val (.int (Int32.ofNat j)), .val (.long vv), .second, .val (.ref r10), .val (.ref r11), .val (.long (0 : Int64)), .second] [(.int (1 : Int32))]))
      refine own_go (fun t_ k_ => XS.goto X27.here hx rfl (pc0 := 260) (pc' := 264) rfl (hb hby at_260) (by decide) (by decide) k_) ?_
      show OwnFin p e below s _ _ _ (T27.setTop (mkF m 264 #[.val (.int pn), .val (.int pI), .val (.int pJ), .val (.long qv), .second, .val (.int (Int32.ofNat k)), .val (.ref tm), .val (.int (1 : Int32)), .val (.int (Int32.ofNat i)), .val (.int (Int32.ofNat j)), .val (.long vv), .second, .val (.ref r10), .val (.ref r11), .val (.long (0 : Int64)), .second] [(.int (1 : Int32))]))
      refine own_ret X27 (v := some (.int (1 : Int32))) hlk (fun hh => by rw [hret] at hh; cases hh) (fun fs hr => retN X27 hx (t := .boolean) hret (by simp) (hb hby at_264) hr) (by decide) (by decide) ?_
      exact ⟨rfl, N25⟩
set_option maxRecDepth 65536 in
set_option maxHeartbeats 40000000 in
theorem comes_1 {Post : Tables → Env → Array Value → State → Outcome → State → Prop} (hpost : ∀ tb e args s v u, (limb_1_1.after args s (.returned v) u = true ∧ limb_1_2.after args s (.returned v) u = true ∧ True) → FrameEnd s (.returned v) u (Jvm.fieldLocs frame_1_writes args s ++ Jvm.arrayLocs frame_1_arrays args s ++ Jvm.staticLocs frame_1_statics s) 16 128 → Post tb e args s (.returned v) u) :
    ArmFor flags0 classFile x code maxLocals ret World_1 tables_1 room_1 Calls_1 rest_1 Pre_1 Post := by
  intro l hfl _ _ p e ha hc hk s m args below hf hA hF happ hP
  obtain ⟨hcalls, hrest, hpre⟩ := hP
  obtain ⟨-, -, -, hnamed, -, -, -, hat⟩ := (Spec.applies_iff hf).mp happ
  obtain ⟨hg, hn⟩ := and_e (Cond.before_iff.mp (show (Jvm.Cond.and given_1 narrow_1).before args s = true from hpre))
  obtain ⟨g1, g2⟩ := and_e hg
  obtain ⟨g3, g4⟩ := and_e g2
  obtain ⟨g5, g6⟩ := and_e g4
  obtain ⟨g7, g8⟩ := and_e g6
  obtain ⟨w0, w1, w2, w3, rfl⟩ : ∃ w0 w1 w2 w3 : Value, args = #[w0, w1, w2, w3] := by
    have hs : args.size = 4 := by simpa [Cond.value, given_1] using g1
    obtain ⟨L⟩ := args
    match L, hs with
    | [w0, w1, w2, w3], _ => exact ⟨w0, w1, w2, w3, rfl⟩
  have hw := fun d (hd : d ∈ tables_1) => atoms_spec (ws := Jvm.Cond.code x code maxLocals ret :: tables_1) hat d (List.mem_cons_of_mem _ hd)
  have hfit : Fit s := fun {y c} hc i hi => by
    obtain ⟨ha, rfl⟩ := Array.getElem?_eq_some_iff.mp hc
    have q := List.all_eq_true.mp ((Array.all_eq_true_iff_forall_mem.mp hF) _ (Array.getElem_mem ha)) i (List.mem_range.mpr hi)
    simpa [Array.getElem?_eq_getElem hi] using q
  obtain ⟨i0, ei0⟩ := is_v g3
  obtain rfl : w0 = (.int i0) := Option.some.inj ei0
  obtain ⟨i1, ei1⟩ := is_v g5
  obtain rfl : w1 = (.int i1) := Option.some.inj ei1
  obtain ⟨i2, ei2⟩ := is_v g7
  obtain rfl : w2 = (.int i2) := Option.some.inj ei2
  obtain ⟨i3, ei3⟩ := isL_v g8
  obtain rfl : w3 = (.long i3) := Option.some.inj ei3
  obtain ⟨n, o, h1, h2, h3, _, L, rfl, ⟨rfl, N⟩, hq⟩ := rm0 l s _ hw tables_1 i0 i1 i2 i3 s.heap s.heap.size (Nat.le_refl _) p e ha hc hk s m _ below hf ((Spec.applies_iff_loose hf).mp happ).1 ⟨rfl, State.Warmed39.refl s, rfl⟩ trivial
  refine ⟨n, _, h1, h2, h3, hpost _ _ _ _ _ _ ⟨Cond.after_iff.mpr rfl, Cond.after_iff.mpr (eq_i res_at (Term.int_eval (1)) rfl), trivial⟩ ⟨hq.1, hq.2.1, (hq.2.2.sift fun y hy => Or.inr (N y hy)).mono (by decide) (by decide)⟩⟩
theorem main_1_1 : Claimed_1_1 := comes_1 fun _ _ _ _ _ _ h hF => ⟨h.1, hF⟩
theorem main_1_2 : Claimed_1_2 := comes_1 fun _ _ _ _ _ _ h hF => ⟨h.2.1, hF⟩
end Jvm.Pilot.@@N@@
namespace Jvm.Pilot.@@N@@
open Jvm Jvm.ClassFile Sem Op Lib Jvm.Free Jvm.Stand Jvm.Pilot.@@N@@.Jvm.D
/-! MADE BY PROGRAM (witnessworld.py) out of the Statement's table words and the real class files: 13 classes; the members and pool entries that the words name. The judged class is class 1, her method 1. -/
namespace start1
open Jvm.ClassFile
def u (s : String) : CpInfo := .utf8 (stringToUtf16 s)
/-- a pool by its gaps: so many unusable entries, then the entry; so many at the end -/
def gap : Nat → List CpInfo → List CpInfo
  | 0, r => r
  | n + 1, r => .unusable :: gap n r
def poolList (es : List (Nat × CpInfo)) (last : Nat) : List CpInfo := es.foldr (fun e r => gap e.1 (e.2 :: r)) (gap last [])
def pool (es : List (Nat × CpInfo)) (last : Nat) : Array CpInfo := ⟨poolList es last⟩
def fileOf (pool : Array CpInfo) (this : Nat) (attrs : Array Attribute := #[]) (ms : Array MethodInfo := #[]) (fl : Nat := 33) (sup : Nat := 0) (ifs : Array Nat := #[]) (fds : Array FieldInfo := #[]) : ClassFile where
  minorVersion := 0
  majorVersion := 65
  constantPool := pool
  accessFlags := fl
  thisClass := this
  superClass := sup
  interfaces := ifs
  fields := fds
  methods := ms
  attributes := attrs
def plain (name : String) (sup : Option ClassId) : Class where
  name := name
  kind := .ordinary
  loader := none
  accessFlags := 33
  super := sup
  interfaces := #[]
  cf := none
  fields := #[]
  methods := #[]
  instanceTypes := #[]
  staticTypes := #[]
  resolved := #[]
  callSites := []
  init := .initialized
  statics := none
  mirror := none

def pool0 : Array CpInfo := pool [(5, u "<init>"), (0, u "()V"), (1, .class_ 10), (1, u "java/lang/Object")] 113

def k0c0 : Code := { maxStack := 0, maxLocals := 1, code := object_method_1_code, exceptionTable := #[], attributes := #[] }
def k0m0 : Method := { name := "<init>", desc := "()V", sig := { parameters := [], returnType := none }, accessFlags := 1, code := some k0c0 }
/-- java/lang/Object -/
def k0 : Class := { plain "java/lang/Object" none with
  accessFlags := 33
  interfaces := #[]
  cf := some (fileOf pool0 8 #[] #[{ accessFlags := 1, nameIndex := 5, descriptorIndex := 6, attributes := #[] }] 33 0 #[] #[])
  fields := #[]
  methods := #[k0m0]
  instanceTypes := #[]
  staticTypes := #[]
  resolved := Array.replicate 124 none
  statics := none }

def pool1 : Array CpInfo := pool [(2, .class_ 4), (1, u "java/lang/Object"), (0, u "<init>"), (0, u "()V"), (0, .methodref 8 9), (0, .class_ 10), (0, .nameAndType 11 12), (0, u "com/example/thymus/thymus/Times"), (0, u "crisp"), (0, u "(I)Lcom/example/thymus/thymus/Times;"), (0, .fieldref 8 14), (0, .nameAndType 15 16), (0, u "low"), (0, u "[J"), (0, .fieldref 8 18), (0, .nameAndType 19 16), (0, u "mid"), (0, .fieldref 8 21), (0, .nameAndType 22 16), (0, u "high"), (0, .methodref 8 24), (0, .nameAndType 25 26), (0, u "isFuzzy"), (0, u "()Z"), (0, .integer 2147483647), (2, .long 9223372036854775807), (1, .methodref 8 33), (0, .nameAndType 34 35), (0, u "set"), (0, u "(IJJJ)V"), (0, .methodref 8 37), (0, .nameAndType 38 39), (0, u "get"), (0, u "(I)Lcom/example/thymus/thymus/FuzzyTime;"), (0, .methodref 41 42), (0, .class_ 43), (0, .nameAndType 44 45), (0, u "com/example/thymus/thymus/FuzzyTime"), (0, u "a"), (0, u "()J"), (0, .methodref 41 47), (0, .nameAndType 48 45), (0, u "b"), (0, .methodref 41 50), (0, .nameAndType 51 45), (0, u "c"), (0, .class_ 53), (0, u "com/example/thymus/thymus/TimesCrispPinLaw"), (2, u "law"), (0, u "(IIIJ)Z")] 3

def k1m0 : Method := { name := "<init>", desc := "()V", sig := { parameters := [], returnType := none }, accessFlags := 2, code := none }
def k1c1 : Code := { maxStack := 8, maxLocals := 16, code := code, exceptionTable := #[], attributes := #[] }
def k1m1 : Method := { name := "law", desc := "(IIIJ)Z", sig := { parameters := [.int, .int, .int, .long], returnType := some .boolean }, accessFlags := 9, code := some k1c1 }
/-- com/example/thymus/thymus/TimesCrispPinLaw -/
def k1 : Class := { plain "com/example/thymus/thymus/TimesCrispPinLaw" (some 0) with
  accessFlags := 49
  interfaces := #[]
  cf := some (fileOf pool1 52 #[] #[{ accessFlags := 2, nameIndex := 5, descriptorIndex := 6, attributes := #[] }, { accessFlags := 9, nameIndex := 56, descriptorIndex := 57, attributes := #[] }] 49 2 #[] #[])
  fields := #[]
  methods := #[k1m0, k1m1]
  instanceTypes := #[]
  staticTypes := #[]
  resolved := Array.replicate 61 none
  statics := none }

def pool2 : Array CpInfo := pool [(1, .methodref 2 3), (0, .class_ 4), (0, .nameAndType 5 6), (0, u "java/lang/Object"), (0, u "<init>"), (0, u "()V"), (0, .fieldref 8 9), (0, .class_ 10), (0, .nameAndType 11 12), (0, u "com/example/thymus/thymus/Times"), (0, u "low"), (0, u "[J"), (0, .fieldref 8 14), (0, .nameAndType 15 12), (0, u "mid"), (0, .fieldref 8 17), (0, .nameAndType 18 12), (0, u "high"), (0, .methodref 8 20), (0, .nameAndType 5 21), (0, u "([J[J[J)V"), (4, u "isFuzzy"), (0, u "()Z"), (2, u "crisp"), (0, u "(I)Lcom/example/thymus/thymus/Times;"), (0, .class_ 33), (0, u "com/example/thymus/thymus/FuzzyTime"), (0, .methodref 32 35), (0, .nameAndType 5 36), (0, u "(JJJ)V"), (25, u "get"), (0, u "(I)Lcom/example/thymus/thymus/FuzzyTime;"), (0, u "set"), (0, u "(IJJJ)V")] 8

def k2c0 : Code := { maxStack := 2, maxLocals := 4, code := prog_38_method_1_code, exceptionTable := #[], attributes := #[] }
def k2m0 : Method := { name := "<init>", desc := "([J[J[J)V", sig := { parameters := [(.array .long), (.array .long), (.array .long)], returnType := none }, accessFlags := 2, code := some k2c0 }
def k2c1 : Code := { maxStack := 5, maxLocals := 2, code := prog_38_method_2_code, exceptionTable := #[], attributes := #[] }
def k2m1 : Method := { name := "crisp", desc := "(I)Lcom/example/thymus/thymus/Times;", sig := { parameters := [.int], returnType := some (.object "com/example/thymus/thymus/Times") }, accessFlags := 8, code := some k2c1 }
def k2c2 : Code := { maxStack := 2, maxLocals := 1, code := prog_38_method_5_code, exceptionTable := #[], attributes := #[] }
def k2m2 : Method := { name := "isFuzzy", desc := "()Z", sig := { parameters := [], returnType := some .boolean }, accessFlags := 0, code := some k2c2 }
def k2c3 : Code := { maxStack := 8, maxLocals := 2, code := prog_38_method_6_code, exceptionTable := #[], attributes := #[] }
def k2m3 : Method := { name := "get", desc := "(I)Lcom/example/thymus/thymus/FuzzyTime;", sig := { parameters := [.int], returnType := some (.object "com/example/thymus/thymus/FuzzyTime") }, accessFlags := 0, code := some k2c3 }
def k2c4 : Code := { maxStack := 4, maxLocals := 8, code := prog_38_method_7_code, exceptionTable := #[], attributes := #[] }
def k2m4 : Method := { name := "set", desc := "(IJJJ)V", sig := { parameters := [.int, .long, .long, .long], returnType := none }, accessFlags := 0, code := some k2c4 }
/-- com/example/thymus/thymus/Times -/
def k2 : Class := { plain "com/example/thymus/thymus/Times" (some 0) with
  accessFlags := 48
  interfaces := #[]
  cf := some (fileOf pool2 8 #[] #[{ accessFlags := 2, nameIndex := 5, descriptorIndex := 21, attributes := #[] }, { accessFlags := 8, nameIndex := 30, descriptorIndex := 31, attributes := #[] }, { accessFlags := 0, nameIndex := 26, descriptorIndex := 27, attributes := #[] }, { accessFlags := 0, nameIndex := 62, descriptorIndex := 63, attributes := #[] }, { accessFlags := 0, nameIndex := 64, descriptorIndex := 65, attributes := #[] }] 48 2 #[] #[{ accessFlags := 16, nameIndex := 11, descriptorIndex := 12, attributes := #[] }, { accessFlags := 16, nameIndex := 15, descriptorIndex := 12, attributes := #[] }, { accessFlags := 16, nameIndex := 18, descriptorIndex := 12, attributes := #[] }])
  fields := #[{ name := "low", type := (.array .long), accessFlags := 16, slot := 0, constantValue := 0 }, { name := "mid", type := (.array .long), accessFlags := 16, slot := 1, constantValue := 0 }, { name := "high", type := (.array .long), accessFlags := 16, slot := 2, constantValue := 0 }]
  methods := #[k2m0, k2m1, k2m2, k2m3, k2m4]
  instanceTypes := #[(.array .long), (.array .long), (.array .long)]
  staticTypes := #[]
  resolved := Array.replicate 74 none
  statics := none }

def pool3 : Array CpInfo := pool [(1, .methodref 2 3), (0, .class_ 4), (0, .nameAndType 5 6), (0, u "java/lang/Object"), (0, u "<init>"), (0, u "()V"), (0, .class_ 8), (0, u "java/lang/Record")] 13

def k3c0 : Code := { maxStack := 1, maxLocals := 1, code := jdk_30_method_1_code, exceptionTable := #[], attributes := #[] }
def k3m0 : Method := { name := "<init>", desc := "()V", sig := { parameters := [], returnType := none }, accessFlags := 4, code := some k3c0 }
/-- java/lang/Record -/
def k3 : Class := { plain "java/lang/Record" (some 0) with
  accessFlags := 1057
  interfaces := #[]
  cf := some (fileOf pool3 7 #[] #[{ accessFlags := 4, nameIndex := 5, descriptorIndex := 6, attributes := #[] }] 1057 2 #[] #[])
  fields := #[]
  methods := #[k3m0]
  instanceTypes := #[]
  staticTypes := #[]
  resolved := Array.replicate 22 none
  statics := none }

def pool4 : Array CpInfo := pool [(1, .methodref 2 3), (0, .class_ 4), (0, .nameAndType 5 6), (0, u "java/lang/Record"), (0, u "<init>"), (0, u "()V"), (9, .fieldref 17 18), (0, .class_ 19), (0, .nameAndType 20 21), (0, u "com/example/thymus/thymus/FuzzyTime"), (0, u "a"), (0, u "J"), (0, .fieldref 17 23), (0, .nameAndType 24 21), (0, u "b"), (0, .fieldref 17 26), (0, .nameAndType 27 21), (0, u "c"), (9, u "(JJJ)V"), (8, u "()J")] 32

def k4c0 : Code := { maxStack := 8, maxLocals := 7, code := prog_12_method_1_code, exceptionTable := #[], attributes := #[] }
def k4m0 : Method := { name := "<init>", desc := "(JJJ)V", sig := { parameters := [.long, .long, .long], returnType := none }, accessFlags := 1, code := some k4c0 }
def k4c1 : Code := { maxStack := 2, maxLocals := 1, code := prog_12_method_5_code, exceptionTable := #[], attributes := #[] }
def k4m1 : Method := { name := "a", desc := "()J", sig := { parameters := [], returnType := some .long }, accessFlags := 1, code := some k4c1 }
def k4c2 : Code := { maxStack := 2, maxLocals := 1, code := prog_12_method_6_code, exceptionTable := #[], attributes := #[] }
def k4m2 : Method := { name := "b", desc := "()J", sig := { parameters := [], returnType := some .long }, accessFlags := 1, code := some k4c2 }
def k4c3 : Code := { maxStack := 2, maxLocals := 1, code := prog_12_method_7_code, exceptionTable := #[], attributes := #[] }
def k4m3 : Method := { name := "c", desc := "()J", sig := { parameters := [], returnType := some .long }, accessFlags := 1, code := some k4c3 }
/-- com/example/thymus/thymus/FuzzyTime -/
def k4 : Class := { plain "com/example/thymus/thymus/FuzzyTime" (some 3) with
  accessFlags := 49
  interfaces := #[]
  cf := some (fileOf pool4 17 #[] #[{ accessFlags := 1, nameIndex := 5, descriptorIndex := 37, attributes := #[] }, { accessFlags := 1, nameIndex := 20, descriptorIndex := 46, attributes := #[] }, { accessFlags := 1, nameIndex := 24, descriptorIndex := 46, attributes := #[] }, { accessFlags := 1, nameIndex := 27, descriptorIndex := 46, attributes := #[] }] 49 2 #[] #[{ accessFlags := 18, nameIndex := 20, descriptorIndex := 21, attributes := #[] }, { accessFlags := 18, nameIndex := 24, descriptorIndex := 21, attributes := #[] }, { accessFlags := 18, nameIndex := 27, descriptorIndex := 21, attributes := #[] }])
  fields := #[{ name := "a", type := .long, accessFlags := 18, slot := 0, constantValue := 0 }, { name := "b", type := .long, accessFlags := 18, slot := 1, constantValue := 0 }, { name := "c", type := .long, accessFlags := 18, slot := 2, constantValue := 0 }]
  methods := #[k4m0, k4m1, k4m2, k4m3]
  instanceTypes := #[.long, .long, .long]
  staticTypes := #[]
  resolved := Array.replicate 79 none
  statics := none }

def pool5 : Array CpInfo := pool [(1, u "java/lang/Cloneable"), (0, .class_ 1), (0, u "java/lang/Object"), (0, .class_ 3)] 3

/-- java/lang/Cloneable -/
def k5 : Class := { plain "java/lang/Cloneable" (some 0) with
  accessFlags := 1537
  interfaces := #[]
  cf := some (fileOf pool5 2 #[] #[] 1537 4 #[] #[])
  fields := #[]
  methods := #[]
  instanceTypes := #[]
  staticTypes := #[]
  resolved := Array.replicate 8 none
  statics := none }

def pool6 : Array CpInfo := pool [(1, u "java/io/Serializable"), (0, .class_ 1), (0, u "java/lang/Object"), (0, .class_ 3)] 3

/-- java/io/Serializable -/
def k6 : Class := { plain "java/io/Serializable" (some 0) with
  accessFlags := 1537
  interfaces := #[]
  cf := some (fileOf pool6 2 #[] #[] 1537 4 #[] #[])
  fields := #[]
  methods := #[]
  instanceTypes := #[]
  staticTypes := #[]
  resolved := Array.replicate 8 none
  statics := none }

/-- the primitive byte -/
def k7 : Class := { plain "byte" none with kind := .primitive 'B', accessFlags := 0x411 }
/-- [B -/
def k8 : Class := { plain "[B" (some 0) with kind := .array 7 .byte, interfaces := #[5, 6], accessFlags := 1041 }

/-- the primitive int -/
def k9 : Class := { plain "int" none with kind := .primitive 'I', accessFlags := 0x411 }
/-- [I -/
def k10 : Class := { plain "[I" (some 0) with kind := .array 9 .int, interfaces := #[5, 6], accessFlags := 1041 }

/-- the primitive long -/
def k11 : Class := { plain "long" none with kind := .primitive 'J', accessFlags := 0x411 }
/-- [J -/
def k12 : Class := { plain "[J" (some 0) with kind := .array 11 .long, interfaces := #[5, 6], accessFlags := 1041 }

def heap : Heap := #[]
def classes : Array Class := #[k0, k1, k2, k3, k4, k5, k6, k7, k8, k9, k10, k11, k12]
def interned : List (Array UInt16 × Addr) := []
def slotsUsed : Nat := 0
def theMethod : MethodId := ⟨1, 1⟩
def args0 : Array Value := #[.int 5, .int 1, .int 2, .long 77]
def aboutOver (below : List Frame) : State where
  vm := { classes := classes, interned := interned.toArray }
  heap := heap
  slotsUsed := slotsUsed
  threads := #[{ frames := .invoking theMethod args0 :: below }]
def below0 : List Frame := [.native { method := ⟨0, 0⟩, args := #[] }]
def about1 : State := aboutOver below0
def p0 : Program := .bare "" "" ""
def e0 : Env := launch0.env 0 0 0
theorem w_frames : about1.frames = Frame.invoking theMethod args0 :: below0 := rfl
set_option maxRecDepth 65536 in
theorem w_args : argsFit about1.vm theMethod args0 = true := by decide +kernel
set_option maxRecDepth 65536 in
theorem w_heap : heapFits about1 = true := by decide +kernel
set_option maxRecDepth 65536 in
theorem w_runnable : about1.curStatus? = some .runnable := by decide +kernel
set_option maxRecDepth 65536 in
theorem w_alone : about1.alone = true := by decide +kernel
set_option maxRecDepth 65536 in
theorem w_named : about1.methodNamed? x = some theMethod := by decide +kernel
set_option maxRecDepth 65536 in
theorem w_hears : about1.hears theMethod below0 = true := by decide +kernel
set_option maxRecDepth 65536 in
theorem w_ripe : about1.ripe theMethod args0 below0 = true := by decide +kernel
theorem w_running : about1.status = .running := rfl
set_option maxRecDepth 65536 in
theorem w_room : about1.hasRoom e0.platform room_1 = true :=
  launch0.hasRoom_least _ room_1 (by decide +kernel) (by decide +kernel) (by decide +kernel) (by decide +kernel) (by decide +kernel) (by decide +kernel)
theorem allAtoms_all (ts : List Jvm.Cond) (a : Array Jvm.Value) (st : Jvm.State) : (allAtoms ts).before a st = ts.all (fun c => c.before a st) := by
  induction ts with
  | nil => rfl
  | cons c t ih =>
    show (Jvm.Cond.and c (allAtoms t)).before a st = _
    rw [Jvm.Cond.before_and, ih, List.all_cons]
def words1 : List Jvm.Cond := Jvm.Cond.code x code maxLocals ret :: tables_1
/-- a 'code' word, met by the world's own term for the bytes: nothing is compared byte by byte -/
theorem code_word {y : MethodName} {bytes : ByteArray} {mx : Nat} {rt : Option FieldType} {a : Array Value} {s : State} {m : MethodId} {meth : Method} {c : Code} (h1 : s.methodNamed? y = some m) (h2 : s.vm.method? m = some meth) (h3 : meth.code = some c) (h4 : c.code = bytes)
    (h5 : (c.maxLocals == mx && c.exceptionTable.isEmpty && decide (c.maxStack ≤ mostOperands) && decide (meth.sig.returnType = rt) && !meth.locks && decide (parseMethodDescriptor y.desc = some meth.sig)) = true) : (Jvm.Cond.code y bytes mx rt).before a s = true := by
  simp only [Bool.and_eq_true, beq_iff_eq, Bool.not_eq_true', decide_eq_true_eq] at h5
  obtain ⟨⟨⟨⟨⟨g1, g2⟩, g3⟩, g4⟩, g5⟩, g6⟩ := h5
  simp [Cond.before, Cond.holds, Cond.value, h1, h2, h3, h4, g1, g2, g3, g4, g5, g6]
def isCode : Jvm.Cond → Bool
  | .code _ _ _ _ => true
  | _ => false
theorem all_split {L : List Jvm.Cond} {P : Jvm.Cond → Bool} (h1 : L.all (fun c => isCode c || P c) = true) (h2 : ∀ c ∈ L.filter isCode, P c = true) : L.all P = true := by
  refine List.all_eq_true.mpr fun c hc => ?_
  have h := List.all_eq_true.mp h1 c hc
  rcases Bool.eq_false_or_eq_true (isCode c) with hi | hi
  · exact h2 c (List.mem_filter.mpr ⟨hc, hi⟩)
  · simpa [hi] using h
set_option maxRecDepth 65536 in
theorem w_c0 : (Jvm.Cond.code x code maxLocals ret).before args0 about1 = true := code_word (m := ⟨1, 1⟩) (meth := k1m1) (c := k1c1) (by decide +kernel) rfl rfl rfl (by decide +kernel)
set_option maxRecDepth 65536 in
theorem w_c1 : (Jvm.Cond.code ({ cls := "com/example/thymus/thymus/Times", name := "crisp", desc := "(I)Lcom/example/thymus/thymus/Times;" } : Jvm.MethodName) prog_38_method_2_code (2 : Nat) (Option.some (Jvm.ClassFile.FieldType.object "com/example/thymus/thymus/Times"))).before args0 about1 = true := code_word (m := ⟨2, 1⟩) (meth := k2m1) (c := k2c1) (by decide +kernel) rfl rfl rfl (by decide +kernel)
set_option maxRecDepth 65536 in
theorem w_c2 : (Jvm.Cond.code ({ cls := "com/example/thymus/thymus/Times", name := "<init>", desc := "([J[J[J)V" } : Jvm.MethodName) prog_38_method_1_code (4 : Nat) (Option.none : Option Jvm.ClassFile.FieldType)).before args0 about1 = true := code_word (m := ⟨2, 0⟩) (meth := k2m0) (c := k2c0) (by decide +kernel) rfl rfl rfl (by decide +kernel)
set_option maxRecDepth 65536 in
theorem w_c3 : (Jvm.Cond.code ({ cls := "java/lang/Object", name := "<init>", desc := "()V" } : Jvm.MethodName) object_method_1_code (1 : Nat) (Option.none : Option Jvm.ClassFile.FieldType)).before args0 about1 = true := code_word (m := ⟨0, 0⟩) (meth := k0m0) (c := k0c0) (by decide +kernel) rfl rfl rfl (by decide +kernel)
set_option maxRecDepth 65536 in
theorem w_c4 : (Jvm.Cond.code ({ cls := "com/example/thymus/thymus/Times", name := "isFuzzy", desc := "()Z" } : Jvm.MethodName) prog_38_method_5_code (1 : Nat) (Option.some Jvm.ClassFile.FieldType.boolean)).before args0 about1 = true := code_word (m := ⟨2, 2⟩) (meth := k2m2) (c := k2c2) (by decide +kernel) rfl rfl rfl (by decide +kernel)
set_option maxRecDepth 65536 in
theorem w_c5 : (Jvm.Cond.code ({ cls := "com/example/thymus/thymus/Times", name := "set", desc := "(IJJJ)V" } : Jvm.MethodName) prog_38_method_7_code (8 : Nat) (Option.none : Option Jvm.ClassFile.FieldType)).before args0 about1 = true := code_word (m := ⟨2, 4⟩) (meth := k2m4) (c := k2c4) (by decide +kernel) rfl rfl rfl (by decide +kernel)
set_option maxRecDepth 65536 in
theorem w_c6 : (Jvm.Cond.code ({ cls := "com/example/thymus/thymus/Times", name := "get", desc := "(I)Lcom/example/thymus/thymus/FuzzyTime;" } : Jvm.MethodName) prog_38_method_6_code (2 : Nat) (Option.some (Jvm.ClassFile.FieldType.object "com/example/thymus/thymus/FuzzyTime"))).before args0 about1 = true := code_word (m := ⟨2, 3⟩) (meth := k2m3) (c := k2c3) (by decide +kernel) rfl rfl rfl (by decide +kernel)
set_option maxRecDepth 65536 in
theorem w_c7 : (Jvm.Cond.code ({ cls := "com/example/thymus/thymus/FuzzyTime", name := "<init>", desc := "(JJJ)V" } : Jvm.MethodName) prog_12_method_1_code (7 : Nat) (Option.none : Option Jvm.ClassFile.FieldType)).before args0 about1 = true := code_word (m := ⟨4, 0⟩) (meth := k4m0) (c := k4c0) (by decide +kernel) rfl rfl rfl (by decide +kernel)
set_option maxRecDepth 65536 in
theorem w_c8 : (Jvm.Cond.code ({ cls := "java/lang/Record", name := "<init>", desc := "()V" } : Jvm.MethodName) jdk_30_method_1_code (1 : Nat) (Option.none : Option Jvm.ClassFile.FieldType)).before args0 about1 = true := code_word (m := ⟨3, 0⟩) (meth := k3m0) (c := k3c0) (by decide +kernel) rfl rfl rfl (by decide +kernel)
set_option maxRecDepth 65536 in
theorem w_c9 : (Jvm.Cond.code ({ cls := "com/example/thymus/thymus/FuzzyTime", name := "a", desc := "()J" } : Jvm.MethodName) prog_12_method_5_code (1 : Nat) (Option.some Jvm.ClassFile.FieldType.long)).before args0 about1 = true := code_word (m := ⟨4, 1⟩) (meth := k4m1) (c := k4c1) (by decide +kernel) rfl rfl rfl (by decide +kernel)
set_option maxRecDepth 65536 in
theorem w_c10 : (Jvm.Cond.code ({ cls := "com/example/thymus/thymus/FuzzyTime", name := "b", desc := "()J" } : Jvm.MethodName) prog_12_method_6_code (1 : Nat) (Option.some Jvm.ClassFile.FieldType.long)).before args0 about1 = true := code_word (m := ⟨4, 2⟩) (meth := k4m2) (c := k4c2) (by decide +kernel) rfl rfl rfl (by decide +kernel)
set_option maxRecDepth 65536 in
theorem w_c11 : (Jvm.Cond.code ({ cls := "com/example/thymus/thymus/FuzzyTime", name := "c", desc := "()J" } : Jvm.MethodName) prog_12_method_7_code (1 : Nat) (Option.some Jvm.ClassFile.FieldType.long)).before args0 about1 = true := code_word (m := ⟨4, 3⟩) (meth := k4m3) (c := k4c3) (by decide +kernel) rfl rfl rfl (by decide +kernel)
def codes1 : List Jvm.Cond := [Jvm.Cond.code x code maxLocals ret, Jvm.Cond.code ({ cls := "com/example/thymus/thymus/Times", name := "crisp", desc := "(I)Lcom/example/thymus/thymus/Times;" } : Jvm.MethodName) prog_38_method_2_code (2 : Nat) (Option.some (Jvm.ClassFile.FieldType.object "com/example/thymus/thymus/Times")), Jvm.Cond.code ({ cls := "com/example/thymus/thymus/Times", name := "<init>", desc := "([J[J[J)V" } : Jvm.MethodName) prog_38_method_1_code (4 : Nat) (Option.none : Option Jvm.ClassFile.FieldType), Jvm.Cond.code ({ cls := "java/lang/Object", name := "<init>", desc := "()V" } : Jvm.MethodName) object_method_1_code (1 : Nat) (Option.none : Option Jvm.ClassFile.FieldType), Jvm.Cond.code ({ cls := "com/example/thymus/thymus/Times", name := "isFuzzy", desc := "()Z" } : Jvm.MethodName) prog_38_method_5_code (1 : Nat) (Option.some Jvm.ClassFile.FieldType.boolean), Jvm.Cond.code ({ cls := "com/example/thymus/thymus/Times", name := "set", desc := "(IJJJ)V" } : Jvm.MethodName) prog_38_method_7_code (8 : Nat) (Option.none : Option Jvm.ClassFile.FieldType), Jvm.Cond.code ({ cls := "com/example/thymus/thymus/Times", name := "get", desc := "(I)Lcom/example/thymus/thymus/FuzzyTime;" } : Jvm.MethodName) prog_38_method_6_code (2 : Nat) (Option.some (Jvm.ClassFile.FieldType.object "com/example/thymus/thymus/FuzzyTime")), Jvm.Cond.code ({ cls := "com/example/thymus/thymus/FuzzyTime", name := "<init>", desc := "(JJJ)V" } : Jvm.MethodName) prog_12_method_1_code (7 : Nat) (Option.none : Option Jvm.ClassFile.FieldType), Jvm.Cond.code ({ cls := "java/lang/Record", name := "<init>", desc := "()V" } : Jvm.MethodName) jdk_30_method_1_code (1 : Nat) (Option.none : Option Jvm.ClassFile.FieldType), Jvm.Cond.code ({ cls := "com/example/thymus/thymus/FuzzyTime", name := "a", desc := "()J" } : Jvm.MethodName) prog_12_method_5_code (1 : Nat) (Option.some Jvm.ClassFile.FieldType.long), Jvm.Cond.code ({ cls := "com/example/thymus/thymus/FuzzyTime", name := "b", desc := "()J" } : Jvm.MethodName) prog_12_method_6_code (1 : Nat) (Option.some Jvm.ClassFile.FieldType.long), Jvm.Cond.code ({ cls := "com/example/thymus/thymus/FuzzyTime", name := "c", desc := "()J" } : Jvm.MethodName) prog_12_method_7_code (1 : Nat) (Option.some Jvm.ClassFile.FieldType.long)]
set_option maxRecDepth 65536 in
theorem codes_eq : words1.filter isCode = codes1 := rfl
theorem w_codes : ∀ c ∈ words1.filter isCode, c.before args0 about1 = true := by
  rw [codes_eq]
  intro c hc
  simp only [codes1, List.mem_cons, List.not_mem_nil, or_false] at hc
  rcases hc with rfl | rfl | rfl | rfl | rfl | rfl | rfl | rfl | rfl | rfl | rfl | rfl
  · exact w_c0
  · exact w_c1
  · exact w_c2
  · exact w_c3
  · exact w_c4
  · exact w_c5
  · exact w_c6
  · exact w_c7
  · exact w_c8
  · exact w_c9
  · exact w_c10
  · exact w_c11
set_option maxRecDepth 65536 in
theorem w_t1 : (words1.take 24).all (fun c => isCode c || c.before args0 about1) = true := by decide +kernel
set_option maxRecDepth 65536 in
theorem w_t2 : ((words1.drop 24).take 24).all (fun c => isCode c || c.before args0 about1) = true := by decide +kernel
set_option maxRecDepth 65536 in
theorem w_t3 : (((words1.drop 24).drop 24).take 24).all (fun c => isCode c || c.before args0 about1) = true := by decide +kernel
set_option maxRecDepth 65536 in
theorem w_t4 : (((words1.drop 24).drop 24).drop 24).all (fun c => isCode c || c.before args0 about1) = true := by decide +kernel
theorem w_tables : (allAtoms (Jvm.Cond.code x code maxLocals ret :: tables_1)).before args0 about1 = true := by
  rw [allAtoms_all]
  show words1.all (fun c => c.before args0 about1) = true
  refine all_split ?_ w_codes
  rw [← List.take_append_drop 24 words1, List.all_append, w_t1, ← List.take_append_drop 24 (words1.drop 24), List.all_append, w_t2, ← List.take_append_drop 24 ((words1.drop 24).drop 24), List.all_append, w_t3, w_t4]
  rfl
set_option maxRecDepth 65536 in
theorem w_case : (Jvm.Cond.and given_1 narrow_1).before args0 about1 = true := by decide +kernel
theorem w_applies : (headSpec (Jvm.Cond.code x code maxLocals ret :: tables_1) room_1).applies x e0.platform about1 = true :=
  (Spec.applies_iff w_frames).mpr ⟨w_running, w_runnable, w_alone, w_named, w_hears, w_ripe, w_room, w_tables⟩
theorem atStart : AtStart classFile x code maxLocals ret World_1 tables_1 room_1 Calls_1 rest_1 Pre_1 launch0 p0 e0 about1 theMethod args0 below0 :=
  ⟨lists_1, trivial, launch0.admits_env _ _ _, launch0.least_env, fairChoices_fair.cas, fairChoices_fair.clock, w_frames, w_args, w_heap, w_applies, trivial, trivial, w_case⟩
end start1
theorem witness_1 : WitnessClaimed_1 := ⟨start1.p0, start1.e0, start1.about1, start1.theMethod, start1.args0, start1.below0, start1.atStart⟩
end Jvm.Pilot.@@N@@
