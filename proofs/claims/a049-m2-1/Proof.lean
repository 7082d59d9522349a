import JvmDerived
import JvmDerived.Pilot.@@N@@Statement
import JvmDerived.Pilot.@@N@@Code
set_option linter.unusedVariables false
set_option linter.unusedSimpArgs false
namespace Jvm.Pilot.@@N@@
open Jvm Jvm.ClassFile Sem Op Lib Jvm.Free Jvm.Stand Jvm.LawKit Jvm.RoadKit Bundle Jvm.Pilot.@@N@@.Jvm.D
section Own
variable {p : Program} {l : Launch} {e : Env} {R : Room} {s : State} {m : MethodId} {args : Array Value} {below : List Frame} {meth : Method} {c : Code} {T : State} {locs : List Loc} {cells slots : Nat} {Z : State} {a0 : Array Value} {h : Heap}
/-- from the state A the run comes to the method's end, and Q says what it leaves -/
def OwnFin (p : Program) (e : Env) (below : List Frame) (s : State) (Q : Option Value → Heap → List Loc → Prop) (C S : Nat) (A : State) : Prop :=
  ∃ s₂ o, Steps p.tables e below A s₂ ∧ s₂.status = .running ∧ Ended s₂ below o ∧ ∃ v L, o = .returned v ∧ Q v s₂.heap L ∧ FrameEnd s o s₂ L C S
variable {Q : Option Value → Heap → List Loc → Prop} {C S : Nat}
theorem own_go {A B : State} (h : ∀ t, Steps p.tables e below B t → Steps p.tables e below A t) (k : OwnFin p e below s Q C S B) : OwnFin p e below s Q C S A := by
  obtain ⟨s₂, o, h1, r⟩ := k
  exact ⟨s₂, o, h _ h1, r⟩
theorem own_ret (X : Stand p l e R s m args below meth c T locs cells slots) {v : Option Value} (hlk : meth.locks = false) (hv : meth.sig.returnType = none → v = none) {g : JFrame}
    (hstep : ∀ fs, (∀ (f : JFrame) (acts : List Action), f.method = m → f.locked = none → f.entered = [] → (doReturn e (T.setTop f) acts v).1 = T.setFrames fs) → Steps p.tables e below (T.setTop g) (T.setFrames fs))
    (hc : cells ≤ C) (hs : slots ≤ S) (hQ : Q v T.heap locs) : OwnFin p e below s Q C S (T.setTop g) := by
  obtain ⟨fs, hr, hrun, hended, hW, hsame⟩ := X.leave hv hlk
  exact ⟨_, _, hstep fs hr, hrun, hended, _, _, rfl, hQ, ⟨_, rfl⟩, hW, hsame.mono hc hs⟩
/-- a method's contract, in the form that backOf takes -/
abbrev OwnCtr (l : Launch) (Z : State) (y : MethodName) (ws : List Jvm.Cond) (bytes : ByteArray) (maxL : Nat) (ret : Option FieldType) (rm : Room) (as' : Array Value) (h0 : Heap) (Q : Option Value → Heap → List Loc → Prop) : Prop :=
  MetFree l y (head1 (Jvm.Cond.code y bytes maxL ret :: ws) rm) (fun a U => a = as' ∧ Z.Warmed39 U.vm ∧ U.heap = h0) (fun _ _ _ _ _ => True) (fun _ U o U' => ∃ v L, o = .returned v ∧ Q v U'.heap L ∧ FrameEnd U o U' L rm.cells rm.slots)
theorem own_body {l : Launch} {Z : State} {y : MethodName} {ws : List Jvm.Cond} {bytes : ByteArray} {maxL : Nat} {ret : Option FieldType} {rm : Room} {as' : Array Value} {h0 : Heap} {g0 : MethodId → JFrame}
    (hpl : plainFor y = true) (hef : ∀ m, entryFrame m as' maxL = g0 m)
    (body : ∀ (p : Program) (e : Env) (s : State) (m : MethodId) (below : List Frame) (meth : Method) (c : Code) (s₁ : State), Stand p l e rm s m as' below meth c s₁ [] 0 0 → p.tables.exec = Jvm.exec → c.code = bytes → c.maxLocals = maxL →
      s.vm.findClass y.cls = some m.cls → meth.name = y.name → Z.Warmed39 s.vm → s₁.heap = h0 → meth.sig.returnType = ret → meth.locks = false → OwnFin p e below s Q rm.cells rm.slots (s₁.setTop (g0 m))) :
    OwnCtr l Z y ws bytes maxL ret rm as' h0 Q := by
  refine MetFree.of_bodySF hpl hisR ?_
  intro p e s m args below meth c s₁ Bd hml0 hP hK
  obtain ⟨rfl, hZ, hh⟩ := hP
  have e0 : s₁.heap = h0 := by rw [← hh, Bd.state]; rfl
  have k := body p e s m below meth c s₁ (Stand.of_body Bd) Bd.exec Bd.bytes hml0 (findClass_of_methodNamed Bd.named) (name_of_methodNamed Bd.named Bd.method).1 hZ e0 Bd.returns Bd.notSynchronized
  rw [← hef m] at k
  exact k
/-- a static call by its contract -/
theorem own_callS (X : Stand p l e R s m args below meth c T locs cells slots) (hx : p.tables.exec = Jvm.exec) (hZ : Z.Warmed39 s.vm) {own : String} {index : Nat} {y : MethodName} {bytes : ByteArray} {maxL : Nat} {ret : Option FieldType} {rm : Room} {as' : Array Value} {Q : Option Value → Heap → List Loc → Prop}
    (hown : s.vm.findClass own = some m.cls) (hlink : (Cond.methodLink own index y).before a0 Z = true) (hstat : (Cond.static y).before a0 Z = true) (hinit : (Cond.initialized y.cls).before a0 Z = true) (hcode : (Cond.code y bytes maxL ret).before a0 Z = true)
    (hy : y.cls ≠ "java/lang/invoke/MethodHandle" ∧ y.cls ≠ "java/lang/invoke/VarHandle") {W : Nat} (hM : OwnCtr l Z y [] bytes maxL ret rm as' h Q) (hf : rm.frames + 1 ≤ R.frames) (hl : W + (maxL + 11) + rm.locals ≤ R.locals)
    {g : JFrame} (hg : g.method = m) (hsize : g.locals.size = c.maxLocals) {argsL rest : List Value} (hlen : ∀ sig, parseMethodDescriptor y.desc = some sig → argsL.length = sig.parameters.length)
    (hstack : g.stack = argsL.reverse ++ rest) (hW : 2 * g.monitorRoom + (rest.map fun v => v.category).sum ≤ W) (hdg : decode c.code g.pc = .ok (.invokestatic index, 3)) (eT : T.heap = h) (ha : argsL.toArray = as') (hc : cells + rm.cells ≤ R.cells) (hs : slots + rm.slots ≤ R.slots) :
    ∃ (v : Option Value) (T' : State) (L : List Loc), Stand p l e R s m args below meth c T' (locs ++ L) (cells + rm.cells) (slots + rm.slots) ∧ Q v T'.heap L ∧ ∀ target, Steps p.tables e below (T'.setTop { g with pc := g.pc + 3, stack := v.toList ++ rest }) target → Steps p.tables e below (T.setTop g) target := by
  obtain ⟨v, _, ⟨T', L', k, n⟩, -, X', ⟨L, hQ, l1, y1, z1⟩, st⟩ := Jvm.LawKit.callS X hx (y := y) hown (mvT hZ hlink) (mvT hZ hstat) (mvT hZ hinit) (mvT hZ hcode) hy (backOf (W := W) hM hZ hcode hinit hf hl) hg hsize hlen hstack hW hdg (fun _ _ => ⟨ha, eT, hc, hs⟩)
  dsimp only [Pt.U, Pt.locs, Pt.cells, Pt.slots] at X' l1 y1 z1 st hQ
  subst l1 y1 z1
  exact ⟨v, T', L, X', hQ, st⟩
/-- a constructor by its contract -/
theorem own_callI (X : Stand p l e R s m args below meth c T locs cells slots) (hx : p.tables.exec = Jvm.exec) (hZ : Z.Warmed39 s.vm) {own : String} {index : Nat} {y : MethodName} {bytes : ByteArray} {maxL : Nat} {rm : Room} {as' : Array Value} {Q : Option Value → Heap → List Loc → Prop}
    (hy1 : y.name = "<init>") (hown : s.vm.findClass own = some m.cls) (hlink : (Cond.methodLink own index y).before a0 Z = true) (hinst : (Cond.instanceMethod y).before a0 Z = true) (hinit : (Cond.initialized y.cls).before a0 Z = true) (hcode : (Cond.code y bytes maxL none).before a0 Z = true)
    (hy : y.cls ≠ "java/lang/invoke/MethodHandle" ∧ y.cls ≠ "java/lang/invoke/VarHandle") {W : Nat} (hM : OwnCtr l Z y [] bytes maxL none rm as' h Q) (hf : rm.frames + 1 ≤ R.frames) (hl : W + (maxL + 11) + rm.locals ≤ R.locals)
    {g : JFrame} (hg : g.method = m) (hsize : g.locals.size = c.maxLocals) {a : Addr} {argsL rest : List Value} (hlen : ∀ sig, parseMethodDescriptor y.desc = some sig → argsL.length = sig.parameters.length)
    (hstack : g.stack = argsL.reverse ++ .ref a :: rest) (hW : 2 * g.monitorRoom + (rest.map fun v => v.category).sum ≤ W) (hdg : decode c.code g.pc = .ok (.invokespecial index, 3)) (eT : T.heap = h) (ha : (.ref a :: argsL).toArray = as') (hc : cells + rm.cells ≤ R.cells) (hs : slots + rm.slots ≤ R.slots) :
    ∃ (v : Option Value) (T' : State) (L : List Loc), Stand p l e R s m args below meth c T' (locs ++ L) (cells + rm.cells) (slots + rm.slots) ∧ Q v T'.heap L ∧ ∀ target, Steps p.tables e below (T'.setTop { g with pc := g.pc + 3, stack := v.toList ++ rest }) target → Steps p.tables e below (T.setTop g) target := by
  obtain ⟨v, _, ⟨T', L', k, n⟩, -, X', ⟨L, hQ, l1, y1, z1⟩, st⟩ := X.specialBack hx (y := y) hy1 hown (mvT hZ hlink) (mvT hZ hinst) (mvT hZ hcode) hy (backOf (W := W) hM hZ hcode hinit hf hl) hg hsize (Steps.refl _) hlen hstack hW hdg (fun _ _ => ⟨ha, eT, hc, hs⟩)
  dsimp only [Pt.U, Pt.locs, Pt.cells, Pt.slots] at X' l1 y1 z1 st hQ
  subst l1 y1 z1
  exact ⟨v, T', L, X', hQ, fun t k => st.trans k⟩
/-- an instance method by its contract -/
theorem own_callV (X : Stand p l e R s m args below meth c T locs cells slots) (hx : p.tables.exec = Jvm.exec) (hZ : Z.Warmed39 s.vm) {own K : String} {index : Nat} {y z : MethodName} {bytes : ByteArray} {maxL : Nat} {ret : Option FieldType} {rm : Room} {as' : Array Value} {Q : Option Value → Heap → List Loc → Prop}
    (hown : s.vm.findClass own = some m.cls) (hlink : (Cond.methodLink own index y).before a0 Z = true) (hdecl : (Cond.declares y).before a0 Z = true) (hnf : NotFace s y) (hsel : (Cond.selects K y z).before a0 Z = true) (hinst : (Cond.instanceMethod z).before a0 Z = true) (hinit : (Cond.initialized z.cls).before a0 Z = true) (hcode : (Cond.code z bytes maxL ret).before a0 Z = true)
    (hy : y.cls ≠ "java/lang/invoke/MethodHandle" ∧ y.cls ≠ "java/lang/invoke/VarHandle") {W : Nat} (hM : OwnCtr l Z z [] bytes maxL ret rm as' h Q) (hf : rm.frames + 1 ≤ R.frames) (hl : W + (maxL + 11) + rm.locals ≤ R.locals)
    {b : Addr} (E : Exa Z h b K) {g : JFrame} (hg : g.method = m) (hsize : g.locals.size = c.maxLocals) {argsL rest : List Value} (hlen : ∀ sig, parseMethodDescriptor y.desc = some sig → argsL.length = sig.parameters.length)
    (hstack : g.stack = argsL.reverse ++ .ref b :: rest) (hW : 2 * g.monitorRoom + (rest.map fun v => v.category).sum ≤ W) (hdg : decode c.code g.pc = .ok (.invokevirtual index, 3)) (eT : T.heap = h) (ha : (.ref b :: argsL).toArray = as') (hc : cells + rm.cells ≤ R.cells) (hs : slots + rm.slots ≤ R.slots) :
    ∃ (v : Option Value) (T' : State) (L : List Loc), Stand p l e R s m args below meth c T' (locs ++ L) (cells + rm.cells) (slots + rm.slots) ∧ Q v T'.heap L ∧ ∀ target, Steps p.tables e below (T'.setTop { g with pc := g.pc + 3, stack := v.toList ++ rest }) target → Steps p.tables e below (T.setTop g) target := by
  obtain ⟨cq, kq, qa, qb, qc⟩ := isOf hZ eT E
  obtain ⟨v, _, ⟨T', L', k, n⟩, -, X', ⟨L, hQ, l1, y1, z1⟩, st⟩ := X.virtualBack hx (y := y) (z := z) hown (mvT hZ hlink) (mvT hZ hdecl) hnf (mvT hZ hsel) (mvT hZ hinst) hy (backOf (W := W) hM hZ hcode hinit hf hl) qa qc hg hsize (Steps.refl _) hlen hstack hW hdg (fun _ _ => ⟨ha, eT, hc, hs⟩)
  dsimp only [Pt.U, Pt.locs, Pt.cells, Pt.slots] at X' l1 y1 z1 st hQ
  subst l1 y1 z1
  exact ⟨v, T', L, X', hQ, fun t k => st.trans k⟩
/-- a private instance method, called by invokevirtual, by its contract -/
theorem own_callP (X : Stand p l e R s m args below meth c T locs cells slots) (hx : p.tables.exec = Jvm.exec) (hZ : Z.Warmed39 s.vm) {own : String} {index : Nat} {y : MethodName} {bytes : ByteArray} {maxL : Nat} {ret : Option FieldType} {rm : Room} {as' : Array Value} {Q : Option Value → Heap → List Loc → Prop}
    (hown : s.vm.findClass own = some m.cls) (hlink : (Cond.methodLink own index y).before a0 Z = true) (hinst : (Cond.instanceMethod y).before a0 Z = true) (hsel : (Cond.selects y.cls y y).before a0 Z = true) (hpriv : (Cond.privateMethod y).before a0 Z = true) (hinit : (Cond.initialized y.cls).before a0 Z = true) (hcode : (Cond.code y bytes maxL ret).before a0 Z = true)
    (hy : y.cls ≠ "java/lang/invoke/MethodHandle" ∧ y.cls ≠ "java/lang/invoke/VarHandle") {W : Nat} (hM : OwnCtr l Z y [] bytes maxL ret rm as' h Q) (hf : rm.frames + 1 ≤ R.frames) (hl : W + (maxL + 11) + rm.locals ≤ R.locals)
    {b : Addr} {K : String} (E : Exa Z h b K) {g : JFrame} (hg : g.method = m) (hsize : g.locals.size = c.maxLocals) {argsL rest : List Value} (hlen : ∀ sig, parseMethodDescriptor y.desc = some sig → argsL.length = sig.parameters.length)
    (hstack : g.stack = argsL.reverse ++ .ref b :: rest) (hW : 2 * g.monitorRoom + (rest.map fun v => v.category).sum ≤ W) (hdg : decode c.code g.pc = .ok (.invokevirtual index, 3)) (eT : T.heap = h) (ha : (.ref b :: argsL).toArray = as') (hc : cells + rm.cells ≤ R.cells) (hs : slots + rm.slots ≤ R.slots) :
    ∃ (v : Option Value) (T' : State) (L : List Loc), Stand p l e R s m args below meth c T' (locs ++ L) (cells + rm.cells) (slots + rm.slots) ∧ Q v T'.heap L ∧ ∀ target, Steps p.tables e below (T'.setTop { g with pc := g.pc + 3, stack := v.toList ++ rest }) target → Steps p.tables e below (T.setTop g) target := by
  obtain ⟨cq, q1, q2⟩ := E.cell
  obtain ⟨v, _, ⟨T', L', k, n⟩, -, X', ⟨L, hQ, l1, y1, z1⟩, st⟩ := X.privateBack hx (y := y) hown (mvT hZ hlink) (mvT hZ hinst) (mvT hZ hsel) (Cond.privateMethod_at (mvP hZ hpriv (args := #[]))) (mvT hZ hcode) hy (backOf (W := W) hM hZ hcode hinit hf hl) hg hsize (Steps.refl _) (by rw [eT]; exact q1) q2 hlen hstack hW hdg (fun _ _ => ⟨ha, eT, hc, hs⟩)
  dsimp only [Pt.U, Pt.locs, Pt.cells, Pt.slots] at X' l1 y1 z1 st hQ
  subst l1 y1 z1
  exact ⟨v, T', L, X', hQ, fun t k => st.trans k⟩
theorem own_retI (X : Stand p l e R s m args below meth c T locs cells slots) (hx : p.tables.exec = Jvm.exec) {pc : Nat} {Ls : Array Slot} {z : Int32} {rest : List Value} (hret : meth.sig.returnType = some .int) (hd : decode c.code pc = .ok (.ireturn, 1)) {fs : List Frame}
    (hl : ∀ (f : JFrame) (acts : List Action), f.method = m → f.locked = none → f.entered = [] → (doReturn e (T.setTop f) acts (some (.int z))).1 = T.setFrames fs) : Steps p.tables e below (T.setTop (mkF m pc Ls (.int z :: rest))) (T.setFrames fs) :=
  retOut X hx hret rfl (Or.inl ⟨rfl, Or.inl rfl, _, rfl⟩) hd hl
theorem own_retJ (X : Stand p l e R s m args below meth c T locs cells slots) (hx : p.tables.exec = Jvm.exec) {pc : Nat} {Ls : Array Slot} {z : Int64} {rest : List Value} (hret : meth.sig.returnType = some .long) (hd : decode c.code pc = .ok (.lreturn, 1)) {fs : List Frame}
    (hl : ∀ (f : JFrame) (acts : List Action), f.method = m → f.locked = none → f.entered = [] → (doReturn e (T.setTop f) acts (some (.long z))).1 = T.setFrames fs) : Steps p.tables e below (T.setTop (mkF m pc Ls (.long z :: rest))) (T.setFrames fs) :=
  retOut X hx hret rfl (Or.inr (Or.inl ⟨rfl, rfl, _, rfl⟩)) hd hl
theorem own_retR (X : Stand p l e R s m args below meth c T locs cells slots) (hx : p.tables.exec = Jvm.exec) {pc : Nat} {Ls : Array Slot} {w : Value} {t : FieldType} {rest : List Value} (hret : meth.sig.returnType = some t) (ht : t.isReference = true) (hw : w.isRef = true) (hd : decode c.code pc = .ok (.areturn, 1)) {fs : List Frame}
    (hl : ∀ (f : JFrame) (acts : List Action), f.method = m → f.locked = none → f.entered = [] → (doReturn e (T.setTop f) acts (some w)).1 = T.setFrames fs) : Steps p.tables e below (T.setTop (mkF m pc Ls (w :: rest))) (T.setFrames fs) :=
  retOut X hx hret (by cases t <;> simp [FieldType.isReference] at ht <;> cases w <;> simp [Value.isRef] at hw <;> rfl) (Or.inr (Or.inr (Or.inr (Or.inr ⟨rfl, ht, hw⟩)))) hd hl
theorem own_stakeep {h' : Heap} {O n d : String} {v : Value} (F : Sta Z h O n d v) (K : Keep h h' []) : Sta Z h' O n d v := by
  obtain ⟨cf, i, k, f, st, cell, h1, h2, h3, h4, h5, r⟩ := F
  exact ⟨cf, i, k, f, st, cell, h1, h2, h3, h4, K.2.1 _ _ h5 nin0, r⟩
end Own

def own_sp (x : Int32) : Int32 := if x = 9 ∨ x = 10 ∨ x = 12 ∨ x = 13 ∨ x = 32 then 1 else 0
theorem d1_0 : decode prog_29_method_13_code 0 = .ok (.iload_n 0, 1) := by decide +kernel
theorem d1_1 : decode prog_29_method_13_code 1 = .ok (.lookupswitch 53 #[(9, 51), (10, 51), (12, 51), (13, 51), (32, 51)], 51) := by decide +kernel
theorem d1_52 : decode prog_29_method_13_code 52 = .ok (.iconst 1, 1) := by decide +kernel
theorem d1_53 : decode prog_29_method_13_code 53 = .ok (.ireturn, 1) := by decide +kernel
theorem d1_54 : decode prog_29_method_13_code 54 = .ok (.iconst 0, 1) := by decide +kernel
theorem d1_55 : decode prog_29_method_13_code 55 = .ok (.ireturn, 1) := by decide +kernel
theorem pn_1 : plainFor (⟨"com/example/argweave/argweave/JavaDialect", "isSpace", "(C)Z"⟩ : MethodName) = true := plainFor_of_name (by first | (simp [plainName, overriddenIn]; done) | decide +kernel)
theorem ef_1 (m : MethodId) (p1 : Int32) : entryFrame m #[(.int p1)] 1 = mkF m 0 #[.val (.int p1)] [] := by first | (simp [entryFrame, mkF, argsToLocals, Value.category]; done) | rfl
set_option maxRecDepth 65536 in
set_option maxHeartbeats 40000000 in
theorem rm1 (l : Launch) (Z : State) (a0 : Array Value) (hw : ∀ d ∈ tables_1, d.before a0 Z = true) (ws : List Jvm.Cond) (p1 : Int32) (h0 : Heap) (n0 : Nat) (Z0 : n0 ≤ h0.size) :
    OwnCtr l Z (⟨"com/example/argweave/argweave/JavaDialect", "isSpace", "(C)Z"⟩ : MethodName) ws prog_29_method_13_code 1 (some .boolean) ({ frames := 0, cells := 0, slots := 0, locals := 0 } : Room) #[(.int p1)] h0 (fun v h L => v = some (.int (own_sp p1)) ∧ Fr n0 L ∧ h = h0) := by
  refine own_body (g0 := fun m => mkF m 0 #[.val (.int p1)] []) pn_1 (fun m => ef_1 m p1) ?_
  intro p e s m below meth c s₁ X0 hx hby hml hown hnm hZ e0 hret hlk
  have hml : c.maxLocals = 1 := hml
  have hown : s.vm.findClass "com/example/argweave/argweave/JavaDialect" = some m.cls := hown
  have hnm : meth.name = "isSpace" := hnm
  have hret : meth.sig.returnType = (some .boolean) := hret
  have N0 := Fr.nil n0
  show OwnFin p e below s _ _ _ (s₁.setTop (mkF m 0 #[.val (.int p1)] []))
  refine own_go (fun t k => XS.iloadN X0.here hx rfl (hb hby d1_0) rfl k) ?_
  show OwnFin p e below s _ _ _ (s₁.setTop (mkF m 1 #[.val (.int p1)] [(.int p1)]))
  by_cases hs1_9 : p1 = (9 : Int32)
  · refine own_go (X0.lookupswitchHit hx (g := (mkF m 1 #[.val (.int p1)] [(.int p1)])) rfl rfl (hb hby d1_1) (by decide) (a := 9) (off := 51) (by rw [hs1_9]; decide) (show (0 : Int) ≤ ((1 : Nat) : Int) + 51 by decide)) ?_
    show OwnFin p e below s _ _ _ (s₁.setTop (mkF m 52 #[.val (.int p1)] []))
    refine own_go (fun t k => XS.iconst X0.here hx rfl (hb hby d1_52) k) ?_
    show OwnFin p e below s _ _ _ (s₁.setTop (mkF m 53 #[.val (.int p1)] [(.int (1 : Int32))]))
    refine own_ret X0 (v := some (.int (1 : Int32))) hlk (fun hh => by rw [hret] at hh; cases hh) (fun fs hr => retN X0 hx (t := .boolean) hret (by simp) (hb hby d1_53) hr) (by decide) (by decide) ?_
    rw [e0]
    exact ⟨by simp [own_sp, hs1_9], N0, rfl⟩
  by_cases hs1_10 : p1 = (10 : Int32)
  · refine own_go (X0.lookupswitchHit hx (g := (mkF m 1 #[.val (.int p1)] [(.int p1)])) rfl rfl (hb hby d1_1) (by decide) (a := 10) (off := 51) (by rw [hs1_10]; decide) (show (0 : Int) ≤ ((1 : Nat) : Int) + 51 by decide)) ?_
    show OwnFin p e below s _ _ _ (s₁.setTop (mkF m 52 #[.val (.int p1)] []))
    refine own_go (fun t k => XS.iconst X0.here hx rfl (hb hby d1_52) k) ?_
    show OwnFin p e below s _ _ _ (s₁.setTop (mkF m 53 #[.val (.int p1)] [(.int (1 : Int32))]))
    refine own_ret X0 (v := some (.int (1 : Int32))) hlk (fun hh => by rw [hret] at hh; cases hh) (fun fs hr => retN X0 hx (t := .boolean) hret (by simp) (hb hby d1_53) hr) (by decide) (by decide) ?_
    rw [e0]
    exact ⟨by simp [own_sp, hs1_9, hs1_10], N0, rfl⟩
  by_cases hs1_12 : p1 = (12 : Int32)
  · refine own_go (X0.lookupswitchHit hx (g := (mkF m 1 #[.val (.int p1)] [(.int p1)])) rfl rfl (hb hby d1_1) (by decide) (a := 12) (off := 51) (by rw [hs1_12]; decide) (show (0 : Int) ≤ ((1 : Nat) : Int) + 51 by decide)) ?_
    show OwnFin p e below s _ _ _ (s₁.setTop (mkF m 52 #[.val (.int p1)] []))
    refine own_go (fun t k => XS.iconst X0.here hx rfl (hb hby d1_52) k) ?_
    show OwnFin p e below s _ _ _ (s₁.setTop (mkF m 53 #[.val (.int p1)] [(.int (1 : Int32))]))
    refine own_ret X0 (v := some (.int (1 : Int32))) hlk (fun hh => by rw [hret] at hh; cases hh) (fun fs hr => retN X0 hx (t := .boolean) hret (by simp) (hb hby d1_53) hr) (by decide) (by decide) ?_
    rw [e0]
    exact ⟨by simp [own_sp, hs1_9, hs1_10, hs1_12], N0, rfl⟩
  by_cases hs1_13 : p1 = (13 : Int32)
  · refine own_go (X0.lookupswitchHit hx (g := (mkF m 1 #[.val (.int p1)] [(.int p1)])) rfl rfl (hb hby d1_1) (by decide) (a := 13) (off := 51) (by rw [hs1_13]; decide) (show (0 : Int) ≤ ((1 : Nat) : Int) + 51 by decide)) ?_
    show OwnFin p e below s _ _ _ (s₁.setTop (mkF m 52 #[.val (.int p1)] []))
    refine own_go (fun t k => XS.iconst X0.here hx rfl (hb hby d1_52) k) ?_
    show OwnFin p e below s _ _ _ (s₁.setTop (mkF m 53 #[.val (.int p1)] [(.int (1 : Int32))]))
    refine own_ret X0 (v := some (.int (1 : Int32))) hlk (fun hh => by rw [hret] at hh; cases hh) (fun fs hr => retN X0 hx (t := .boolean) hret (by simp) (hb hby d1_53) hr) (by decide) (by decide) ?_
    rw [e0]
    exact ⟨by simp [own_sp, hs1_9, hs1_10, hs1_12, hs1_13], N0, rfl⟩
  by_cases hs1_32 : p1 = (32 : Int32)
  · refine own_go (X0.lookupswitchHit hx (g := (mkF m 1 #[.val (.int p1)] [(.int p1)])) rfl rfl (hb hby d1_1) (by decide) (a := 32) (off := 51) (by rw [hs1_32]; decide) (show (0 : Int) ≤ ((1 : Nat) : Int) + 51 by decide)) ?_
    show OwnFin p e below s _ _ _ (s₁.setTop (mkF m 52 #[.val (.int p1)] []))
    refine own_go (fun t k => XS.iconst X0.here hx rfl (hb hby d1_52) k) ?_
    show OwnFin p e below s _ _ _ (s₁.setTop (mkF m 53 #[.val (.int p1)] [(.int (1 : Int32))]))
    refine own_ret X0 (v := some (.int (1 : Int32))) hlk (fun hh => by rw [hret] at hh; cases hh) (fun fs hr => retN X0 hx (t := .boolean) hret (by simp) (hb hby d1_53) hr) (by decide) (by decide) ?_
    rw [e0]
    exact ⟨by simp [own_sp, hs1_9, hs1_10, hs1_12, hs1_13, hs1_32], N0, rfl⟩
  refine own_go (X0.lookupswitchMiss hx (g := (mkF m 1 #[.val (.int p1)] [(.int p1)])) rfl rfl (hb hby d1_1) (by decide) (find_miss (by intro q hq; simp only [List.mem_cons, List.not_mem_nil, or_false] at hq; rcases hq with rfl | rfl | rfl | rfl | rfl <;> (intro hh; first | exact hs1_9 (Int32.toInt_inj.mp hh.symm) | exact hs1_10 (Int32.toInt_inj.mp hh.symm) | exact hs1_12 (Int32.toInt_inj.mp hh.symm) | exact hs1_13 (Int32.toInt_inj.mp hh.symm) | exact hs1_32 (Int32.toInt_inj.mp hh.symm)))) (show (0 : Int) ≤ ((1 : Nat) : Int) + 53 by decide)) ?_
  show OwnFin p e below s _ _ _ (s₁.setTop (mkF m 54 #[.val (.int p1)] []))
  refine own_go (fun t k => XS.iconst X0.here hx rfl (hb hby d1_54) k) ?_
  show OwnFin p e below s _ _ _ (s₁.setTop (mkF m 55 #[.val (.int p1)] [(.int (0 : Int32))]))
  refine own_ret X0 (v := some (.int (0 : Int32))) hlk (fun hh => by rw [hret] at hh; cases hh) (fun fs hr => retN X0 hx (t := .boolean) hret (by simp) (hb hby d1_55) hr) (by decide) (by decide) ?_
  rw [e0]
  exact ⟨by simp [own_sp, hs1_9, hs1_10, hs1_12, hs1_13, hs1_32], N0, rfl⟩
theorem pn_0 : plainFor (⟨"com/example/argweave/argweave/JavaDialectIsSpacePinLaw", "law", "(I)Z"⟩ : MethodName) = true := plainFor_of_name (by first | (simp [plainName, overriddenIn]; done) | decide +kernel)
theorem pd_0_0 : parseMethodDescriptor "(C)Z" = some ⟨[.char], some .boolean⟩ := by decide +kernel
theorem ef_0 (m : MethodId) (p1 : Int32) : entryFrame m #[(.int p1)] maxLocals = mkF m 0 #[.val (.int p1), .unset, .unset] [] := by first | (simp [entryFrame, mkF, argsToLocals, Value.category, maxLocals]; done) | rfl
set_option maxRecDepth 65536 in
set_option maxHeartbeats 40000000 in
theorem rm0 (l : Launch) (Z : State) (a0 : Array Value) (hw : ∀ d ∈ tables_1, d.before a0 Z = true) (ws : List Jvm.Cond) (p1 : Int32) (h0 : Heap) (n0 : Nat) (Z0 : n0 ≤ h0.size) :
    OwnCtr l Z x ws code maxLocals ret room_1 #[(.int p1)] h0 (fun v h L => v = some (.int 1) ∧ Fr n0 L) := by
  refine own_body (g0 := fun m => mkF m 0 #[.val (.int p1), .unset, .unset] []) pn_0 (fun m => ef_0 m p1) ?_
  intro p e s m below meth c s₁ X0 hx hby hml hown hnm hZ e0 hret hlk
  have hml : c.maxLocals = 3 := hml
  have hown : s.vm.findClass "com/example/argweave/argweave/JavaDialectIsSpacePinLaw" = some m.cls := hown
  have hnm : meth.name = "law" := hnm
  have hret : meth.sig.returnType = (some .boolean) := hret
  have N0 := Fr.nil n0
  show OwnFin p e below s _ _ _ (s₁.setTop (mkF m 0 #[.val (.int p1), .unset, .unset] []))
  refine own_go (fun t k => XS.iloadN X0.here hx rfl (hb hby at_0) rfl k) ?_
  show OwnFin p e below s _ _ _ (s₁.setTop (mkF m 1 #[.val (.int p1), .unset, .unset] [(.int p1)]))
  refine own_go (fun t k => XS.i2c X0.here hx rfl (hb hby at_1) rfl k) ?_
  show OwnFin p e below s _ _ _ (s₁.setTop (mkF m 2 #[.val (.int p1), .unset, .unset] [(.int (p1.toUInt32.toUInt16.toUInt32.toInt32))]))
  refine own_go (fun t k => XS.istoreN X0.here hx rfl (hb hby at_2) rfl (l' := #[.val (.int p1), .val (.int (p1.toUInt32.toUInt16.toUInt32.toInt32)), .unset]) rfl k) ?_
  show OwnFin p e below s _ _ _ (s₁.setTop (mkF m 3 #[.val (.int p1), .val (.int (p1.toUInt32.toUInt16.toUInt32.toInt32)), .unset] []))
  generalize h_c1 : (p1.toUInt32.toUInt16.toUInt32.toInt32) = c1
  refine own_go (fun t k => XS.iloadN X0.here hx rfl (hb hby at_3) rfl k) ?_
  show OwnFin p e below s _ _ _ (s₁.setTop (mkF m 4 #[.val (.int p1), .val (.int c1), .unset] [(.int c1)]))
  refine own_go (fun t k => XS.bipush X0.here hx rfl (hb hby at_4) k) ?_
  show OwnFin p e below s _ _ _ (s₁.setTop (mkF m 6 #[.val (.int p1), .val (.int c1), .unset] [(.int (32 : Int32)), (.int c1)]))
  by_cases hc6 : c1 = (32 : Int32)
  · refine own_go (fun t k => XS.icmpYes X0.here hx rfl (pc0 := 6) (pc' := 33) rfl (hb hby at_6) rfl (teq hc6).1 (by decide) (by decide) k) ?_
    show OwnFin p e below s _ _ _ (s₁.setTop (mkF m 33 #[.val (.int p1), .val (.int c1), .unset] []))
    refine own_go (fun t k => XS.iconst X0.here hx rfl (hb hby at_33) k) ?_
    show OwnFin p e below s _ _ _ (s₁.setTop (mkF m 34 #[.val (.int p1), .val (.int c1), .unset] [(.int (1 : Int32))]))
    refine own_go (fun t k => XS.goto X0.here hx rfl (pc0 := 34) (pc' := 38) rfl (hb hby at_34) (by decide) (by decide) k) ?_
    show OwnFin p e below s _ _ _ (s₁.setTop (mkF m 38 #[.val (.int p1), .val (.int c1), .unset] [(.int (1 : Int32))]))
    refine own_go (fun t k => XS.istoreN X0.here hx rfl (hb hby at_38) rfl (l' := #[.val (.int p1), .val (.int c1), .val (.int (1 : Int32))]) rfl k) ?_
    show OwnFin p e below s _ _ _ (s₁.setTop (mkF m 39 #[.val (.int p1), .val (.int c1), .val (.int (1 : Int32))] []))
    refine own_go (fun t k => XS.iloadN X0.here hx rfl (hb hby at_39) rfl k) ?_
    show OwnFin p e below s _ _ _ (s₁.setTop (mkF m 40 #[.val (.int p1), .val (.int c1), .val (.int (1 : Int32))] [(.int c1)]))
    obtain ⟨v1, T1, L1, X1, hQ1, st1⟩ := own_callS X0 hx hZ (y := (⟨"com/example/argweave/argweave/JavaDialect", "isSpace", "(C)Z"⟩ : MethodName)) hown (hw _ (List.mem_of_getElem? (i := 0) rfl)) (hw _ (List.mem_of_getElem? (i := 1) rfl)) (hw _ (List.mem_of_getElem? (i := 2) rfl)) (hw _ (List.mem_of_getElem? (i := 3) rfl)) (by decide) (W := 0) (rm1 l Z a0 hw [] c1 h0 n0 Z0) (by decide) (by decide) (g := (mkF m 40 #[.val (.int p1), .val (.int c1), .val (.int (1 : Int32))] [(.int c1)])) rfl (by rw [hml]; rfl) (argsL := [(.int c1)]) (rest := []) (lenOf pd_0_0 rfl) rfl (by show 2 * 0 + _ ≤ _; exact Nat.le_of_eq rfl) (hb hby at_40) e0 rfl (by decide) (by decide)
    obtain ⟨rfl, Nq1, e1⟩ := hQ1
    have N1 := Fr.app N0 Nq1
    refine own_go st1 ?_
    show OwnFin p e below s _ _ _ (T1.setTop (mkF m 43 #[.val (.int p1), .val (.int c1), .val (.int (1 : Int32))] [(.int (own_sp c1))]))
    refine own_go (fun t k => XS.iloadN X1.here hx rfl (hb hby at_43) rfl k) ?_
    show OwnFin p e below s _ _ _ (T1.setTop (mkF m 44 #[.val (.int p1), .val (.int c1), .val (.int (1 : Int32))] [(.int (1 : Int32)), (.int (own_sp c1))]))
    by_cases hc44 : (own_sp c1) = (1 : Int32)
    · refine own_go (fun t k => XS.icmpNo X1.here hx rfl (hb hby at_44) rfl (teq hc44).2 k) ?_
      show OwnFin p e below s _ _ _ (T1.setTop (mkF m 47 #[.val (.int p1), .val (.int c1), .val (.int (1 : Int32))] []))
      refine own_go (fun t k => XS.iconst X1.here hx rfl (hb hby at_47) k) ?_
      show OwnFin p e below s _ _ _ (T1.setTop (mkF m 48 #[.val (.int p1), .val (.int c1), .val (.int (1 : Int32))] [(.int (1 : Int32))]))
      refine own_go (fun t k => XS.goto X1.here hx rfl (pc0 := 48) (pc' := 52) rfl (hb hby at_48) (by decide) (by decide) k) ?_
      show OwnFin p e below s _ _ _ (T1.setTop (mkF m 52 #[.val (.int p1), .val (.int c1), .val (.int (1 : Int32))] [(.int (1 : Int32))]))
      refine own_ret X1 (v := some (.int (1 : Int32))) hlk (fun hh => by rw [hret] at hh; cases hh) (fun fs hr => retN X1 hx (t := .boolean) hret (by simp) (hb hby at_52) hr) (by decide) (by decide) ?_
      exact ⟨rfl, N1⟩
    · refine own_go (fun t k => XS.icmpYes X1.here hx rfl (pc0 := 44) (pc' := 51) rfl (hb hby at_44) rfl (feq hc44).2 (by decide) (by decide) k) ?_
      show OwnFin p e below s _ _ _ (T1.setTop (mkF m 51 #[.val (.int p1), .val (.int c1), .val (.int (1 : Int32))] []))
      refine own_go (fun t k => XS.iconst X1.here hx rfl (hb hby at_51) k) ?_
      show OwnFin p e below s _ _ _ (T1.setTop (mkF m 52 #[.val (.int p1), .val (.int c1), .val (.int (1 : Int32))] [(.int (0 : Int32))]))
      exact absurd (show own_sp c1 = _ by simp [own_sp, hc6]) hc44
  · refine own_go (fun t k => XS.icmpNo X0.here hx rfl (hb hby at_6) rfl (feq hc6).1 k) ?_
    show OwnFin p e below s _ _ _ (s₁.setTop (mkF m 9 #[.val (.int p1), .val (.int c1), .unset] []))
    refine own_go (fun t k => XS.iloadN X0.here hx rfl (hb hby at_9) rfl k) ?_
    show OwnFin p e below s _ _ _ (s₁.setTop (mkF m 10 #[.val (.int p1), .val (.int c1), .unset] [(.int c1)]))
    refine own_go (fun t k => XS.bipush X0.here hx rfl (hb hby at_10) k) ?_
    show OwnFin p e below s _ _ _ (s₁.setTop (mkF m 12 #[.val (.int p1), .val (.int c1), .unset] [(.int (9 : Int32)), (.int c1)]))
    by_cases hc12 : c1 = (9 : Int32)
    · refine own_go (fun t k => XS.icmpYes X0.here hx rfl (pc0 := 12) (pc' := 33) rfl (hb hby at_12) rfl (teq hc12).1 (by decide) (by decide) k) ?_
      show OwnFin p e below s _ _ _ (s₁.setTop (mkF m 33 #[.val (.int p1), .val (.int c1), .unset] []))
      refine own_go (fun t k => XS.iconst X0.here hx rfl (hb hby at_33) k) ?_
      show OwnFin p e below s _ _ _ (s₁.setTop (mkF m 34 #[.val (.int p1), .val (.int c1), .unset] [(.int (1 : Int32))]))
      refine own_go (fun t k => XS.goto X0.here hx rfl (pc0 := 34) (pc' := 38) rfl (hb hby at_34) (by decide) (by decide) k) ?_
      show OwnFin p e below s _ _ _ (s₁.setTop (mkF m 38 #[.val (.int p1), .val (.int c1), .unset] [(.int (1 : Int32))]))
      refine own_go (fun t k => XS.istoreN X0.here hx rfl (hb hby at_38) rfl (l' := #[.val (.int p1), .val (.int c1), .val (.int (1 : Int32))]) rfl k) ?_
      show OwnFin p e below s _ _ _ (s₁.setTop (mkF m 39 #[.val (.int p1), .val (.int c1), .val (.int (1 : Int32))] []))
      refine own_go (fun t k => XS.iloadN X0.here hx rfl (hb hby at_39) rfl k) ?_
      show OwnFin p e below s _ _ _ (s₁.setTop (mkF m 40 #[.val (.int p1), .val (.int c1), .val (.int (1 : Int32))] [(.int c1)]))
      obtain ⟨v2, T2, L2, X2, hQ2, st2⟩ := own_callS X0 hx hZ (y := (⟨"com/example/argweave/argweave/JavaDialect", "isSpace", "(C)Z"⟩ : MethodName)) hown (hw _ (List.mem_of_getElem? (i := 0) rfl)) (hw _ (List.mem_of_getElem? (i := 1) rfl)) (hw _ (List.mem_of_getElem? (i := 2) rfl)) (hw _ (List.mem_of_getElem? (i := 3) rfl)) (by decide) (W := 0) (rm1 l Z a0 hw [] c1 h0 n0 Z0) (by decide) (by decide) (g := (mkF m 40 #[.val (.int p1), .val (.int c1), .val (.int (1 : Int32))] [(.int c1)])) rfl (by rw [hml]; rfl) (argsL := [(.int c1)]) (rest := []) (lenOf pd_0_0 rfl) rfl (by show 2 * 0 + _ ≤ _; exact Nat.le_of_eq rfl) (hb hby at_40) e0 rfl (by decide) (by decide)
      obtain ⟨rfl, Nq2, e2⟩ := hQ2
      have N2 := Fr.app N0 Nq2
      refine own_go st2 ?_
      show OwnFin p e below s _ _ _ (T2.setTop (mkF m 43 #[.val (.int p1), .val (.int c1), .val (.int (1 : Int32))] [(.int (own_sp c1))]))
      refine own_go (fun t k => XS.iloadN X2.here hx rfl (hb hby at_43) rfl k) ?_
      show OwnFin p e below s _ _ _ (T2.setTop (mkF m 44 #[.val (.int p1), .val (.int c1), .val (.int (1 : Int32))] [(.int (1 : Int32)), (.int (own_sp c1))]))
      by_cases hc44 : (own_sp c1) = (1 : Int32)
      · refine own_go (fun t k => XS.icmpNo X2.here hx rfl (hb hby at_44) rfl (teq hc44).2 k) ?_
        show OwnFin p e below s _ _ _ (T2.setTop (mkF m 47 #[.val (.int p1), .val (.int c1), .val (.int (1 : Int32))] []))
        refine own_go (fun t k => XS.iconst X2.here hx rfl (hb hby at_47) k) ?_
        show OwnFin p e below s _ _ _ (T2.setTop (mkF m 48 #[.val (.int p1), .val (.int c1), .val (.int (1 : Int32))] [(.int (1 : Int32))]))
        refine own_go (fun t k => XS.goto X2.here hx rfl (pc0 := 48) (pc' := 52) rfl (hb hby at_48) (by decide) (by decide) k) ?_
        show OwnFin p e below s _ _ _ (T2.setTop (mkF m 52 #[.val (.int p1), .val (.int c1), .val (.int (1 : Int32))] [(.int (1 : Int32))]))
        refine own_ret X2 (v := some (.int (1 : Int32))) hlk (fun hh => by rw [hret] at hh; cases hh) (fun fs hr => retN X2 hx (t := .boolean) hret (by simp) (hb hby at_52) hr) (by decide) (by decide) ?_
        exact ⟨rfl, N2⟩
      · refine own_go (fun t k => XS.icmpYes X2.here hx rfl (pc0 := 44) (pc' := 51) rfl (hb hby at_44) rfl (feq hc44).2 (by decide) (by decide) k) ?_
        show OwnFin p e below s _ _ _ (T2.setTop (mkF m 51 #[.val (.int p1), .val (.int c1), .val (.int (1 : Int32))] []))
        refine own_go (fun t k => XS.iconst X2.here hx rfl (hb hby at_51) k) ?_
        show OwnFin p e below s _ _ _ (T2.setTop (mkF m 52 #[.val (.int p1), .val (.int c1), .val (.int (1 : Int32))] [(.int (0 : Int32))]))
        exact absurd (show own_sp c1 = _ by simp [own_sp, hc6, hc12]) hc44
    · refine own_go (fun t k => XS.icmpNo X0.here hx rfl (hb hby at_12) rfl (feq hc12).1 k) ?_
      show OwnFin p e below s _ _ _ (s₁.setTop (mkF m 15 #[.val (.int p1), .val (.int c1), .unset] []))
      refine own_go (fun t k => XS.iloadN X0.here hx rfl (hb hby at_15) rfl k) ?_
      show OwnFin p e below s _ _ _ (s₁.setTop (mkF m 16 #[.val (.int p1), .val (.int c1), .unset] [(.int c1)]))
      refine own_go (fun t k => XS.bipush X0.here hx rfl (hb hby at_16) k) ?_
      show OwnFin p e below s _ _ _ (s₁.setTop (mkF m 18 #[.val (.int p1), .val (.int c1), .unset] [(.int (10 : Int32)), (.int c1)]))
      by_cases hc18 : c1 = (10 : Int32)
      · refine own_go (fun t k => XS.icmpYes X0.here hx rfl (pc0 := 18) (pc' := 33) rfl (hb hby at_18) rfl (teq hc18).1 (by decide) (by decide) k) ?_
        show OwnFin p e below s _ _ _ (s₁.setTop (mkF m 33 #[.val (.int p1), .val (.int c1), .unset] []))
        refine own_go (fun t k => XS.iconst X0.here hx rfl (hb hby at_33) k) ?_
        show OwnFin p e below s _ _ _ (s₁.setTop (mkF m 34 #[.val (.int p1), .val (.int c1), .unset] [(.int (1 : Int32))]))
        refine own_go (fun t k => XS.goto X0.here hx rfl (pc0 := 34) (pc' := 38) rfl (hb hby at_34) (by decide) (by decide) k) ?_
        show OwnFin p e below s _ _ _ (s₁.setTop (mkF m 38 #[.val (.int p1), .val (.int c1), .unset] [(.int (1 : Int32))]))
        refine own_go (fun t k => XS.istoreN X0.here hx rfl (hb hby at_38) rfl (l' := #[.val (.int p1), .val (.int c1), .val (.int (1 : Int32))]) rfl k) ?_
        show OwnFin p e below s _ _ _ (s₁.setTop (mkF m 39 #[.val (.int p1), .val (.int c1), .val (.int (1 : Int32))] []))
        refine own_go (fun t k => XS.iloadN X0.here hx rfl (hb hby at_39) rfl k) ?_
        show OwnFin p e below s _ _ _ (s₁.setTop (mkF m 40 #[.val (.int p1), .val (.int c1), .val (.int (1 : Int32))] [(.int c1)]))
        obtain ⟨v3, T3, L3, X3, hQ3, st3⟩ := own_callS X0 hx hZ (y := (⟨"com/example/argweave/argweave/JavaDialect", "isSpace", "(C)Z"⟩ : MethodName)) hown (hw _ (List.mem_of_getElem? (i := 0) rfl)) (hw _ (List.mem_of_getElem? (i := 1) rfl)) (hw _ (List.mem_of_getElem? (i := 2) rfl)) (hw _ (List.mem_of_getElem? (i := 3) rfl)) (by decide) (W := 0) (rm1 l Z a0 hw [] c1 h0 n0 Z0) (by decide) (by decide) (g := (mkF m 40 #[.val (.int p1), .val (.int c1), .val (.int (1 : Int32))] [(.int c1)])) rfl (by rw [hml]; rfl) (argsL := [(.int c1)]) (rest := []) (lenOf pd_0_0 rfl) rfl (by show 2 * 0 + _ ≤ _; exact Nat.le_of_eq rfl) (hb hby at_40) e0 rfl (by decide) (by decide)
        obtain ⟨rfl, Nq3, e3⟩ := hQ3
        have N3 := Fr.app N0 Nq3
        refine own_go st3 ?_
        show OwnFin p e below s _ _ _ (T3.setTop (mkF m 43 #[.val (.int p1), .val (.int c1), .val (.int (1 : Int32))] [(.int (own_sp c1))]))
        refine own_go (fun t k => XS.iloadN X3.here hx rfl (hb hby at_43) rfl k) ?_
        show OwnFin p e below s _ _ _ (T3.setTop (mkF m 44 #[.val (.int p1), .val (.int c1), .val (.int (1 : Int32))] [(.int (1 : Int32)), (.int (own_sp c1))]))
        by_cases hc44 : (own_sp c1) = (1 : Int32)
        · refine own_go (fun t k => XS.icmpNo X3.here hx rfl (hb hby at_44) rfl (teq hc44).2 k) ?_
          show OwnFin p e below s _ _ _ (T3.setTop (mkF m 47 #[.val (.int p1), .val (.int c1), .val (.int (1 : Int32))] []))
          refine own_go (fun t k => XS.iconst X3.here hx rfl (hb hby at_47) k) ?_
          show OwnFin p e below s _ _ _ (T3.setTop (mkF m 48 #[.val (.int p1), .val (.int c1), .val (.int (1 : Int32))] [(.int (1 : Int32))]))
          refine own_go (fun t k => XS.goto X3.here hx rfl (pc0 := 48) (pc' := 52) rfl (hb hby at_48) (by decide) (by decide) k) ?_
          show OwnFin p e below s _ _ _ (T3.setTop (mkF m 52 #[.val (.int p1), .val (.int c1), .val (.int (1 : Int32))] [(.int (1 : Int32))]))
          refine own_ret X3 (v := some (.int (1 : Int32))) hlk (fun hh => by rw [hret] at hh; cases hh) (fun fs hr => retN X3 hx (t := .boolean) hret (by simp) (hb hby at_52) hr) (by decide) (by decide) ?_
          exact ⟨rfl, N3⟩
        · refine own_go (fun t k => XS.icmpYes X3.here hx rfl (pc0 := 44) (pc' := 51) rfl (hb hby at_44) rfl (feq hc44).2 (by decide) (by decide) k) ?_
          show OwnFin p e below s _ _ _ (T3.setTop (mkF m 51 #[.val (.int p1), .val (.int c1), .val (.int (1 : Int32))] []))
          refine own_go (fun t k => XS.iconst X3.here hx rfl (hb hby at_51) k) ?_
          show OwnFin p e below s _ _ _ (T3.setTop (mkF m 52 #[.val (.int p1), .val (.int c1), .val (.int (1 : Int32))] [(.int (0 : Int32))]))
          exact absurd (show own_sp c1 = _ by simp [own_sp, hc6, hc12, hc18]) hc44
      · refine own_go (fun t k => XS.icmpNo X0.here hx rfl (hb hby at_18) rfl (feq hc18).1 k) ?_
        show OwnFin p e below s _ _ _ (s₁.setTop (mkF m 21 #[.val (.int p1), .val (.int c1), .unset] []))
        refine own_go (fun t k => XS.iloadN X0.here hx rfl (hb hby at_21) rfl k) ?_
        show OwnFin p e below s _ _ _ (s₁.setTop (mkF m 22 #[.val (.int p1), .val (.int c1), .unset] [(.int c1)]))
        refine own_go (fun t k => XS.bipush X0.here hx rfl (hb hby at_22) k) ?_
        show OwnFin p e below s _ _ _ (s₁.setTop (mkF m 24 #[.val (.int p1), .val (.int c1), .unset] [(.int (13 : Int32)), (.int c1)]))
        by_cases hc24 : c1 = (13 : Int32)
        · refine own_go (fun t k => XS.icmpYes X0.here hx rfl (pc0 := 24) (pc' := 33) rfl (hb hby at_24) rfl (teq hc24).1 (by decide) (by decide) k) ?_
          show OwnFin p e below s _ _ _ (s₁.setTop (mkF m 33 #[.val (.int p1), .val (.int c1), .unset] []))
          refine own_go (fun t k => XS.iconst X0.here hx rfl (hb hby at_33) k) ?_
          show OwnFin p e below s _ _ _ (s₁.setTop (mkF m 34 #[.val (.int p1), .val (.int c1), .unset] [(.int (1 : Int32))]))
          refine own_go (fun t k => XS.goto X0.here hx rfl (pc0 := 34) (pc' := 38) rfl (hb hby at_34) (by decide) (by decide) k) ?_
          show OwnFin p e below s _ _ _ (s₁.setTop (mkF m 38 #[.val (.int p1), .val (.int c1), .unset] [(.int (1 : Int32))]))
          refine own_go (fun t k => XS.istoreN X0.here hx rfl (hb hby at_38) rfl (l' := #[.val (.int p1), .val (.int c1), .val (.int (1 : Int32))]) rfl k) ?_
          show OwnFin p e below s _ _ _ (s₁.setTop (mkF m 39 #[.val (.int p1), .val (.int c1), .val (.int (1 : Int32))] []))
          refine own_go (fun t k => XS.iloadN X0.here hx rfl (hb hby at_39) rfl k) ?_
          show OwnFin p e below s _ _ _ (s₁.setTop (mkF m 40 #[.val (.int p1), .val (.int c1), .val (.int (1 : Int32))] [(.int c1)]))
          obtain ⟨v4, T4, L4, X4, hQ4, st4⟩ := own_callS X0 hx hZ (y := (⟨"com/example/argweave/argweave/JavaDialect", "isSpace", "(C)Z"⟩ : MethodName)) hown (hw _ (List.mem_of_getElem? (i := 0) rfl)) (hw _ (List.mem_of_getElem? (i := 1) rfl)) (hw _ (List.mem_of_getElem? (i := 2) rfl)) (hw _ (List.mem_of_getElem? (i := 3) rfl)) (by decide) (W := 0) (rm1 l Z a0 hw [] c1 h0 n0 Z0) (by decide) (by decide) (g := (mkF m 40 #[.val (.int p1), .val (.int c1), .val (.int (1 : Int32))] [(.int c1)])) rfl (by rw [hml]; rfl) (argsL := [(.int c1)]) (rest := []) (lenOf pd_0_0 rfl) rfl (by show 2 * 0 + _ ≤ _; exact Nat.le_of_eq rfl) (hb hby at_40) e0 rfl (by decide) (by decide)
          obtain ⟨rfl, Nq4, e4⟩ := hQ4
          have N4 := Fr.app N0 Nq4
          refine own_go st4 ?_
          show OwnFin p e below s _ _ _ (T4.setTop (mkF m 43 #[.val (.int p1), .val (.int c1), .val (.int (1 : Int32))] [(.int (own_sp c1))]))
          refine own_go (fun t k => XS.iloadN X4.here hx rfl (hb hby at_43) rfl k) ?_
          show OwnFin p e below s _ _ _ (T4.setTop (mkF m 44 #[.val (.int p1), .val (.int c1), .val (.int (1 : Int32))] [(.int (1 : Int32)), (.int (own_sp c1))]))
          by_cases hc44 : (own_sp c1) = (1 : Int32)
          · refine own_go (fun t k => XS.icmpNo X4.here hx rfl (hb hby at_44) rfl (teq hc44).2 k) ?_
            show OwnFin p e below s _ _ _ (T4.setTop (mkF m 47 #[.val (.int p1), .val (.int c1), .val (.int (1 : Int32))] []))
            refine own_go (fun t k => XS.iconst X4.here hx rfl (hb hby at_47) k) ?_
            show OwnFin p e below s _ _ _ (T4.setTop (mkF m 48 #[.val (.int p1), .val (.int c1), .val (.int (1 : Int32))] [(.int (1 : Int32))]))
            refine own_go (fun t k => XS.goto X4.here hx rfl (pc0 := 48) (pc' := 52) rfl (hb hby at_48) (by decide) (by decide) k) ?_
            show OwnFin p e below s _ _ _ (T4.setTop (mkF m 52 #[.val (.int p1), .val (.int c1), .val (.int (1 : Int32))] [(.int (1 : Int32))]))
            refine own_ret X4 (v := some (.int (1 : Int32))) hlk (fun hh => by rw [hret] at hh; cases hh) (fun fs hr => retN X4 hx (t := .boolean) hret (by simp) (hb hby at_52) hr) (by decide) (by decide) ?_
            exact ⟨rfl, N4⟩
          · refine own_go (fun t k => XS.icmpYes X4.here hx rfl (pc0 := 44) (pc' := 51) rfl (hb hby at_44) rfl (feq hc44).2 (by decide) (by decide) k) ?_
            show OwnFin p e below s _ _ _ (T4.setTop (mkF m 51 #[.val (.int p1), .val (.int c1), .val (.int (1 : Int32))] []))
            refine own_go (fun t k => XS.iconst X4.here hx rfl (hb hby at_51) k) ?_
            show OwnFin p e below s _ _ _ (T4.setTop (mkF m 52 #[.val (.int p1), .val (.int c1), .val (.int (1 : Int32))] [(.int (0 : Int32))]))
            exact absurd (show own_sp c1 = _ by simp [own_sp, hc6, hc12, hc18, hc24]) hc44
        · refine own_go (fun t k => XS.icmpNo X0.here hx rfl (hb hby at_24) rfl (feq hc24).1 k) ?_
          show OwnFin p e below s _ _ _ (s₁.setTop (mkF m 27 #[.val (.int p1), .val (.int c1), .unset] []))
          refine own_go (fun t k => XS.iloadN X0.here hx rfl (hb hby at_27) rfl k) ?_
          show OwnFin p e below s _ _ _ (s₁.setTop (mkF m 28 #[.val (.int p1), .val (.int c1), .unset] [(.int c1)]))
          refine own_go (fun t k => XS.bipush X0.here hx rfl (hb hby at_28) k) ?_
          show OwnFin p e below s _ _ _ (s₁.setTop (mkF m 30 #[.val (.int p1), .val (.int c1), .unset] [(.int (12 : Int32)), (.int c1)]))
          by_cases hc30 : c1 = (12 : Int32)
          · refine own_go (fun t k => XS.icmpNo X0.here hx rfl (hb hby at_30) rfl (teq hc30).2 k) ?_
            show OwnFin p e below s _ _ _ (s₁.setTop (mkF m 33 #[.val (.int p1), .val (.int c1), .unset] []))
            refine own_go (fun t k => XS.iconst X0.here hx rfl (hb hby at_33) k) ?_
            show OwnFin p e below s _ _ _ (s₁.setTop (mkF m 34 #[.val (.int p1), .val (.int c1), .unset] [(.int (1 : Int32))]))
            refine own_go (fun t k => XS.goto X0.here hx rfl (pc0 := 34) (pc' := 38) rfl (hb hby at_34) (by decide) (by decide) k) ?_
            show OwnFin p e below s _ _ _ (s₁.setTop (mkF m 38 #[.val (.int p1), .val (.int c1), .unset] [(.int (1 : Int32))]))
            refine own_go (fun t k => XS.istoreN X0.here hx rfl (hb hby at_38) rfl (l' := #[.val (.int p1), .val (.int c1), .val (.int (1 : Int32))]) rfl k) ?_
            show OwnFin p e below s _ _ _ (s₁.setTop (mkF m 39 #[.val (.int p1), .val (.int c1), .val (.int (1 : Int32))] []))
            refine own_go (fun t k => XS.iloadN X0.here hx rfl (hb hby at_39) rfl k) ?_
            show OwnFin p e below s _ _ _ (s₁.setTop (mkF m 40 #[.val (.int p1), .val (.int c1), .val (.int (1 : Int32))] [(.int c1)]))
            obtain ⟨v5, T5, L5, X5, hQ5, st5⟩ := own_callS X0 hx hZ (y := (⟨"com/example/argweave/argweave/JavaDialect", "isSpace", "(C)Z"⟩ : MethodName)) hown (hw _ (List.mem_of_getElem? (i := 0) rfl)) (hw _ (List.mem_of_getElem? (i := 1) rfl)) (hw _ (List.mem_of_getElem? (i := 2) rfl)) (hw _ (List.mem_of_getElem? (i := 3) rfl)) (by decide) (W := 0) (rm1 l Z a0 hw [] c1 h0 n0 Z0) (by decide) (by decide) (g := (mkF m 40 #[.val (.int p1), .val (.int c1), .val (.int (1 : Int32))] [(.int c1)])) rfl (by rw [hml]; rfl) (argsL := [(.int c1)]) (rest := []) (lenOf pd_0_0 rfl) rfl (by show 2 * 0 + _ ≤ _; exact Nat.le_of_eq rfl) (hb hby at_40) e0 rfl (by decide) (by decide)
            obtain ⟨rfl, Nq5, e5⟩ := hQ5
            have N5 := Fr.app N0 Nq5
            refine own_go st5 ?_
            show OwnFin p e below s _ _ _ (T5.setTop (mkF m 43 #[.val (.int p1), .val (.int c1), .val (.int (1 : Int32))] [(.int (own_sp c1))]))
            refine own_go (fun t k => XS.iloadN X5.here hx rfl (hb hby at_43) rfl k) ?_
            show OwnFin p e below s _ _ _ (T5.setTop (mkF m 44 #[.val (.int p1), .val (.int c1), .val (.int (1 : Int32))] [(.int (1 : Int32)), (.int (own_sp c1))]))
            by_cases hc44 : (own_sp c1) = (1 : Int32)
            · refine own_go (fun t k => XS.icmpNo X5.here hx rfl (hb hby at_44) rfl (teq hc44).2 k) ?_
              show OwnFin p e below s _ _ _ (T5.setTop (mkF m 47 #[.val (.int p1), .val (.int c1), .val (.int (1 : Int32))] []))
              refine own_go (fun t k => XS.iconst X5.here hx rfl (hb hby at_47) k) ?_
              show OwnFin p e below s _ _ _ (T5.setTop (mkF m 48 #[.val (.int p1), .val (.int c1), .val (.int (1 : Int32))] [(.int (1 : Int32))]))
              refine own_go (fun t k => XS.goto X5.here hx rfl (pc0 := 48) (pc' := 52) rfl (hb hby at_48) (by decide) (by decide) k) ?_
              show OwnFin p e below s _ _ _ (T5.setTop (mkF m 52 #[.val (.int p1), .val (.int c1), .val (.int (1 : Int32))] [(.int (1 : Int32))]))
              refine own_ret X5 (v := some (.int (1 : Int32))) hlk (fun hh => by rw [hret] at hh; cases hh) (fun fs hr => retN X5 hx (t := .boolean) hret (by simp) (hb hby at_52) hr) (by decide) (by decide) ?_
              exact ⟨rfl, N5⟩
            · refine own_go (fun t k => XS.icmpYes X5.here hx rfl (pc0 := 44) (pc' := 51) rfl (hb hby at_44) rfl (feq hc44).2 (by decide) (by decide) k) ?_
              show OwnFin p e below s _ _ _ (T5.setTop (mkF m 51 #[.val (.int p1), .val (.int c1), .val (.int (1 : Int32))] []))
              refine own_go (fun t k => XS.iconst X5.here hx rfl (hb hby at_51) k) ?_
              show OwnFin p e below s _ _ _ (T5.setTop (mkF m 52 #[.val (.int p1), .val (.int c1), .val (.int (1 : Int32))] [(.int (0 : Int32))]))
              exact absurd (show own_sp c1 = _ by simp [own_sp, hc6, hc12, hc18, hc24, hc30]) hc44
          · refine own_go (fun t k => XS.icmpYes X0.here hx rfl (pc0 := 30) (pc' := 37) rfl (hb hby at_30) rfl (feq hc30).2 (by decide) (by decide) k) ?_
            show OwnFin p e below s _ _ _ (s₁.setTop (mkF m 37 #[.val (.int p1), .val (.int c1), .unset] []))
            refine own_go (fun t k => XS.iconst X0.here hx rfl (hb hby at_37) k) ?_
            show OwnFin p e below s _ _ _ (s₁.setTop (mkF m 38 #[.val (.int p1), .val (.int c1), .unset] [(.int (0 : Int32))]))
            refine own_go (fun t k => XS.istoreN X0.here hx rfl (hb hby at_38) rfl (l' := #[.val (.int p1), .val (.int c1), .val (.int (0 : Int32))]) rfl k) ?_
            show OwnFin p e below s _ _ _ (s₁.setTop (mkF m 39 #[.val (.int p1), .val (.int c1), .val (.int (0 : Int32))] []))
            refine own_go (fun t k => XS.iloadN X0.here hx rfl (hb hby at_39) rfl k) ?_
            show OwnFin p e below s _ _ _ (s₁.setTop (mkF m 40 #[.val (.int p1), .val (.int c1), .val (.int (0 : Int32))] [(.int c1)]))
            obtain ⟨v6, T6, L6, X6, hQ6, st6⟩ := own_callS X0 hx hZ (y := (⟨"com/example/argweave/argweave/JavaDialect", "isSpace", "(C)Z"⟩ : MethodName)) hown (hw _ (List.mem_of_getElem? (i := 0) rfl)) (hw _ (List.mem_of_getElem? (i := 1) rfl)) (hw _ (List.mem_of_getElem? (i := 2) rfl)) (hw _ (List.mem_of_getElem? (i := 3) rfl)) (by decide) (W := 0) (rm1 l Z a0 hw [] c1 h0 n0 Z0) (by decide) (by decide) (g := (mkF m 40 #[.val (.int p1), .val (.int c1), .val (.int (0 : Int32))] [(.int c1)])) rfl (by rw [hml]; rfl) (argsL := [(.int c1)]) (rest := []) (lenOf pd_0_0 rfl) rfl (by show 2 * 0 + _ ≤ _; exact Nat.le_of_eq rfl) (hb hby at_40) e0 rfl (by decide) (by decide)
            obtain ⟨rfl, Nq6, e6⟩ := hQ6
            have N6 := Fr.app N0 Nq6
            refine own_go st6 ?_
            show OwnFin p e below s _ _ _ (T6.setTop (mkF m 43 #[.val (.int p1), .val (.int c1), .val (.int (0 : Int32))] [(.int (own_sp c1))]))
            refine own_go (fun t k => XS.iloadN X6.here hx rfl (hb hby at_43) rfl k) ?_
            show OwnFin p e below s _ _ _ (T6.setTop (mkF m 44 #[.val (.int p1), .val (.int c1), .val (.int (0 : Int32))] [(.int (0 : Int32)), (.int (own_sp c1))]))
            by_cases hc44 : (own_sp c1) = (0 : Int32)
            · refine own_go (fun t k => XS.icmpNo X6.here hx rfl (hb hby at_44) rfl (teq hc44).2 k) ?_
              show OwnFin p e below s _ _ _ (T6.setTop (mkF m 47 #[.val (.int p1), .val (.int c1), .val (.int (0 : Int32))] []))
              refine own_go (fun t k => XS.iconst X6.here hx rfl (hb hby at_47) k) ?_
              show OwnFin p e below s _ _ _ (T6.setTop (mkF m 48 #[.val (.int p1), .val (.int c1), .val (.int (0 : Int32))] [(.int (1 : Int32))]))
              refine own_go (fun t k => XS.goto X6.here hx rfl (pc0 := 48) (pc' := 52) rfl (hb hby at_48) (by decide) (by decide) k) ?_
              show OwnFin p e below s _ _ _ (T6.setTop (mkF m 52 #[.val (.int p1), .val (.int c1), .val (.int (0 : Int32))] [(.int (1 : Int32))]))
              refine own_ret X6 (v := some (.int (1 : Int32))) hlk (fun hh => by rw [hret] at hh; cases hh) (fun fs hr => retN X6 hx (t := .boolean) hret (by simp) (hb hby at_52) hr) (by decide) (by decide) ?_
              exact ⟨rfl, N6⟩
            · refine own_go (fun t k => XS.icmpYes X6.here hx rfl (pc0 := 44) (pc' := 51) rfl (hb hby at_44) rfl (feq hc44).2 (by decide) (by decide) k) ?_
              show OwnFin p e below s _ _ _ (T6.setTop (mkF m 51 #[.val (.int p1), .val (.int c1), .val (.int (0 : Int32))] []))
              refine own_go (fun t k => XS.iconst X6.here hx rfl (hb hby at_51) k) ?_
              show OwnFin p e below s _ _ _ (T6.setTop (mkF m 52 #[.val (.int p1), .val (.int c1), .val (.int (0 : Int32))] [(.int (0 : Int32))]))
              exact absurd (show own_sp c1 = _ by simp [own_sp, hc6, hc12, hc18, hc24, hc30]) hc44
set_option maxRecDepth 65536 in
set_option maxHeartbeats 40000000 in
theorem comes_1 {Post : Tables → Env → Array Value → State → Outcome → State → Prop} (hpost : ∀ tb e args s v u, (limb_1_1.after args s (.returned v) u = true ∧ limb_1_2.after args s (.returned v) u = true ∧ True) → FrameEnd s (.returned v) u (Jvm.fieldLocs frame_1_writes args s ++ Jvm.arrayLocs frame_1_arrays args s ++ Jvm.staticLocs frame_1_statics s) 0 0 → Post tb e args s (.returned v) u) :
    ArmFor flags0 classFile x code maxLocals ret World_1 tables_1 room_1 Calls_1 rest_1 Pre_1 Post := by
  intro l hfl _ _ p e ha hc hk s m args below hf hA hF happ hP
  obtain ⟨hcalls, hrest, hpre⟩ := hP
  obtain ⟨-, -, -, hnamed, -, -, -, hat⟩ := (Spec.applies_iff hf).mp happ
  obtain ⟨hg, hn⟩ := and_e (Cond.before_iff.mp (show (Jvm.Cond.and given_1 narrow_1).before args s = true from hpre))
  obtain ⟨g1, g2⟩ := and_e hg
  obtain ⟨w0, rfl⟩ : ∃ w0 : Value, args = #[w0] := by
    have hs : args.size = 1 := by simpa [Cond.value, given_1] using g1
    obtain ⟨L⟩ := args
    match L, hs with
    | [w0], _ => exact ⟨w0, rfl⟩
  have hw := fun d (hd : d ∈ tables_1) => atoms_spec (ws := Jvm.Cond.code x code maxLocals ret :: tables_1) hat d (List.mem_cons_of_mem _ hd)
  have hfit : Fit s := fun {y c} hc i hi => by
    obtain ⟨ha, rfl⟩ := Array.getElem?_eq_some_iff.mp hc
    have q := List.all_eq_true.mp ((Array.all_eq_true_iff_forall_mem.mp hF) _ (Array.getElem_mem ha)) i (List.mem_range.mpr hi)
    simpa [Array.getElem?_eq_getElem hi] using q
  obtain ⟨i0, ei0⟩ := is_v g2
  obtain rfl : w0 = (.int i0) := Option.some.inj ei0
  obtain ⟨n, o, h1, h2, h3, _, L, rfl, ⟨rfl, N⟩, hq⟩ := rm0 l s _ hw tables_1 i0 s.heap s.heap.size (Nat.le_refl _) p e ha hc hk s m _ below hf ((Spec.applies_iff_loose hf).mp happ).1 ⟨rfl, State.Warmed39.refl s, rfl⟩ trivial
  refine ⟨n, _, h1, h2, h3, hpost _ _ _ _ _ _ ⟨Cond.after_iff.mpr rfl, Cond.after_iff.mpr (eq_i res_at (Term.int_eval (1)) rfl), trivial⟩ ⟨hq.1, hq.2.1, (hq.2.2.sift fun y hy => Or.inr (N y hy)).mono (by decide) (by decide)⟩⟩
theorem main_1_1 : Claimed_1_1 := comes_1 fun _ _ _ _ _ _ h hF => ⟨h.1, hF⟩
theorem main_1_2 : Claimed_1_2 := comes_1 fun _ _ _ _ _ _ h hF => ⟨h.2.1, hF⟩
end Jvm.Pilot.@@N@@
namespace Jvm.Pilot.@@N@@
open Jvm Jvm.ClassFile Sem Op Lib Jvm.Free Jvm.Stand Jvm.Pilot.@@N@@.Jvm.D
/-! MADE BY PROGRAM (witnessworld.py) out of the Statement's table words and the real class files: 9 classes; the members and pool entries that the words name. The judged class is class 1, her method 1. -/
namespace start1
open Jvm.ClassFile
def u (s : String) : CpInfo := .utf8 (stringToUtf16 s)
/-- a pool by its gaps: so many unusable entries, then the entry; so many at the end -/
def gap : Nat → List CpInfo → List CpInfo
  | 0, r => r
  | n + 1, r => .unusable :: gap n r
def poolList (es : List (Nat × CpInfo)) (last : Nat) : List CpInfo := es.foldr (fun e r => gap e.1 (e.2 :: r)) (gap last [])
def pool (es : List (Nat × CpInfo)) (last : Nat) : Array CpInfo := ⟨poolList es last⟩
def fileOf (pool : Array CpInfo) (this : Nat) (attrs : Array Attribute := #[]) (ms : Array MethodInfo := #[]) (fl : Nat := 33) (sup : Nat := 0) (ifs : Array Nat := #[]) (fds : Array FieldInfo := #[]) : ClassFile where
  minorVersion := 0
  majorVersion := 65
  constantPool := pool
  accessFlags := fl
  thisClass := this
  superClass := sup
  interfaces := ifs
  fields := fds
  methods := ms
  attributes := attrs
def plain (name : String) (sup : Option ClassId) : Class where
  name := name
  kind := .ordinary
  loader := none
  accessFlags := 33
  super := sup
  interfaces := #[]
  cf := none
  fields := #[]
  methods := #[]
  instanceTypes := #[]
  staticTypes := #[]
  resolved := #[]
  callSites := []
  init := .initialized
  statics := none
  mirror := none

def pool0 : Array CpInfo := pool [(5, u "<init>"), (0, u "()V"), (1, .class_ 10), (1, u "java/lang/Object")] 113

def k0m0 : Method := { name := "<init>", desc := "()V", sig := { parameters := [], returnType := none }, accessFlags := 1, code := none }
/-- java/lang/Object -/
def k0 : Class := { plain "java/lang/Object" none with
  accessFlags := 33
  interfaces := #[]
  cf := some (fileOf pool0 8 #[] #[{ accessFlags := 1, nameIndex := 5, descriptorIndex := 6, attributes := #[] }] 33 0 #[] #[])
  fields := #[]
  methods := #[k0m0]
  instanceTypes := #[]
  staticTypes := #[]
  resolved := Array.replicate 124 none
  statics := none }

def pool1 : Array CpInfo := pool [(2, .class_ 4), (1, u "java/lang/Object"), (0, u "<init>"), (0, u "()V"), (0, .methodref 8 9), (0, .class_ 10), (0, .nameAndType 11 12), (0, u "com/example/argweave/argweave/JavaDialect"), (0, u "isSpace"), (0, u "(C)Z"), (0, .class_ 14), (0, u "com/example/argweave/argweave/JavaDialectIsSpacePinLaw"), (2, u "law"), (0, u "(I)Z")] 3

def k1m0 : Method := { name := "<init>", desc := "()V", sig := { parameters := [], returnType := none }, accessFlags := 1, code := none }
def k1c1 : Code := { maxStack := 2, maxLocals := 3, code := code, exceptionTable := #[], attributes := #[] }
def k1m1 : Method := { name := "law", desc := "(I)Z", sig := { parameters := [.int], returnType := some .boolean }, accessFlags := 9, code := some k1c1 }
/-- com/example/argweave/argweave/JavaDialectIsSpacePinLaw -/
def k1 : Class := { plain "com/example/argweave/argweave/JavaDialectIsSpacePinLaw" (some 0) with
  accessFlags := 49
  interfaces := #[]
  cf := some (fileOf pool1 13 #[] #[{ accessFlags := 1, nameIndex := 5, descriptorIndex := 6, attributes := #[] }, { accessFlags := 9, nameIndex := 17, descriptorIndex := 18, attributes := #[] }] 49 2 #[] #[])
  fields := #[]
  methods := #[k1m0, k1m1]
  instanceTypes := #[]
  staticTypes := #[]
  resolved := Array.replicate 22 none
  statics := none }

def pool2 : Array CpInfo := pool [(2, .class_ 4), (1, u "java/lang/Object"), (10, .class_ 17), (1, u "com/example/argweave/argweave/JavaDialect"), (0, u "lines"), (0, u "Lcom/example/argweave/argweave/LineCounter;"), (1, .class_ 23), (1, u "com/example/argweave/argweave/JavaDialect$State"), (1, u "Lcom/example/argweave/argweave/JavaDialect$State;"), (2, u "state"), (2, u "arg"), (0, u "Lcom/example/argweave/argweave/ArgText;"), (2, u "into"), (0, u "Lcom/example/argweave/argweave/ArgSink;"), (22, u "offset"), (0, u "J"), (14, u "isSpace"), (0, u "(C)Z"), (7, u "backslashed"), (0, u "Z"), (28, u "settled"), (0, u "I"), (2, u "partial"), (18, u "quote"), (0, u "C"), (49, u "CHUNK"), (2, u "BLOCK")] 19

def k2c0 : Code := { maxStack := 1, maxLocals := 1, code := prog_29_method_13_code, exceptionTable := #[], attributes := #[] }
def k2m0 : Method := { name := "isSpace", desc := "(C)Z", sig := { parameters := [.char], returnType := some .boolean }, accessFlags := 8, code := some k2c0 }
/-- com/example/argweave/argweave/JavaDialect -/
def k2 : Class := { plain "com/example/argweave/argweave/JavaDialect" (some 0) with
  accessFlags := 48
  interfaces := #[]
  cf := some (fileOf pool2 15 #[.nestMembers #[21]] #[{ accessFlags := 8, nameIndex := 75, descriptorIndex := 76, attributes := #[] }] 48 2 #[] #[{ accessFlags := 26, nameIndex := 188, descriptorIndex := 115, attributes := #[] }, { accessFlags := 24, nameIndex := 191, descriptorIndex := 115, attributes := #[] }, { accessFlags := 18, nameIndex := 35, descriptorIndex := 36, attributes := #[] }, { accessFlags := 18, nameIndex := 18, descriptorIndex := 19, attributes := #[] }, { accessFlags := 18, nameIndex := 31, descriptorIndex := 32, attributes := #[] }, { accessFlags := 2, nameIndex := 28, descriptorIndex := 25, attributes := #[] }, { accessFlags := 2, nameIndex := 137, descriptorIndex := 138, attributes := #[] }, { accessFlags := 2, nameIndex := 114, descriptorIndex := 115, attributes := #[] }, { accessFlags := 2, nameIndex := 118, descriptorIndex := 85, attributes := #[] }, { accessFlags := 2, nameIndex := 84, descriptorIndex := 85, attributes := #[] }, { accessFlags := 2, nameIndex := 59, descriptorIndex := 60, attributes := #[] }])
  fields := #[{ name := "CHUNK", type := .int, accessFlags := 26, slot := 0, constantValue := 0 }, { name := "BLOCK", type := .int, accessFlags := 24, slot := 1, constantValue := 0 }, { name := "into", type := (.object "com/example/argweave/argweave/ArgSink"), accessFlags := 18, slot := 0, constantValue := 0 }, { name := "lines", type := (.object "com/example/argweave/argweave/LineCounter"), accessFlags := 18, slot := 1, constantValue := 0 }, { name := "arg", type := (.object "com/example/argweave/argweave/ArgText"), accessFlags := 18, slot := 2, constantValue := 0 }, { name := "state", type := (.object "com/example/argweave/argweave/JavaDialect$State"), accessFlags := 2, slot := 3, constantValue := 0 }, { name := "quote", type := .char, accessFlags := 2, slot := 4, constantValue := 0 }, { name := "settled", type := .int, accessFlags := 2, slot := 5, constantValue := 0 }, { name := "partial", type := .boolean, accessFlags := 2, slot := 6, constantValue := 0 }, { name := "backslashed", type := .boolean, accessFlags := 2, slot := 7, constantValue := 0 }, { name := "offset", type := .long, accessFlags := 2, slot := 8, constantValue := 0 }]
  methods := #[k2m0]
  instanceTypes := #[(.object "com/example/argweave/argweave/ArgSink"), (.object "com/example/argweave/argweave/LineCounter"), (.object "com/example/argweave/argweave/ArgText"), (.object "com/example/argweave/argweave/JavaDialect$State"), .char, .int, .boolean, .boolean, .long]
  staticTypes := #[.int, .int]
  resolved := Array.replicate 211 none
  statics := none }

def pool3 : Array CpInfo := pool [(1, u "java/lang/Cloneable"), (0, .class_ 1), (0, u "java/lang/Object"), (0, .class_ 3)] 3

/-- java/lang/Cloneable -/
def k3 : Class := { plain "java/lang/Cloneable" (some 0) with
  accessFlags := 1537
  interfaces := #[]
  cf := some (fileOf pool3 2 #[] #[] 1537 4 #[] #[])
  fields := #[]
  methods := #[]
  instanceTypes := #[]
  staticTypes := #[]
  resolved := Array.replicate 8 none
  statics := none }

def pool4 : Array CpInfo := pool [(1, u "java/io/Serializable"), (0, .class_ 1), (0, u "java/lang/Object"), (0, .class_ 3)] 3

/-- java/io/Serializable -/
def k4 : Class := { plain "java/io/Serializable" (some 0) with
  accessFlags := 1537
  interfaces := #[]
  cf := some (fileOf pool4 2 #[] #[] 1537 4 #[] #[])
  fields := #[]
  methods := #[]
  instanceTypes := #[]
  staticTypes := #[]
  resolved := Array.replicate 8 none
  statics := none }

/-- the primitive byte -/
def k5 : Class := { plain "byte" none with kind := .primitive 'B', accessFlags := 0x411 }
/-- [B -/
def k6 : Class := { plain "[B" (some 0) with kind := .array 5 .byte, interfaces := #[3, 4], accessFlags := 1041 }

/-- the primitive int -/
def k7 : Class := { plain "int" none with kind := .primitive 'I', accessFlags := 0x411 }
/-- [I -/
def k8 : Class := { plain "[I" (some 0) with kind := .array 7 .int, interfaces := #[3, 4], accessFlags := 1041 }

def heap : Heap := #[]
def classes : Array Class := #[k0, k1, k2, k3, k4, k5, k6, k7, k8]
def interned : List (Array UInt16 × Addr) := []
def slotsUsed : Nat := 0
def theMethod : MethodId := ⟨1, 1⟩
def args0 : Array Value := #[.int 5]
def aboutOver (below : List Frame) : State where
  vm := { classes := classes, interned := interned.toArray }
  heap := heap
  slotsUsed := slotsUsed
  threads := #[{ frames := .invoking theMethod args0 :: below }]
def below0 : List Frame := [.native { method := ⟨0, 0⟩, args := #[] }]
def about1 : State := aboutOver below0
def p0 : Program := .bare "" "" ""
def e0 : Env := launch0.env 0 0 0
theorem w_frames : about1.frames = Frame.invoking theMethod args0 :: below0 := rfl
set_option maxRecDepth 65536 in
theorem w_args : argsFit about1.vm theMethod args0 = true := by decide +kernel
set_option maxRecDepth 65536 in
theorem w_heap : heapFits about1 = true := by decide +kernel
set_option maxRecDepth 65536 in
theorem w_runnable : about1.curStatus? = some .runnable := by decide +kernel
set_option maxRecDepth 65536 in
theorem w_alone : about1.alone = true := by decide +kernel
set_option maxRecDepth 65536 in
theorem w_named : about1.methodNamed? x = some theMethod := by decide +kernel
set_option maxRecDepth 65536 in
theorem w_hears : about1.hears theMethod below0 = true := by decide +kernel
set_option maxRecDepth 65536 in
theorem w_ripe : about1.ripe theMethod args0 below0 = true := by decide +kernel
theorem w_running : about1.status = .running := rfl
set_option maxRecDepth 65536 in
theorem w_room : about1.hasRoom e0.platform room_1 = true :=
  launch0.hasRoom_least _ room_1 (by decide +kernel) (by decide +kernel) (by decide +kernel) (by decide +kernel) (by decide +kernel) (by decide +kernel)
theorem allAtoms_all (ts : List Jvm.Cond) (a : Array Jvm.Value) (st : Jvm.State) : (allAtoms ts).before a st = ts.all (fun c => c.before a st) := by
  induction ts with
  | nil => rfl
  | cons c t ih =>
    show (Jvm.Cond.and c (allAtoms t)).before a st = _
    rw [Jvm.Cond.before_and, ih, List.all_cons]
def words1 : List Jvm.Cond := Jvm.Cond.code x code maxLocals ret :: tables_1
/-- a 'code' word, met by the world's own term for the bytes: nothing is compared byte by byte -/
theorem code_word {y : MethodName} {bytes : ByteArray} {mx : Nat} {rt : Option FieldType} {a : Array Value} {s : State} {m : MethodId} {meth : Method} {c : Code} (h1 : s.methodNamed? y = some m) (h2 : s.vm.method? m = some meth) (h3 : meth.code = some c) (h4 : c.code = bytes)
    (h5 : (c.maxLocals == mx && c.exceptionTable.isEmpty && decide (c.maxStack ≤ mostOperands) && decide (meth.sig.returnType = rt) && !meth.locks && decide (parseMethodDescriptor y.desc = some meth.sig)) = true) : (Jvm.Cond.code y bytes mx rt).before a s = true := by
  simp only [Bool.and_eq_true, beq_iff_eq, Bool.not_eq_true', decide_eq_true_eq] at h5
  obtain ⟨⟨⟨⟨⟨g1, g2⟩, g3⟩, g4⟩, g5⟩, g6⟩ := h5
  simp [Cond.before, Cond.holds, Cond.value, h1, h2, h3, h4, g1, g2, g3, g4, g5, g6]
def isCode : Jvm.Cond → Bool
  | .code _ _ _ _ => true
  | _ => false
theorem all_split {L : List Jvm.Cond} {P : Jvm.Cond → Bool} (h1 : L.all (fun c => isCode c || P c) = true) (h2 : ∀ c ∈ L.filter isCode, P c = true) : L.all P = true := by
  refine List.all_eq_true.mpr fun c hc => ?_
  have h := List.all_eq_true.mp h1 c hc
  rcases Bool.eq_false_or_eq_true (isCode c) with hi | hi
  · exact h2 c (List.mem_filter.mpr ⟨hc, hi⟩)
  · simpa [hi] using h
set_option maxRecDepth 65536 in
theorem w_c0 : (Jvm.Cond.code x code maxLocals ret).before args0 about1 = true := code_word (m := ⟨1, 1⟩) (meth := k1m1) (c := k1c1) (by decide +kernel) rfl rfl rfl (by decide +kernel)
set_option maxRecDepth 65536 in
theorem w_c1 : (Jvm.Cond.code ({ cls := "com/example/argweave/argweave/JavaDialect", name := "isSpace", desc := "(C)Z" } : Jvm.MethodName) prog_29_method_13_code (1 : Nat) (Option.some Jvm.ClassFile.FieldType.boolean)).before args0 about1 = true := code_word (m := ⟨2, 0⟩) (meth := k2m0) (c := k2c0) (by decide +kernel) rfl rfl rfl (by decide +kernel)
def codes1 : List Jvm.Cond := [Jvm.Cond.code x code maxLocals ret, Jvm.Cond.code ({ cls := "com/example/argweave/argweave/JavaDialect", name := "isSpace", desc := "(C)Z" } : Jvm.MethodName) prog_29_method_13_code (1 : Nat) (Option.some Jvm.ClassFile.FieldType.boolean)]
set_option maxRecDepth 65536 in
theorem codes_eq : words1.filter isCode = codes1 := rfl
theorem w_codes : ∀ c ∈ words1.filter isCode, c.before args0 about1 = true := by
  rw [codes_eq]
  intro c hc
  simp only [codes1, List.mem_cons, List.not_mem_nil, or_false] at hc
  rcases hc with rfl | rfl
  · exact w_c0
  · exact w_c1
set_option maxRecDepth 65536 in
theorem w_t1 : words1.all (fun c => isCode c || c.before args0 about1) = true := by decide +kernel
theorem w_tables : (allAtoms (Jvm.Cond.code x code maxLocals ret :: tables_1)).before args0 about1 = true := by
  rw [allAtoms_all]
  show words1.all (fun c => c.before args0 about1) = true
  refine all_split ?_ w_codes
  rw [w_t1]
set_option maxRecDepth 65536 in
theorem w_case : (Jvm.Cond.and given_1 narrow_1).before args0 about1 = true := by decide +kernel
theorem w_applies : (headSpec (Jvm.Cond.code x code maxLocals ret :: tables_1) room_1).applies x e0.platform about1 = true :=
  (Spec.applies_iff w_frames).mpr ⟨w_running, w_runnable, w_alone, w_named, w_hears, w_ripe, w_room, w_tables⟩
theorem atStart : AtStart classFile x code maxLocals ret World_1 tables_1 room_1 Calls_1 rest_1 Pre_1 launch0 p0 e0 about1 theMethod args0 below0 :=
  ⟨lists_1, trivial, launch0.admits_env _ _ _, launch0.least_env, fairChoices_fair.cas, fairChoices_fair.clock, w_frames, w_args, w_heap, w_applies, trivial, trivial, w_case⟩
end start1
theorem witness_1 : WitnessClaimed_1 := ⟨start1.p0, start1.e0, start1.about1, start1.theMethod, start1.args0, start1.below0, start1.atStart⟩
end Jvm.Pilot.@@N@@
