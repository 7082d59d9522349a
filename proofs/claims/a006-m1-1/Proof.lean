import JvmDerived
import JvmDerived.Pilot.@@N@@Statement
import JvmDerived.Pilot.@@N@@Code
set_option linter.unusedVariables false
set_option linter.unusedSimpArgs false
@@BLOCK:NumsL.lean.txt@@
namespace Jvm.Pilot.@@N@@
open Jvm Jvm.ClassFile Sem Op Lib Jvm.Free Jvm.Stand Jvm.LawKit Jvm.RoadKit Bundle Jvm.Pilot.@@N@@.Jvm.D
section Own
variable {p : Program} {l : Launch} {e : Env} {R : Room} {s : State} {m : MethodId} {args : Array Value} {below : List Frame} {meth : Method} {c : Code} {T : State} {locs : List Loc} {cells slots : Nat} {Z : State} {a0 : Array Value} {h : Heap}
/-- from the state A the run comes to the method's end, and Q says what it leaves -/
def OwnFin (p : Program) (e : Env) (below : List Frame) (s : State) (Q : Option Value → Heap → List Loc → Prop) (C S : Nat) (A : State) : Prop :=
  ∃ s₂ o, Steps p.tables e below A s₂ ∧ s₂.status = .running ∧ Ended s₂ below o ∧ ∃ v L, o = .returned v ∧ Q v s₂.heap L ∧ FrameEnd s o s₂ L C S
variable {Q : Option Value → Heap → List Loc → Prop} {C S : Nat}
theorem own_go {A B : State} (h : ∀ t, Steps p.tables e below B t → Steps p.tables e below A t) (k : OwnFin p e below s Q C S B) : OwnFin p e below s Q C S A := by
  obtain ⟨s₂, o, h1, r⟩ := k
  exact ⟨s₂, o, h _ h1, r⟩
theorem own_ret (X : Stand p l e R s m args below meth c T locs cells slots) {v : Option Value} (hlk : meth.locks = false) (hv : meth.sig.returnType = none → v = none) {g : JFrame}
    (hstep : ∀ fs, (∀ (f : JFrame) (acts : List Action), f.method = m → f.locked = none → f.entered = [] → (doReturn e (T.setTop f) acts v).1 = T.setFrames fs) → Steps p.tables e below (T.setTop g) (T.setFrames fs))
    (hc : cells ≤ C) (hs : slots ≤ S) (hQ : Q v T.heap locs) : OwnFin p e below s Q C S (T.setTop g) := by
  obtain ⟨fs, hr, hrun, hended, hW, hsame⟩ := X.leave hv hlk
  exact ⟨_, _, hstep fs hr, hrun, hended, _, _, rfl, hQ, ⟨_, rfl⟩, hW, hsame.mono hc hs⟩
/-- a method's contract, in the form that backOf takes -/
abbrev OwnCtr (l : Launch) (Z : State) (y : MethodName) (ws : List Jvm.Cond) (bytes : ByteArray) (maxL : Nat) (ret : Option FieldType) (rm : Room) (as' : Array Value) (h0 : Heap) (Q : Option Value → Heap → List Loc → Prop) : Prop :=
  MetFree l y (head1 (Jvm.Cond.code y bytes maxL ret :: ws) rm) (fun a U => a = as' ∧ Z.Warmed39 U.vm ∧ U.heap = h0) (fun _ _ _ _ _ => True) (fun _ U o U' => ∃ v L, o = .returned v ∧ Q v U'.heap L ∧ FrameEnd U o U' L rm.cells rm.slots)
theorem own_body {l : Launch} {Z : State} {y : MethodName} {ws : List Jvm.Cond} {bytes : ByteArray} {maxL : Nat} {ret : Option FieldType} {rm : Room} {as' : Array Value} {h0 : Heap} {g0 : MethodId → JFrame}
    (hpl : plainFor y = true) (hef : ∀ m, entryFrame m as' maxL = g0 m)
    (body : ∀ (p : Program) (e : Env) (s : State) (m : MethodId) (below : List Frame) (meth : Method) (c : Code) (s₁ : State), Stand p l e rm s m as' below meth c s₁ [] 0 0 → p.tables.exec = Jvm.exec → c.code = bytes → c.maxLocals = maxL →
      s.vm.findClass y.cls = some m.cls → meth.name = y.name → Z.Warmed39 s.vm → s₁.heap = h0 → meth.sig.returnType = ret → meth.locks = false → OwnFin p e below s Q rm.cells rm.slots (s₁.setTop (g0 m))) :
    OwnCtr l Z y ws bytes maxL ret rm as' h0 Q := by
  refine MetFree.of_bodySF hpl hisR ?_
  intro p e s m args below meth c s₁ Bd hml0 hP hK
  obtain ⟨rfl, hZ, hh⟩ := hP
  have e0 : s₁.heap = h0 := by rw [← hh, Bd.state]; rfl
  have k := body p e s m below meth c s₁ (Stand.of_body Bd) Bd.exec Bd.bytes hml0 (findClass_of_methodNamed Bd.named) (name_of_methodNamed Bd.named Bd.method).1 hZ e0 Bd.returns Bd.notSynchronized
  rw [← hef m] at k
  exact k
/-- a static call by its contract -/
theorem own_callS (X : Stand p l e R s m args below meth c T locs cells slots) (hx : p.tables.exec = Jvm.exec) (hZ : Z.Warmed39 s.vm) {own : String} {index : Nat} {y : MethodName} {bytes : ByteArray} {maxL : Nat} {ret : Option FieldType} {rm : Room} {as' : Array Value} {Q : Option Value → Heap → List Loc → Prop}
    (hown : s.vm.findClass own = some m.cls) (hlink : (Cond.methodLink own index y).before a0 Z = true) (hstat : (Cond.static y).before a0 Z = true) (hinit : (Cond.initialized y.cls).before a0 Z = true) (hcode : (Cond.code y bytes maxL ret).before a0 Z = true)
    (hy : y.cls ≠ "java/lang/invoke/MethodHandle" ∧ y.cls ≠ "java/lang/invoke/VarHandle") {W : Nat} (hM : OwnCtr l Z y [] bytes maxL ret rm as' h Q) (hf : rm.frames + 1 ≤ R.frames) (hl : W + (maxL + 11) + rm.locals ≤ R.locals)
    {g : JFrame} (hg : g.method = m) (hsize : g.locals.size = c.maxLocals) {argsL rest : List Value} (hlen : ∀ sig, parseMethodDescriptor y.desc = some sig → argsL.length = sig.parameters.length)
    (hstack : g.stack = argsL.reverse ++ rest) (hW : 2 * g.monitorRoom + (rest.map fun v => v.category).sum ≤ W) (hdg : decode c.code g.pc = .ok (.invokestatic index, 3)) (eT : T.heap = h) (ha : argsL.toArray = as') (hc : cells + rm.cells ≤ R.cells) (hs : slots + rm.slots ≤ R.slots) :
    ∃ (v : Option Value) (T' : State) (L : List Loc), Stand p l e R s m args below meth c T' (locs ++ L) (cells + rm.cells) (slots + rm.slots) ∧ Q v T'.heap L ∧ ∀ target, Steps p.tables e below (T'.setTop { g with pc := g.pc + 3, stack := v.toList ++ rest }) target → Steps p.tables e below (T.setTop g) target := by
  obtain ⟨v, _, ⟨T', L', k, n⟩, -, X', ⟨L, hQ, l1, y1, z1⟩, st⟩ := Jvm.LawKit.callS X hx (y := y) hown (mvT hZ hlink) (mvT hZ hstat) (mvT hZ hinit) (mvT hZ hcode) hy (backOf (W := W) hM hZ hcode hinit hf hl) hg hsize hlen hstack hW hdg (fun _ _ => ⟨ha, eT, hc, hs⟩)
  dsimp only [Pt.U, Pt.locs, Pt.cells, Pt.slots] at X' l1 y1 z1 st hQ
  subst l1 y1 z1
  exact ⟨v, T', L, X', hQ, st⟩
/-- a constructor by its contract -/
theorem own_callI (X : Stand p l e R s m args below meth c T locs cells slots) (hx : p.tables.exec = Jvm.exec) (hZ : Z.Warmed39 s.vm) {own : String} {index : Nat} {y : MethodName} {bytes : ByteArray} {maxL : Nat} {rm : Room} {as' : Array Value} {Q : Option Value → Heap → List Loc → Prop}
    (hy1 : y.name = "<init>") (hown : s.vm.findClass own = some m.cls) (hlink : (Cond.methodLink own index y).before a0 Z = true) (hinst : (Cond.instanceMethod y).before a0 Z = true) (hinit : (Cond.initialized y.cls).before a0 Z = true) (hcode : (Cond.code y bytes maxL none).before a0 Z = true)
    (hy : y.cls ≠ "java/lang/invoke/MethodHandle" ∧ y.cls ≠ "java/lang/invoke/VarHandle") {W : Nat} (hM : OwnCtr l Z y [] bytes maxL none rm as' h Q) (hf : rm.frames + 1 ≤ R.frames) (hl : W + (maxL + 11) + rm.locals ≤ R.locals)
    {g : JFrame} (hg : g.method = m) (hsize : g.locals.size = c.maxLocals) {a : Addr} {argsL rest : List Value} (hlen : ∀ sig, parseMethodDescriptor y.desc = some sig → argsL.length = sig.parameters.length)
    (hstack : g.stack = argsL.reverse ++ .ref a :: rest) (hW : 2 * g.monitorRoom + (rest.map fun v => v.category).sum ≤ W) (hdg : decode c.code g.pc = .ok (.invokespecial index, 3)) (eT : T.heap = h) (ha : (.ref a :: argsL).toArray = as') (hc : cells + rm.cells ≤ R.cells) (hs : slots + rm.slots ≤ R.slots) :
    ∃ (v : Option Value) (T' : State) (L : List Loc), Stand p l e R s m args below meth c T' (locs ++ L) (cells + rm.cells) (slots + rm.slots) ∧ Q v T'.heap L ∧ ∀ target, Steps p.tables e below (T'.setTop { g with pc := g.pc + 3, stack := v.toList ++ rest }) target → Steps p.tables e below (T.setTop g) target := by
  obtain ⟨v, _, ⟨T', L', k, n⟩, -, X', ⟨L, hQ, l1, y1, z1⟩, st⟩ := X.specialBack hx (y := y) hy1 hown (mvT hZ hlink) (mvT hZ hinst) (mvT hZ hcode) hy (backOf (W := W) hM hZ hcode hinit hf hl) hg hsize (Steps.refl _) hlen hstack hW hdg (fun _ _ => ⟨ha, eT, hc, hs⟩)
  dsimp only [Pt.U, Pt.locs, Pt.cells, Pt.slots] at X' l1 y1 z1 st hQ
  subst l1 y1 z1
  exact ⟨v, T', L, X', hQ, fun t k => st.trans k⟩
/-- an instance method by its contract -/
theorem own_callV (X : Stand p l e R s m args below meth c T locs cells slots) (hx : p.tables.exec = Jvm.exec) (hZ : Z.Warmed39 s.vm) {own K : String} {index : Nat} {y z : MethodName} {bytes : ByteArray} {maxL : Nat} {ret : Option FieldType} {rm : Room} {as' : Array Value} {Q : Option Value → Heap → List Loc → Prop}
    (hown : s.vm.findClass own = some m.cls) (hlink : (Cond.methodLink own index y).before a0 Z = true) (hdecl : (Cond.declares y).before a0 Z = true) (hnf : NotFace s y) (hsel : (Cond.selects K y z).before a0 Z = true) (hinst : (Cond.instanceMethod z).before a0 Z = true) (hinit : (Cond.initialized z.cls).before a0 Z = true) (hcode : (Cond.code z bytes maxL ret).before a0 Z = true)
    (hy : y.cls ≠ "java/lang/invoke/MethodHandle" ∧ y.cls ≠ "java/lang/invoke/VarHandle") {W : Nat} (hM : OwnCtr l Z z [] bytes maxL ret rm as' h Q) (hf : rm.frames + 1 ≤ R.frames) (hl : W + (maxL + 11) + rm.locals ≤ R.locals)
    {b : Addr} (E : Exa Z h b K) {g : JFrame} (hg : g.method = m) (hsize : g.locals.size = c.maxLocals) {argsL rest : List Value} (hlen : ∀ sig, parseMethodDescriptor y.desc = some sig → argsL.length = sig.parameters.length)
    (hstack : g.stack = argsL.reverse ++ .ref b :: rest) (hW : 2 * g.monitorRoom + (rest.map fun v => v.category).sum ≤ W) (hdg : decode c.code g.pc = .ok (.invokevirtual index, 3)) (eT : T.heap = h) (ha : (.ref b :: argsL).toArray = as') (hc : cells + rm.cells ≤ R.cells) (hs : slots + rm.slots ≤ R.slots) :
    ∃ (v : Option Value) (T' : State) (L : List Loc), Stand p l e R s m args below meth c T' (locs ++ L) (cells + rm.cells) (slots + rm.slots) ∧ Q v T'.heap L ∧ ∀ target, Steps p.tables e below (T'.setTop { g with pc := g.pc + 3, stack := v.toList ++ rest }) target → Steps p.tables e below (T.setTop g) target := by
  obtain ⟨cq, kq, qa, qb, qc⟩ := isOf hZ eT E
  obtain ⟨v, _, ⟨T', L', k, n⟩, -, X', ⟨L, hQ, l1, y1, z1⟩, st⟩ := X.virtualBack hx (y := y) (z := z) hown (mvT hZ hlink) (mvT hZ hdecl) hnf (mvT hZ hsel) (mvT hZ hinst) hy (backOf (W := W) hM hZ hcode hinit hf hl) qa qc hg hsize (Steps.refl _) hlen hstack hW hdg (fun _ _ => ⟨ha, eT, hc, hs⟩)
  dsimp only [Pt.U, Pt.locs, Pt.cells, Pt.slots] at X' l1 y1 z1 st hQ
  subst l1 y1 z1
  exact ⟨v, T', L, X', hQ, fun t k => st.trans k⟩
/-- a private instance method, called by invokevirtual, by its contract -/
theorem own_callP (X : Stand p l e R s m args below meth c T locs cells slots) (hx : p.tables.exec = Jvm.exec) (hZ : Z.Warmed39 s.vm) {own : String} {index : Nat} {y : MethodName} {bytes : ByteArray} {maxL : Nat} {ret : Option FieldType} {rm : Room} {as' : Array Value} {Q : Option Value → Heap → List Loc → Prop}
    (hown : s.vm.findClass own = some m.cls) (hlink : (Cond.methodLink own index y).before a0 Z = true) (hinst : (Cond.instanceMethod y).before a0 Z = true) (hsel : (Cond.selects y.cls y y).before a0 Z = true) (hpriv : (Cond.privateMethod y).before a0 Z = true) (hinit : (Cond.initialized y.cls).before a0 Z = true) (hcode : (Cond.code y bytes maxL ret).before a0 Z = true)
    (hy : y.cls ≠ "java/lang/invoke/MethodHandle" ∧ y.cls ≠ "java/lang/invoke/VarHandle") {W : Nat} (hM : OwnCtr l Z y [] bytes maxL ret rm as' h Q) (hf : rm.frames + 1 ≤ R.frames) (hl : W + (maxL + 11) + rm.locals ≤ R.locals)
    {b : Addr} {K : String} (E : Exa Z h b K) {g : JFrame} (hg : g.method = m) (hsize : g.locals.size = c.maxLocals) {argsL rest : List Value} (hlen : ∀ sig, parseMethodDescriptor y.desc = some sig → argsL.length = sig.parameters.length)
    (hstack : g.stack = argsL.reverse ++ .ref b :: rest) (hW : 2 * g.monitorRoom + (rest.map fun v => v.category).sum ≤ W) (hdg : decode c.code g.pc = .ok (.invokevirtual index, 3)) (eT : T.heap = h) (ha : (.ref b :: argsL).toArray = as') (hc : cells + rm.cells ≤ R.cells) (hs : slots + rm.slots ≤ R.slots) :
    ∃ (v : Option Value) (T' : State) (L : List Loc), Stand p l e R s m args below meth c T' (locs ++ L) (cells + rm.cells) (slots + rm.slots) ∧ Q v T'.heap L ∧ ∀ target, Steps p.tables e below (T'.setTop { g with pc := g.pc + 3, stack := v.toList ++ rest }) target → Steps p.tables e below (T.setTop g) target := by
  obtain ⟨cq, q1, q2⟩ := E.cell
  obtain ⟨v, _, ⟨T', L', k, n⟩, -, X', ⟨L, hQ, l1, y1, z1⟩, st⟩ := X.privateBack hx (y := y) hown (mvT hZ hlink) (mvT hZ hinst) (mvT hZ hsel) (Cond.privateMethod_at (mvP hZ hpriv (args := #[]))) (mvT hZ hcode) hy (backOf (W := W) hM hZ hcode hinit hf hl) hg hsize (Steps.refl _) (by rw [eT]; exact q1) q2 hlen hstack hW hdg (fun _ _ => ⟨ha, eT, hc, hs⟩)
  dsimp only [Pt.U, Pt.locs, Pt.cells, Pt.slots] at X' l1 y1 z1 st hQ
  subst l1 y1 z1
  exact ⟨v, T', L, X', hQ, fun t k => st.trans k⟩
theorem own_retI (X : Stand p l e R s m args below meth c T locs cells slots) (hx : p.tables.exec = Jvm.exec) {pc : Nat} {Ls : Array Slot} {z : Int32} {rest : List Value} (hret : meth.sig.returnType = some .int) (hd : decode c.code pc = .ok (.ireturn, 1)) {fs : List Frame}
    (hl : ∀ (f : JFrame) (acts : List Action), f.method = m → f.locked = none → f.entered = [] → (doReturn e (T.setTop f) acts (some (.int z))).1 = T.setFrames fs) : Steps p.tables e below (T.setTop (mkF m pc Ls (.int z :: rest))) (T.setFrames fs) :=
  retOut X hx hret rfl (Or.inl ⟨rfl, Or.inl rfl, _, rfl⟩) hd hl
theorem own_retJ (X : Stand p l e R s m args below meth c T locs cells slots) (hx : p.tables.exec = Jvm.exec) {pc : Nat} {Ls : Array Slot} {z : Int64} {rest : List Value} (hret : meth.sig.returnType = some .long) (hd : decode c.code pc = .ok (.lreturn, 1)) {fs : List Frame}
    (hl : ∀ (f : JFrame) (acts : List Action), f.method = m → f.locked = none → f.entered = [] → (doReturn e (T.setTop f) acts (some (.long z))).1 = T.setFrames fs) : Steps p.tables e below (T.setTop (mkF m pc Ls (.long z :: rest))) (T.setFrames fs) :=
  retOut X hx hret rfl (Or.inr (Or.inl ⟨rfl, rfl, _, rfl⟩)) hd hl
theorem own_retR (X : Stand p l e R s m args below meth c T locs cells slots) (hx : p.tables.exec = Jvm.exec) {pc : Nat} {Ls : Array Slot} {w : Value} {t : FieldType} {rest : List Value} (hret : meth.sig.returnType = some t) (ht : t.isReference = true) (hw : w.isRef = true) (hd : decode c.code pc = .ok (.areturn, 1)) {fs : List Frame}
    (hl : ∀ (f : JFrame) (acts : List Action), f.method = m → f.locked = none → f.entered = [] → (doReturn e (T.setTop f) acts (some w)).1 = T.setFrames fs) : Steps p.tables e below (T.setTop (mkF m pc Ls (w :: rest))) (T.setFrames fs) :=
  retOut X hx hret (by cases t <;> simp [FieldType.isReference] at ht <;> cases w <;> simp [Value.isRef] at hw <;> rfl) (Or.inr (Or.inr (Or.inr (Or.inr ⟨rfl, ht, hw⟩)))) hd hl
theorem own_stakeep {h' : Heap} {O n d : String} {v : Value} (F : Sta Z h O n d v) (K : Keep h h' []) : Sta Z h' O n d v := by
  obtain ⟨cf, i, k, f, st, cell, h1, h2, h3, h4, h5, r⟩ := F
  exact ⟨cf, i, k, f, st, cell, h1, h2, h3, h4, K.2.1 _ _ h5 nin0, r⟩
end Own

theorem d2_0 : decode jdk_30_method_1_code 0 = .ok (.aload_n 0, 1) := by decide +kernel
theorem d2_1 : decode jdk_30_method_1_code 1 = .ok (.invokespecial 1, 3) := by decide +kernel
theorem d2_4 : decode jdk_30_method_1_code 4 = .ok (.return_, 1) := by decide +kernel
theorem pn_2 : plainFor (⟨"java/lang/Record", "<init>", "()V"⟩ : MethodName) = true := plainFor_of_name (by first | (simp [plainName, overriddenIn]; done) | decide +kernel)
theorem ef_2 (m : MethodId) (a1 : Addr) : entryFrame m #[(.ref a1)] 1 = mkF m 0 #[.val (.ref a1)] [] := by first | (simp [entryFrame, mkF, argsToLocals, Value.category]; done) | rfl
set_option maxRecDepth 65536 in
set_option maxHeartbeats 40000000 in
theorem rm2 (l : Launch) (Z : State) (a0 : Array Value) (hw : ∀ d ∈ tables_1, d.before a0 Z = true) (ws : List Jvm.Cond) (a1 : Addr) (h0 : Heap) (n0 : Nat) (Z0 : n0 ≤ h0.size) :
    OwnCtr l Z (⟨"java/lang/Record", "<init>", "()V"⟩ : MethodName) ws jdk_30_method_1_code 1 none ({ frames := 1, cells := 0, slots := 0, locals := 12 } : Room) #[(.ref a1)] h0 (fun v h L => v = none ∧ Fr n0 L ∧ h = h0) := by
  refine own_body (g0 := fun m => mkF m 0 #[.val (.ref a1)] []) pn_2 (fun m => ef_2 m a1) ?_
  intro p e s m below meth c s₁ X0 hx hby hml hown hnm hZ e0 hret hlk
  have hml : c.maxLocals = 1 := hml
  have hown : s.vm.findClass "java/lang/Record" = some m.cls := hown
  have hnm : meth.name = "<init>" := hnm
  have hret : meth.sig.returnType = none := hret
  have N0 := Fr.nil n0
  show OwnFin p e below s _ _ _ (s₁.setTop (mkF m 0 #[.val (.ref a1)] []))
  refine own_go (fun t k => XS.aloadN X0.here hx rfl (hb hby d2_0) rfl rfl k) ?_
  show OwnFin p e below s _ _ _ (s₁.setTop (mkF m 1 #[.val (.ref a1)] [(.ref a1)]))
  obtain ⟨T1, X1, e1, st1⟩ := initO X0 hx hZ hown (hw _ (List.mem_of_getElem? (i := 11) rfl)) (hw _ (List.mem_of_getElem? (i := 12) rfl)) (hw _ (List.mem_of_getElem? (i := 13) rfl)) e0 (g := (mkF m 1 #[.val (.ref a1)] [(.ref a1)])) rfl (by rw [hml]; rfl) rfl (hb hby d2_1) (by decide) (W := 0) (by show 2 * 0 + _ ≤ _; exact Nat.le_of_eq rfl) (by decide)
  refine own_go st1 ?_
  show OwnFin p e below s _ _ _ (T1.setTop (mkF m 4 #[.val (.ref a1)] []))
  refine own_ret X1 (v := none) hlk (fun _ => rfl) (fun fs hr => X1.returnOut hx hret (hb hby d2_4) hr) (by decide) (by decide) ?_
  rw [e1]
  exact ⟨rfl, N0, rfl⟩
theorem d1_0 : decode prog_10_method_1_code 0 = .ok (.aload_n 0, 1) := by decide +kernel
theorem d1_1 : decode prog_10_method_1_code 1 = .ok (.invokespecial 1, 3) := by decide +kernel
theorem d1_4 : decode prog_10_method_1_code 4 = .ok (.aload_n 0, 1) := by decide +kernel
theorem d1_5 : decode prog_10_method_1_code 5 = .ok (.iload_n 1, 1) := by decide +kernel
theorem d1_6 : decode prog_10_method_1_code 6 = .ok (.putfield 7, 3) := by decide +kernel
theorem d1_9 : decode prog_10_method_1_code 9 = .ok (.aload_n 0, 1) := by decide +kernel
theorem d1_10 : decode prog_10_method_1_code 10 = .ok (.iload_n 2, 1) := by decide +kernel
theorem d1_11 : decode prog_10_method_1_code 11 = .ok (.putfield 13, 3) := by decide +kernel
theorem d1_14 : decode prog_10_method_1_code 14 = .ok (.aload_n 0, 1) := by decide +kernel
theorem d1_15 : decode prog_10_method_1_code 15 = .ok (.lload_n 3, 1) := by decide +kernel
theorem d1_16 : decode prog_10_method_1_code 16 = .ok (.putfield 16, 3) := by decide +kernel
theorem d1_19 : decode prog_10_method_1_code 19 = .ok (.return_, 1) := by decide +kernel
theorem pn_1 : plainFor (⟨"com/example/bytefold/bytefold/LengthPrefixForm$Tier", "<init>", "(IIJ)V"⟩ : MethodName) = true := plainFor_of_name (by first | (simp [plainName, overriddenIn]; done) | decide +kernel)
theorem pd_1_1 : parseMethodDescriptor "()V" = some ⟨[], none⟩ := by decide +kernel
theorem ef_1 (m : MethodId) (a1 : Addr) (p2 : Int32) (p3 : Int32) (q4 : Int64) : entryFrame m #[(.ref a1), (.int p2), (.int p3), (.long q4)] 5 = mkF m 0 #[.val (.ref a1), .val (.int p2), .val (.int p3), .val (.long q4), .second] [] := by first | (simp [entryFrame, mkF, argsToLocals, Value.category]; done) | rfl
set_option maxRecDepth 65536 in
set_option maxHeartbeats 40000000 in
theorem rm1 (l : Launch) (Z : State) (a0 : Array Value) (hw : ∀ d ∈ tables_1, d.before a0 Z = true) (ws : List Jvm.Cond) (a1 : Addr) (p2 : Int32) (p3 : Int32) (q4 : Int64) {u_prefix : Value} {u_length : Value} {u_largest : Value} (h0 : Heap) (n0 : Nat) (Z0 : n0 ≤ h0.size) (E_a1 : Exa Z h0 a1 "com/example/bytefold/bytefold/LengthPrefixForm$Tier") (g_a1 : n0 ≤ a1) (F_prefix_a1 : Fld Z h0 a1 "com/example/bytefold/bytefold/LengthPrefixForm$Tier" "prefix" "I" u_prefix) (F_length_a1 : Fld Z h0 a1 "com/example/bytefold/bytefold/LengthPrefixForm$Tier" "length" "I" u_length) (F_largest_a1 : Fld Z h0 a1 "com/example/bytefold/bytefold/LengthPrefixForm$Tier" "largest" "J" u_largest) :
    OwnCtr l Z (⟨"com/example/bytefold/bytefold/LengthPrefixForm$Tier", "<init>", "(IIJ)V"⟩ : MethodName) ws prog_10_method_1_code 5 none ({ frames := 2, cells := 0, slots := 0, locals := 24 } : Room) #[(.ref a1), (.int p2), (.int p3), (.long q4)] h0 (fun v h L => v = none ∧ Fr n0 L ∧ Keep h0 h [a1] ∧ Exa Z h a1 "com/example/bytefold/bytefold/LengthPrefixForm$Tier" ∧ Fld Z h a1 "com/example/bytefold/bytefold/LengthPrefixForm$Tier" "prefix" "I" (.int p2) ∧ Fld Z h a1 "com/example/bytefold/bytefold/LengthPrefixForm$Tier" "length" "I" (.int p3) ∧ Fld Z h a1 "com/example/bytefold/bytefold/LengthPrefixForm$Tier" "largest" "J" (.long q4)) := by
  refine own_body (g0 := fun m => mkF m 0 #[.val (.ref a1), .val (.int p2), .val (.int p3), .val (.long q4), .second] []) pn_1 (fun m => ef_1 m a1 p2 p3 q4) ?_
  intro p e s m below meth c s₁ X0 hx hby hml hown hnm hZ e0 hret hlk
  have hml : c.maxLocals = 5 := hml
  have hown : s.vm.findClass "com/example/bytefold/bytefold/LengthPrefixForm$Tier" = some m.cls := hown
  have hnm : meth.name = "<init>" := hnm
  have hret : meth.sig.returnType = none := hret
  have N0 := Fr.nil n0
  have K0 := Keep.refl h0 [a1]
  show OwnFin p e below s _ _ _ (s₁.setTop (mkF m 0 #[.val (.ref a1), .val (.int p2), .val (.int p3), .val (.long q4), .second] []))
  refine own_go (fun t k => XS.aloadN X0.here hx rfl (hb hby d1_0) rfl rfl k) ?_
  show OwnFin p e below s _ _ _ (s₁.setTop (mkF m 1 #[.val (.ref a1), .val (.int p2), .val (.int p3), .val (.long q4), .second] [(.ref a1)]))
  obtain ⟨v1, T1, L1, X1, hQ1, st1⟩ := own_callI X0 hx hZ (y := (⟨"java/lang/Record", "<init>", "()V"⟩ : MethodName)) rfl hown (hw _ (List.mem_of_getElem? (i := 6) rfl)) (hw _ (List.mem_of_getElem? (i := 7) rfl)) (hw _ (List.mem_of_getElem? (i := 9) rfl)) (hw _ (List.mem_of_getElem? (i := 10) rfl)) (by decide) (W := 0) (rm2 l Z a0 hw [] a1 h0 n0 Z0) (by decide) (by decide) (g := (mkF m 1 #[.val (.ref a1), .val (.int p2), .val (.int p3), .val (.long q4), .second] [(.ref a1)])) rfl (by rw [hml]; rfl) (a := a1) (argsL := []) (rest := []) (lenOf pd_1_1 rfl) rfl (by show 2 * 0 + _ ≤ _; exact Nat.le_of_eq rfl) (hb hby d1_1) e0 rfl (by decide) (by decide)
  obtain ⟨rfl, Nq1, e1⟩ := hQ1
  have N1 := Fr.app N0 Nq1
  refine own_go st1 ?_
  show OwnFin p e below s _ _ _ (T1.setTop (mkF m 4 #[.val (.ref a1), .val (.int p2), .val (.int p3), .val (.long q4), .second] []))
  refine own_go (fun t k => XS.aloadN X1.here hx rfl (hb hby d1_4) rfl rfl k) ?_
  show OwnFin p e below s _ _ _ (T1.setTop (mkF m 5 #[.val (.ref a1), .val (.int p2), .val (.int p3), .val (.long q4), .second] [(.ref a1)]))
  refine own_go (fun t k => XS.iloadN X1.here hx rfl (hb hby d1_5) rfl k) ?_
  show OwnFin p e below s _ _ _ (T1.setTop (mkF m 6 #[.val (.ref a1), .val (.int p2), .val (.int p3), .val (.long q4), .second] [(.int p2), (.ref a1)]))
  obtain ⟨T2, h2, X2, e2, W2, st2⟩ := putF X1 hx hZ hown (host := "") (Or.inl (hw _ (List.mem_of_getElem? (i := 14) rfl))) Via.refl e1 F_prefix_a1 E_a1 (Or.inr ⟨(hw _ (List.mem_of_getElem? (i := 15) rfl)), rfl, hnm⟩) (hw _ (List.mem_of_getElem? (i := 1) rfl)) (ty := .int) (by decide) rfl rfl (g := (mkF m 6 #[.val (.ref a1), .val (.int p2), .val (.int p3), .val (.long q4), .second] [(.int p2), (.ref a1)])) rfl rfl (hb hby d1_6)
  have E_a1_2 := E_a1.wr W2
  have F_prefix_a1_2 := F_prefix_a1.same W2
  have F_length_a1_2 := F_length_a1.other W2 (Or.inr (slot_ne (Or.inr (hw _ (List.mem_of_getElem? (i := 17) rfl))) (Or.inr (hw _ (List.mem_of_getElem? (i := 15) rfl))) (by decide) (t := .int) (t' := .int) (by decide) (by decide)))
  have F_largest_a1_2 := F_largest_a1.other W2 (Or.inr (slot_ne (Or.inr (hw _ (List.mem_of_getElem? (i := 19) rfl))) (Or.inr (hw _ (List.mem_of_getElem? (i := 15) rfl))) (by decide) (t := .long) (t' := .int) (by decide) (by decide)))
  have Z2 : n0 ≤ h2.size := Nat.le_trans Z0 (Keep.of_wr W2).1
  have K2 : Keep h0 h2 [a1] := K0.wr W2 (Or.inl (List.mem_of_getElem? (i := 0) rfl))
  have N2 := Fr.snoc X2 N1 g_a1
  refine own_go st2 ?_
  show OwnFin p e below s _ _ _ (T2.setTop (mkF m 9 #[.val (.ref a1), .val (.int p2), .val (.int p3), .val (.long q4), .second] []))
  refine own_go (fun t k => XS.aloadN X2.here hx rfl (hb hby d1_9) rfl rfl k) ?_
  show OwnFin p e below s _ _ _ (T2.setTop (mkF m 10 #[.val (.ref a1), .val (.int p2), .val (.int p3), .val (.long q4), .second] [(.ref a1)]))
  refine own_go (fun t k => XS.iloadN X2.here hx rfl (hb hby d1_10) rfl k) ?_
  show OwnFin p e below s _ _ _ (T2.setTop (mkF m 11 #[.val (.ref a1), .val (.int p2), .val (.int p3), .val (.long q4), .second] [(.int p3), (.ref a1)]))
  obtain ⟨T3, h3, X3, e3, W3, st3⟩ := putF X2 hx hZ hown (host := "") (Or.inl (hw _ (List.mem_of_getElem? (i := 16) rfl))) Via.refl e2 F_length_a1_2 E_a1_2 (Or.inr ⟨(hw _ (List.mem_of_getElem? (i := 17) rfl)), rfl, hnm⟩) (hw _ (List.mem_of_getElem? (i := 1) rfl)) (ty := .int) (by decide) rfl rfl (g := (mkF m 11 #[.val (.ref a1), .val (.int p2), .val (.int p3), .val (.long q4), .second] [(.int p3), (.ref a1)])) rfl rfl (hb hby d1_11)
  have E_a1_3 := E_a1_2.wr W3
  have F_prefix_a1_3 := F_prefix_a1_2.other W3 (Or.inr (slot_ne (Or.inr (hw _ (List.mem_of_getElem? (i := 15) rfl))) (Or.inr (hw _ (List.mem_of_getElem? (i := 17) rfl))) (by decide) (t := .int) (t' := .int) (by decide) (by decide)))
  have F_length_a1_3 := F_length_a1_2.same W3
  have F_largest_a1_3 := F_largest_a1_2.other W3 (Or.inr (slot_ne (Or.inr (hw _ (List.mem_of_getElem? (i := 19) rfl))) (Or.inr (hw _ (List.mem_of_getElem? (i := 17) rfl))) (by decide) (t := .long) (t' := .int) (by decide) (by decide)))
  have Z3 : n0 ≤ h3.size := Nat.le_trans Z2 (Keep.of_wr W3).1
  have K3 : Keep h0 h3 [a1] := K2.wr W3 (Or.inl (List.mem_of_getElem? (i := 0) rfl))
  have N3 := Fr.snoc X3 N2 g_a1
  refine own_go st3 ?_
  show OwnFin p e below s _ _ _ (T3.setTop (mkF m 14 #[.val (.ref a1), .val (.int p2), .val (.int p3), .val (.long q4), .second] []))
  refine own_go (fun t k => XS.aloadN X3.here hx rfl (hb hby d1_14) rfl rfl k) ?_
  show OwnFin p e below s _ _ _ (T3.setTop (mkF m 15 #[.val (.ref a1), .val (.int p2), .val (.int p3), .val (.long q4), .second] [(.ref a1)]))
  refine own_go (fun t k => XS.lloadN X3.here hx rfl (hb hby d1_15) rfl k) ?_
  show OwnFin p e below s _ _ _ (T3.setTop (mkF m 16 #[.val (.ref a1), .val (.int p2), .val (.int p3), .val (.long q4), .second] [(.long q4), (.ref a1)]))
  obtain ⟨T4, h4, X4, e4, W4, st4⟩ := putF X3 hx hZ hown (host := "") (Or.inl (hw _ (List.mem_of_getElem? (i := 18) rfl))) Via.refl e3 F_largest_a1_3 E_a1_3 (Or.inr ⟨(hw _ (List.mem_of_getElem? (i := 19) rfl)), rfl, hnm⟩) (hw _ (List.mem_of_getElem? (i := 1) rfl)) (ty := .long) (by decide) rfl rfl (g := (mkF m 16 #[.val (.ref a1), .val (.int p2), .val (.int p3), .val (.long q4), .second] [(.long q4), (.ref a1)])) rfl rfl (hb hby d1_16)
  have E_a1_4 := E_a1_3.wr W4
  have F_prefix_a1_4 := F_prefix_a1_3.other W4 (Or.inr (slot_ne (Or.inr (hw _ (List.mem_of_getElem? (i := 15) rfl))) (Or.inr (hw _ (List.mem_of_getElem? (i := 19) rfl))) (by decide) (t := .int) (t' := .long) (by decide) (by decide)))
  have F_length_a1_4 := F_length_a1_3.other W4 (Or.inr (slot_ne (Or.inr (hw _ (List.mem_of_getElem? (i := 17) rfl))) (Or.inr (hw _ (List.mem_of_getElem? (i := 19) rfl))) (by decide) (t := .int) (t' := .long) (by decide) (by decide)))
  have F_largest_a1_4 := F_largest_a1_3.same W4
  have Z4 : n0 ≤ h4.size := Nat.le_trans Z3 (Keep.of_wr W4).1
  have K4 : Keep h0 h4 [a1] := K3.wr W4 (Or.inl (List.mem_of_getElem? (i := 0) rfl))
  have N4 := Fr.snoc X4 N3 g_a1
  refine own_go st4 ?_
  show OwnFin p e below s _ _ _ (T4.setTop (mkF m 19 #[.val (.ref a1), .val (.int p2), .val (.int p3), .val (.long q4), .second] []))
  refine own_ret X4 (v := none) hlk (fun _ => rfl) (fun fs hr => X4.returnOut hx hret (hb hby d1_19) hr) (by decide) (by decide) ?_
  rw [e4]
  exact ⟨rfl, N4, K4, E_a1_4, F_prefix_a1_4, F_length_a1_4, F_largest_a1_4⟩
def own_lead (p n : Int32) (g : Int64) : Int32 := p ||| ((g.toUInt64 >>> (((8 : Int32) * (n - (1 : Int32))) &&& 0x3f).toInt64.toUInt64).toInt64).toInt32
theorem d4_0 : decode prog_10_method_2_code 0 = .ok (.aload_n 0, 1) := by decide +kernel
theorem d4_1 : decode prog_10_method_2_code 1 = .ok (.getfield 7, 3) := by decide +kernel
theorem d4_4 : decode prog_10_method_2_code 4 = .ok (.aload_n 0, 1) := by decide +kernel
theorem d4_5 : decode prog_10_method_2_code 5 = .ok (.getfield 16, 3) := by decide +kernel
theorem d4_8 : decode prog_10_method_2_code 8 = .ok (.bipush 8, 2) := by decide +kernel
theorem d4_10 : decode prog_10_method_2_code 10 = .ok (.aload_n 0, 1) := by decide +kernel
theorem d4_11 : decode prog_10_method_2_code 11 = .ok (.getfield 13, 3) := by decide +kernel
theorem d4_14 : decode prog_10_method_2_code 14 = .ok (.iconst 1, 1) := by decide +kernel
theorem d4_15 : decode prog_10_method_2_code 15 = .ok (.isub, 1) := by decide +kernel
theorem d4_16 : decode prog_10_method_2_code 16 = .ok (.imul, 1) := by decide +kernel
theorem d4_17 : decode prog_10_method_2_code 17 = .ok (.lushr, 1) := by decide +kernel
theorem d4_18 : decode prog_10_method_2_code 18 = .ok (.l2i, 1) := by decide +kernel
theorem d4_19 : decode prog_10_method_2_code 19 = .ok (.ior, 1) := by decide +kernel
theorem d4_20 : decode prog_10_method_2_code 20 = .ok (.ireturn, 1) := by decide +kernel
theorem pn_4 : plainFor (⟨"com/example/bytefold/bytefold/LengthPrefixForm$Tier", "lastLead", "()I"⟩ : MethodName) = true := plainFor_of_name (by first | (simp [plainName, overriddenIn]; done) | decide +kernel)
theorem ef_4 (m : MethodId) (a1 : Addr) : entryFrame m #[(.ref a1)] 1 = mkF m 0 #[.val (.ref a1)] [] := by first | (simp [entryFrame, mkF, argsToLocals, Value.category]; done) | rfl
set_option maxRecDepth 65536 in
set_option maxHeartbeats 40000000 in
theorem rm4 (l : Launch) (Z : State) (a0 : Array Value) (hw : ∀ d ∈ tables_1, d.before a0 Z = true) (ws : List Jvm.Cond) (a1 : Addr) {w1 : Int32} {w2 : Int32} {w3 : Int64} (h0 : Heap) (n0 : Nat) (Z0 : n0 ≤ h0.size) (F_prefix : Fld Z h0 a1 "com/example/bytefold/bytefold/LengthPrefixForm$Tier" "prefix" "I" (.int w1)) (F_length : Fld Z h0 a1 "com/example/bytefold/bytefold/LengthPrefixForm$Tier" "length" "I" (.int w2)) (F_largest : Fld Z h0 a1 "com/example/bytefold/bytefold/LengthPrefixForm$Tier" "largest" "J" (.long w3)) :
    OwnCtr l Z (⟨"com/example/bytefold/bytefold/LengthPrefixForm$Tier", "lastLead", "()I"⟩ : MethodName) ws prog_10_method_2_code 1 (some .int) ({ frames := 0, cells := 0, slots := 0, locals := 0 } : Room) #[(.ref a1)] h0 (fun v h L => v = some (.int (own_lead w1 w2 w3)) ∧ Fr n0 L ∧ h = h0) := by
  refine own_body (g0 := fun m => mkF m 0 #[.val (.ref a1)] []) pn_4 (fun m => ef_4 m a1) ?_
  intro p e s m below meth c s₁ X0 hx hby hml hown hnm hZ e0 hret hlk
  have hml : c.maxLocals = 1 := hml
  have hown : s.vm.findClass "com/example/bytefold/bytefold/LengthPrefixForm$Tier" = some m.cls := hown
  have hnm : meth.name = "lastLead" := hnm
  have hret : meth.sig.returnType = (some .int) := hret
  have N0 := Fr.nil n0
  show OwnFin p e below s _ _ _ (s₁.setTop (mkF m 0 #[.val (.ref a1)] []))
  refine own_go (fun t k => XS.aloadN X0.here hx rfl (hb hby d4_0) rfl rfl k) ?_
  show OwnFin p e below s _ _ _ (s₁.setTop (mkF m 1 #[.val (.ref a1)] [(.ref a1)]))
  obtain ⟨T1, X1, e1, st1⟩ := getF X0 hx hZ hown (host := "") (Or.inl (hw _ (List.mem_of_getElem? (i := 14) rfl))) Via.refl e0 F_prefix (g := (mkF m 1 #[.val (.ref a1)] [(.ref a1)])) rfl rfl (hb hby d4_1)
  refine own_go st1 ?_
  show OwnFin p e below s _ _ _ (T1.setTop (mkF m 4 #[.val (.ref a1)] [(.int w1)]))
  refine own_go (fun t k => XS.aloadN X1.here hx rfl (hb hby d4_4) rfl rfl k) ?_
  show OwnFin p e below s _ _ _ (T1.setTop (mkF m 5 #[.val (.ref a1)] [(.ref a1), (.int w1)]))
  obtain ⟨T2, X2, e2, st2⟩ := getF X1 hx hZ hown (host := "") (Or.inl (hw _ (List.mem_of_getElem? (i := 18) rfl))) Via.refl e1 F_largest (g := (mkF m 5 #[.val (.ref a1)] [(.ref a1), (.int w1)])) rfl rfl (hb hby d4_5)
  refine own_go st2 ?_
  show OwnFin p e below s _ _ _ (T2.setTop (mkF m 8 #[.val (.ref a1)] [(.long w3), (.int w1)]))
  refine own_go (fun t k => XS.bipush X2.here hx rfl (hb hby d4_8) k) ?_
  show OwnFin p e below s _ _ _ (T2.setTop (mkF m 10 #[.val (.ref a1)] [(.int (8 : Int32)), (.long w3), (.int w1)]))
  refine own_go (fun t k => XS.aloadN X2.here hx rfl (hb hby d4_10) rfl rfl k) ?_
  show OwnFin p e below s _ _ _ (T2.setTop (mkF m 11 #[.val (.ref a1)] [(.ref a1), (.int (8 : Int32)), (.long w3), (.int w1)]))
  obtain ⟨T3, X3, e3, st3⟩ := getF X2 hx hZ hown (host := "") (Or.inl (hw _ (List.mem_of_getElem? (i := 16) rfl))) Via.refl e2 F_length (g := (mkF m 11 #[.val (.ref a1)] [(.ref a1), (.int (8 : Int32)), (.long w3), (.int w1)])) rfl rfl (hb hby d4_11)
  refine own_go st3 ?_
  show OwnFin p e below s _ _ _ (T3.setTop (mkF m 14 #[.val (.ref a1)] [(.int w2), (.int (8 : Int32)), (.long w3), (.int w1)]))
  refine own_go (fun t k => XS.iconst X3.here hx rfl (hb hby d4_14) k) ?_
  show OwnFin p e below s _ _ _ (T3.setTop (mkF m 15 #[.val (.ref a1)] [(.int (1 : Int32)), (.int w2), (.int (8 : Int32)), (.long w3), (.int w1)]))
  refine own_go (fun t k => XS.isub X3.here hx rfl (hb hby d4_15) rfl k) ?_
  show OwnFin p e below s _ _ _ (T3.setTop (mkF m 16 #[.val (.ref a1)] [(.int (w2 - (1 : Int32))), (.int (8 : Int32)), (.long w3), (.int w1)]))
  refine own_go (fun t k => XS.imul X3.here hx rfl (hb hby d4_16) rfl k) ?_
  show OwnFin p e below s _ _ _ (T3.setTop (mkF m 17 #[.val (.ref a1)] [(.int ((8 : Int32) * (w2 - (1 : Int32)))), (.long w3), (.int w1)]))
  refine own_go (fun t k => XS.lushr X3.here hx rfl (hb hby d4_17) rfl k) ?_
  show OwnFin p e below s _ _ _ (T3.setTop (mkF m 18 #[.val (.ref a1)] [(.long ((w3.toUInt64 >>> (((8 : Int32) * (w2 - (1 : Int32))) &&& 0x3f).toInt64.toUInt64).toInt64)), (.int w1)]))
  refine own_go (fun t k => XS.l2i X3.here hx rfl (hb hby d4_18) rfl k) ?_
  show OwnFin p e below s _ _ _ (T3.setTop (mkF m 19 #[.val (.ref a1)] [(.int (((w3.toUInt64 >>> (((8 : Int32) * (w2 - (1 : Int32))) &&& 0x3f).toInt64.toUInt64).toInt64).toInt32)), (.int w1)]))
  refine own_go (fun t k => XS.ior X3.here hx rfl (hb hby d4_19) rfl k) ?_
  show OwnFin p e below s _ _ _ (T3.setTop (mkF m 20 #[.val (.ref a1)] [(.int (w1 ||| (((w3.toUInt64 >>> (((8 : Int32) * (w2 - (1 : Int32))) &&& 0x3f).toInt64.toUInt64).toInt64).toInt32)))]))
  refine own_ret X3 (v := some (.int (w1 ||| (((w3.toUInt64 >>> (((8 : Int32) * (w2 - (1 : Int32))) &&& 0x3f).toInt64.toUInt64).toInt64).toInt32)))) hlk (fun hh => by rw [hret] at hh; cases hh) (fun fs hr => own_retI X3 hx hret (hb hby d4_20) hr) (by decide) (by decide) ?_
  rw [e3]
  exact ⟨rfl, N0, rfl⟩
theorem own_core (t : Int32) (rest pow : Int64) (sh : UInt64) {k : Nat} (hk : k ≤ 56) (hp : pow.toInt = 2 ^ k) (hm : (pow - 1).toBitVec.toNat = 2 ^ k - 1) (hs : sh.toNat = k) (h0 : 0 ≤ t.toInt) (h1 : (t.toInt + 1) * 2 ^ k ≤ 2 ^ 63) :
    (((t.toInt64 * pow + (rest &&& (pow - 1))).toUInt64 >>> sh).toInt64).toInt32 = t := by
  have hr := Jvm.Kit.i64_mask rest (pow - 1) (k := k) (by omega) hm
  have hP : (0 : Int) < 2 ^ k := Int.pow_pos (by decide)
  have rt := rng32 t
  have hlu := fun (x : Int64) (hx : 0 ≤ x) => Jvm.Kit.i64_lushr (x := x) hx (n := sh) (k := k) hs (by omega)
  generalize (2 : Int) ^ k = P at *
  have hr0 : 0 ≤ (rest &&& (pow - 1)).toInt := by rw [hr]; exact Int.emod_nonneg _ (by omega)
  have hr1 : (rest &&& (pow - 1)).toInt < P := by rw [hr]; exact Int.emod_lt_of_pos _ hP
  generalize (rest &&& (pow - 1)) = r at *
  have hq : 0 ≤ t.toInt * P := Int.mul_nonneg h0 (by omega)
  have hq1 : t.toInt * P + P ≤ 2 ^ 63 := by
    have h := h1
    rw [Int.add_mul, Int.one_mul] at h
    exact h
  have e1 : t.toInt64.toInt * pow.toInt = t.toInt * P := by rw [Int32.toInt_toInt64, hp]
  have hmul : (t.toInt64 * pow).toInt = t.toInt * P := by
    rw [Jvm.Kit.i64_mul (by rw [e1]; omega) (by rw [e1]; omega), e1]
  have hadd : (t.toInt64 * pow + r).toInt = t.toInt * P + r.toInt := by
    rw [Jvm.Kit.i64_add (by rw [hmul]; omega) (by rw [hmul]; omega), hmul]
  have hl := hlu (t.toInt64 * pow + r) (by rw [Jvm.Kit.i64_nonneg, hadd]; omega)
  have hd : (t.toInt * P + r.toInt) / P = t.toInt := by
    rw [Int.add_comm, Int.add_mul_ediv_right _ _ (by omega), Int.ediv_eq_zero_of_lt hr0 hr1, Int.zero_add]
  rw [hadd, hd] at hl
  apply Int32.toInt_inj.mp
  rw [Jvm.Kit.i32_of_i64 (by rw [hl]; omega) (by rw [hl]; omega), hl]
theorem own_lead_ok8 (pp top : Int32) (rest : Int64) {n : Int32} (hn : n = (8 : Int32)) :
    (own_lead (pp &&& (255 : Int32)) n (((((top &&& (255 : Int32)) &&& (127 : Int32)).toInt64) * ((1 : Int64) <<< (((8 : Int32) * (n - (1 : Int32))) &&& 0x3f).toInt64)) + (rest &&& (((1 : Int64) <<< (((8 : Int32) * (n - (1 : Int32))) &&& 0x3f).toInt64) - (1 : Int64))))) = ((pp &&& (255 : Int32)) ||| ((top &&& (255 : Int32)) &&& (127 : Int32))) := by
  subst hn
  have ht := c_mask (top &&& 255) 127 7 (by decide) (by decide)
  generalize ((top &&& (255 : Int32)) &&& (127 : Int32)) = t at *
  exact congrArg (fun z => (pp &&& (255 : Int32)) ||| z) (own_core t rest _ _ (k := 56) (by decide) (by decide +kernel) (by decide +kernel) (by decide +kernel) (by omega) (by omega))
theorem own_lead_ok7 (pp top len : Int32) (rest : Int64) {n : Int32} (h_n : ((len &&& (7 : Int32)) + (1 : Int32)) = n) (hn : ¬ n = (8 : Int32)) :
    (own_lead (pp &&& (255 : Int32)) n ((((top &&& (255 : Int32)).toInt64) * ((1 : Int64) <<< (((8 : Int32) * (n - (1 : Int32))) &&& 0x3f).toInt64)) + (rest &&& (((1 : Int64) <<< (((8 : Int32) * (n - (1 : Int32))) &&& 0x3f).toInt64) - (1 : Int64))))) = ((pp &&& (255 : Int32)) ||| (top &&& (255 : Int32))) := by
  have ht := c_mask top 255 8 (by decide) (by decide)
  have hl := c_mask len 7 3 (by decide) (by decide)
  have ha := c_iadd (len &&& 7) 1
  have e1 : (1 : Int32).toInt = 1 := by decide
  have e8 : (8 : Int32).toInt = 8 := by decide
  have rn := rng32 n
  rw [← Int32.toInt_inj, e8] at hn
  rw [h_n] at ha
  have hc : n.toInt = 1 ∨ n.toInt = 2 ∨ n.toInt = 3 ∨ n.toInt = 4 ∨ n.toInt = 5 ∨ n.toInt = 6 ∨ n.toInt = 7 := by omega
  generalize (top &&& (255 : Int32)) = t at *
  clear ha h_n hl
  rcases hc with h | h | h | h | h | h | h
  · obtain rfl : n = 1 := Int32.toInt_inj.mp h
    exact congrArg (fun z => (pp &&& (255 : Int32)) ||| z) (own_core t rest _ _ (k := 0) (by decide) (by decide +kernel) (by decide +kernel) (by decide +kernel) (by omega) (by omega))
  · obtain rfl : n = 2 := Int32.toInt_inj.mp h
    exact congrArg (fun z => (pp &&& (255 : Int32)) ||| z) (own_core t rest _ _ (k := 8) (by decide) (by decide +kernel) (by decide +kernel) (by decide +kernel) (by omega) (by omega))
  · obtain rfl : n = 3 := Int32.toInt_inj.mp h
    exact congrArg (fun z => (pp &&& (255 : Int32)) ||| z) (own_core t rest _ _ (k := 16) (by decide) (by decide +kernel) (by decide +kernel) (by decide +kernel) (by omega) (by omega))
  · obtain rfl : n = 4 := Int32.toInt_inj.mp h
    exact congrArg (fun z => (pp &&& (255 : Int32)) ||| z) (own_core t rest _ _ (k := 24) (by decide) (by decide +kernel) (by decide +kernel) (by decide +kernel) (by omega) (by omega))
  · obtain rfl : n = 5 := Int32.toInt_inj.mp h
    exact congrArg (fun z => (pp &&& (255 : Int32)) ||| z) (own_core t rest _ _ (k := 32) (by decide) (by decide +kernel) (by decide +kernel) (by decide +kernel) (by omega) (by omega))
  · obtain rfl : n = 6 := Int32.toInt_inj.mp h
    exact congrArg (fun z => (pp &&& (255 : Int32)) ||| z) (own_core t rest _ _ (k := 40) (by decide) (by decide +kernel) (by decide +kernel) (by decide +kernel) (by omega) (by omega))
  · obtain rfl : n = 7 := Int32.toInt_inj.mp h
    exact congrArg (fun z => (pp &&& (255 : Int32)) ||| z) (own_core t rest _ _ (k := 48) (by decide) (by decide +kernel) (by decide +kernel) (by decide +kernel) (by omega) (by omega))

theorem pn_0 : plainFor (⟨"com/example/bytefold/bytefold/TierLastLeadPinLaw", "law", "(IIIJ)Z"⟩ : MethodName) = true := plainFor_of_name (by first | (simp [plainName, overriddenIn]; done) | decide +kernel)
theorem pd_0_0 : parseMethodDescriptor "(IIJ)V" = some ⟨[.int, .int, .long], none⟩ := by decide +kernel
theorem pd_0_2 : parseMethodDescriptor "()I" = some ⟨[], some .int⟩ := by decide +kernel
theorem ef_0 (m : MethodId) (pp : Int32) (top : Int32) (len : Int32) (rest : Int64) : entryFrame m #[(.int pp), (.int top), (.int len), (.long rest)] maxLocals = mkF m 0 #[.val (.int pp), .val (.int top), .val (.int len), .val (.long rest), .second, .unset, .unset, .unset, .unset, .unset, .unset, .unset, .unset, .unset, .unset, .unset] [] := by first | (simp [entryFrame, mkF, argsToLocals, Value.category, maxLocals]; done) | rfl
set_option maxRecDepth 65536 in
set_option maxHeartbeats 40000000 in
theorem rm0 (l : Launch) (Z : State) (a0 : Array Value) (hw : ∀ d ∈ tables_1, d.before a0 Z = true) (ws : List Jvm.Cond) (pp : Int32) (top : Int32) (len : Int32) (rest : Int64) (h0 : Heap) (n0 : Nat) (Z0 : n0 ≤ h0.size) :
    OwnCtr l Z x ws code maxLocals ret room_1 #[(.int pp), (.int top), (.int len), (.long rest)] h0 (fun v h L => v = some (.int 1) ∧ Fr n0 L) := by
  refine own_body (g0 := fun m => mkF m 0 #[.val (.int pp), .val (.int top), .val (.int len), .val (.long rest), .second, .unset, .unset, .unset, .unset, .unset, .unset, .unset, .unset, .unset, .unset, .unset] []) pn_0 (fun m => ef_0 m pp top len rest) ?_
  intro p e s m below meth c s₁ X0 hx hby hml hown hnm hZ e0 hret hlk
  have hml : c.maxLocals = 16 := hml
  have hown : s.vm.findClass "com/example/bytefold/bytefold/TierLastLeadPinLaw" = some m.cls := hown
  have hnm : meth.name = "law" := hnm
  have hret : meth.sig.returnType = (some .boolean) := hret
  have N0 := Fr.nil n0
  show OwnFin p e below s _ _ _ (s₁.setTop (mkF m 0 #[.val (.int pp), .val (.int top), .val (.int len), .val (.long rest), .second, .unset, .unset, .unset, .unset, .unset, .unset, .unset, .unset, .unset, .unset, .unset] []))
  refine own_go (fun t k => XS.iloadN X0.here hx rfl (hb hby at_0) rfl k) ?_
  show OwnFin p e below s _ _ _ (s₁.setTop (mkF m 1 #[.val (.int pp), .val (.int top), .val (.int len), .val (.long rest), .second, .unset, .unset, .unset, .unset, .unset, .unset, .unset, .unset, .unset, .unset, .unset] [(.int len)]))
  refine own_go (fun t k => XS.bipush X0.here hx rfl (hb hby at_1) k) ?_
  show OwnFin p e below s _ _ _ (s₁.setTop (mkF m 3 #[.val (.int pp), .val (.int top), .val (.int len), .val (.long rest), .second, .unset, .unset, .unset, .unset, .unset, .unset, .unset, .unset, .unset, .unset, .unset] [(.int (7 : Int32)), (.int len)]))
  refine own_go (fun t k => XS.iand X0.here hx rfl (hb hby at_3) rfl k) ?_
  show OwnFin p e below s _ _ _ (s₁.setTop (mkF m 4 #[.val (.int pp), .val (.int top), .val (.int len), .val (.long rest), .second, .unset, .unset, .unset, .unset, .unset, .unset, .unset, .unset, .unset, .unset, .unset] [(.int (len &&& (7 : Int32)))]))
  refine own_go (fun t k => XS.iconst X0.here hx rfl (hb hby at_4) k) ?_
  show OwnFin p e below s _ _ _ (s₁.setTop (mkF m 5 #[.val (.int pp), .val (.int top), .val (.int len), .val (.long rest), .second, .unset, .unset, .unset, .unset, .unset, .unset, .unset, .unset, .unset, .unset, .unset] [(.int (1 : Int32)), (.int (len &&& (7 : Int32)))]))
  refine own_go (fun t k => XS.iadd X0.here hx rfl (hb hby at_5) rfl k) ?_
  show OwnFin p e below s _ _ _ (s₁.setTop (mkF m 6 #[.val (.int pp), .val (.int top), .val (.int len), .val (.long rest), .second, .unset, .unset, .unset, .unset, .unset, .unset, .unset, .unset, .unset, .unset, .unset] [(.int ((len &&& (7 : Int32)) + (1 : Int32)))]))
  refine own_go (fun t k => XS.istore X0.here hx rfl (hb hby at_6) rfl (l' := #[.val (.int pp), .val (.int top), .val (.int len), .val (.long rest), .second, .val (.int ((len &&& (7 : Int32)) + (1 : Int32))), .unset, .unset, .unset, .unset, .unset, .unset, .unset, .unset, .unset, .unset]) rfl k) ?_
  show OwnFin p e below s _ _ _ (s₁.setTop (mkF m 8 #[.val (.int pp), .val (.int top), .val (.int len), .val (.long rest), .second, .val (.int ((len &&& (7 : Int32)) + (1 : Int32))), .unset, .unset, .unset, .unset, .unset, .unset, .unset, .unset, .unset, .unset] []))
  generalize h_n : ((len &&& (7 : Int32)) + (1 : Int32)) = n
  refine own_go (fun t k => XS.iloadN X0.here hx rfl (hb hby at_8) rfl k) ?_
  show OwnFin p e below s _ _ _ (s₁.setTop (mkF m 9 #[.val (.int pp), .val (.int top), .val (.int len), .val (.long rest), .second, .val (.int n), .unset, .unset, .unset, .unset, .unset, .unset, .unset, .unset, .unset, .unset] [(.int pp)]))
  refine own_go (fun t k => XS.sipush X0.here hx rfl (hb hby at_9) k) ?_
  show OwnFin p e below s _ _ _ (s₁.setTop (mkF m 12 #[.val (.int pp), .val (.int top), .val (.int len), .val (.long rest), .second, .val (.int n), .unset, .unset, .unset, .unset, .unset, .unset, .unset, .unset, .unset, .unset] [(.int (255 : Int32)), (.int pp)]))
  refine own_go (fun t k => XS.iand X0.here hx rfl (hb hby at_12) rfl k) ?_
  show OwnFin p e below s _ _ _ (s₁.setTop (mkF m 13 #[.val (.int pp), .val (.int top), .val (.int len), .val (.long rest), .second, .val (.int n), .unset, .unset, .unset, .unset, .unset, .unset, .unset, .unset, .unset, .unset] [(.int (pp &&& (255 : Int32)))]))
  refine own_go (fun t k => XS.istore X0.here hx rfl (hb hby at_13) rfl (l' := #[.val (.int pp), .val (.int top), .val (.int len), .val (.long rest), .second, .val (.int n), .val (.int (pp &&& (255 : Int32))), .unset, .unset, .unset, .unset, .unset, .unset, .unset, .unset, .unset]) rfl k) ?_
  show OwnFin p e below s _ _ _ (s₁.setTop (mkF m 15 #[.val (.int pp), .val (.int top), .val (.int len), .val (.long rest), .second, .val (.int n), .val (.int (pp &&& (255 : Int32))), .unset, .unset, .unset, .unset, .unset, .unset, .unset, .unset, .unset] []))
  refine own_go (fun t k => XS.iloadN X0.here hx rfl (hb hby at_15) rfl k) ?_
  show OwnFin p e below s _ _ _ (s₁.setTop (mkF m 16 #[.val (.int pp), .val (.int top), .val (.int len), .val (.long rest), .second, .val (.int n), .val (.int (pp &&& (255 : Int32))), .unset, .unset, .unset, .unset, .unset, .unset, .unset, .unset, .unset] [(.int top)]))
  refine own_go (fun t k => XS.sipush X0.here hx rfl (hb hby at_16) k) ?_
  show OwnFin p e below s _ _ _ (s₁.setTop (mkF m 19 #[.val (.int pp), .val (.int top), .val (.int len), .val (.long rest), .second, .val (.int n), .val (.int (pp &&& (255 : Int32))), .unset, .unset, .unset, .unset, .unset, .unset, .unset, .unset, .unset] [(.int (255 : Int32)), (.int top)]))
  refine own_go (fun t k => XS.iand X0.here hx rfl (hb hby at_19) rfl k) ?_
  show OwnFin p e below s _ _ _ (s₁.setTop (mkF m 20 #[.val (.int pp), .val (.int top), .val (.int len), .val (.long rest), .second, .val (.int n), .val (.int (pp &&& (255 : Int32))), .unset, .unset, .unset, .unset, .unset, .unset, .unset, .unset, .unset] [(.int (top &&& (255 : Int32)))]))
  refine own_go (fun t k => XS.istore X0.here hx rfl (hb hby at_20) rfl (l' := #[.val (.int pp), .val (.int top), .val (.int len), .val (.long rest), .second, .val (.int n), .val (.int (pp &&& (255 : Int32))), .val (.int (top &&& (255 : Int32))), .unset, .unset, .unset, .unset, .unset, .unset, .unset, .unset]) rfl k) ?_
  show OwnFin p e below s _ _ _ (s₁.setTop (mkF m 22 #[.val (.int pp), .val (.int top), .val (.int len), .val (.long rest), .second, .val (.int n), .val (.int (pp &&& (255 : Int32))), .val (.int (top &&& (255 : Int32))), .unset, .unset, .unset, .unset, .unset, .unset, .unset, .unset] []))
  refine own_go (fun t k => XS.iload X0.here hx rfl (hb hby at_22) rfl k) ?_
  show OwnFin p e below s _ _ _ (s₁.setTop (mkF m 24 #[.val (.int pp), .val (.int top), .val (.int len), .val (.long rest), .second, .val (.int n), .val (.int (pp &&& (255 : Int32))), .val (.int (top &&& (255 : Int32))), .unset, .unset, .unset, .unset, .unset, .unset, .unset, .unset] [(.int n)]))
  refine own_go (fun t k => XS.bipush X0.here hx rfl (hb hby at_24) k) ?_
  show OwnFin p e below s _ _ _ (s₁.setTop (mkF m 26 #[.val (.int pp), .val (.int top), .val (.int len), .val (.long rest), .second, .val (.int n), .val (.int (pp &&& (255 : Int32))), .val (.int (top &&& (255 : Int32))), .unset, .unset, .unset, .unset, .unset, .unset, .unset, .unset] [(.int (8 : Int32)), (.int n)]))
  by_cases hc26 : n = (8 : Int32)
  · refine own_go (fun t k => XS.icmpNo X0.here hx rfl (hb hby at_26) rfl (teq hc26).2 k) ?_
    show OwnFin p e below s _ _ _ (s₁.setTop (mkF m 29 #[.val (.int pp), .val (.int top), .val (.int len), .val (.long rest), .second, .val (.int n), .val (.int (pp &&& (255 : Int32))), .val (.int (top &&& (255 : Int32))), .unset, .unset, .unset, .unset, .unset, .unset, .unset, .unset] []))
    refine own_go (fun t k => XS.iload X0.here hx rfl (hb hby at_29) rfl k) ?_
    show OwnFin p e below s _ _ _ (s₁.setTop (mkF m 31 #[.val (.int pp), .val (.int top), .val (.int len), .val (.long rest), .second, .val (.int n), .val (.int (pp &&& (255 : Int32))), .val (.int (top &&& (255 : Int32))), .unset, .unset, .unset, .unset, .unset, .unset, .unset, .unset] [(.int (top &&& (255 : Int32)))]))
    refine own_go (fun t k => XS.bipush X0.here hx rfl (hb hby at_31) k) ?_
    show OwnFin p e below s _ _ _ (s₁.setTop (mkF m 33 #[.val (.int pp), .val (.int top), .val (.int len), .val (.long rest), .second, .val (.int n), .val (.int (pp &&& (255 : Int32))), .val (.int (top &&& (255 : Int32))), .unset, .unset, .unset, .unset, .unset, .unset, .unset, .unset] [(.int (127 : Int32)), (.int (top &&& (255 : Int32)))]))
    refine own_go (fun t k => XS.iand X0.here hx rfl (hb hby at_33) rfl k) ?_
    show OwnFin p e below s _ _ _ (s₁.setTop (mkF m 34 #[.val (.int pp), .val (.int top), .val (.int len), .val (.long rest), .second, .val (.int n), .val (.int (pp &&& (255 : Int32))), .val (.int (top &&& (255 : Int32))), .unset, .unset, .unset, .unset, .unset, .unset, .unset, .unset] [(.int ((top &&& (255 : Int32)) &&& (127 : Int32)))]))
    refine own_go (fun t k => XS.istore X0.here hx rfl (hb hby at_34) rfl (l' := #[.val (.int pp), .val (.int top), .val (.int len), .val (.long rest), .second, .val (.int n), .val (.int (pp &&& (255 : Int32))), .val (.int ((top &&& (255 : Int32)) &&& (127 : Int32))), .unset, .unset, .unset, .unset, .unset, .unset, .unset, .unset]) rfl k) ?_
    show OwnFin p e below s _ _ _ (s₁.setTop (mkF m 36 #[.val (.int pp), .val (.int top), .val (.int len), .val (.long rest), .second, .val (.int n), .val (.int (pp &&& (255 : Int32))), .val (.int ((top &&& (255 : Int32)) &&& (127 : Int32))), .unset, .unset, .unset, .unset, .unset, .unset, .unset, .unset] []))
    refine own_go (fun t k => XS.lconst X0.here hx rfl (hb hby at_36) k) ?_
    show OwnFin p e below s _ _ _ (s₁.setTop (mkF m 37 #[.val (.int pp), .val (.int top), .val (.int len), .val (.long rest), .second, .val (.int n), .val (.int (pp &&& (255 : Int32))), .val (.int ((top &&& (255 : Int32)) &&& (127 : Int32))), .unset, .unset, .unset, .unset, .unset, .unset, .unset, .unset] [(.long (1 : Int64))]))
    refine own_go (fun t k => XS.bipush X0.here hx rfl (hb hby at_37) k) ?_
    show OwnFin p e below s _ _ _ (s₁.setTop (mkF m 39 #[.val (.int pp), .val (.int top), .val (.int len), .val (.long rest), .second, .val (.int n), .val (.int (pp &&& (255 : Int32))), .val (.int ((top &&& (255 : Int32)) &&& (127 : Int32))), .unset, .unset, .unset, .unset, .unset, .unset, .unset, .unset] [(.int (8 : Int32)), (.long (1 : Int64))]))
    refine own_go (fun t k => XS.iload X0.here hx rfl (hb hby at_39) rfl k) ?_
    show OwnFin p e below s _ _ _ (s₁.setTop (mkF m 41 #[.val (.int pp), .val (.int top), .val (.int len), .val (.long rest), .second, .val (.int n), .val (.int (pp &&& (255 : Int32))), .val (.int ((top &&& (255 : Int32)) &&& (127 : Int32))), .unset, .unset, .unset, .unset, .unset, .unset, .unset, .unset] [(.int n), (.int (8 : Int32)), (.long (1 : Int64))]))
    refine own_go (fun t k => XS.iconst X0.here hx rfl (hb hby at_41) k) ?_
    show OwnFin p e below s _ _ _ (s₁.setTop (mkF m 42 #[.val (.int pp), .val (.int top), .val (.int len), .val (.long rest), .second, .val (.int n), .val (.int (pp &&& (255 : Int32))), .val (.int ((top &&& (255 : Int32)) &&& (127 : Int32))), .unset, .unset, .unset, .unset, .unset, .unset, .unset, .unset] [(.int (1 : Int32)), (.int n), (.int (8 : Int32)), (.long (1 : Int64))]))
    refine own_go (fun t k => XS.isub X0.here hx rfl (hb hby at_42) rfl k) ?_
    show OwnFin p e below s _ _ _ (s₁.setTop (mkF m 43 #[.val (.int pp), .val (.int top), .val (.int len), .val (.long rest), .second, .val (.int n), .val (.int (pp &&& (255 : Int32))), .val (.int ((top &&& (255 : Int32)) &&& (127 : Int32))), .unset, .unset, .unset, .unset, .unset, .unset, .unset, .unset] [(.int (n - (1 : Int32))), (.int (8 : Int32)), (.long (1 : Int64))]))
    refine own_go (fun t k => XS.imul X0.here hx rfl (hb hby at_43) rfl k) ?_
    show OwnFin p e below s _ _ _ (s₁.setTop (mkF m 44 #[.val (.int pp), .val (.int top), .val (.int len), .val (.long rest), .second, .val (.int n), .val (.int (pp &&& (255 : Int32))), .val (.int ((top &&& (255 : Int32)) &&& (127 : Int32))), .unset, .unset, .unset, .unset, .unset, .unset, .unset, .unset] [(.int ((8 : Int32) * (n - (1 : Int32)))), (.long (1 : Int64))]))
    refine own_go (fun t k => XS.lshl X0.here hx rfl (hb hby at_44) rfl k) ?_
    show OwnFin p e below s _ _ _ (s₁.setTop (mkF m 45 #[.val (.int pp), .val (.int top), .val (.int len), .val (.long rest), .second, .val (.int n), .val (.int (pp &&& (255 : Int32))), .val (.int ((top &&& (255 : Int32)) &&& (127 : Int32))), .unset, .unset, .unset, .unset, .unset, .unset, .unset, .unset] [(.long ((1 : Int64) <<< (((8 : Int32) * (n - (1 : Int32))) &&& 0x3f).toInt64))]))
    refine own_go (fun t k => XS.lstore X0.here hx rfl (hb hby at_45) rfl (l' := #[.val (.int pp), .val (.int top), .val (.int len), .val (.long rest), .second, .val (.int n), .val (.int (pp &&& (255 : Int32))), .val (.int ((top &&& (255 : Int32)) &&& (127 : Int32))), .val (.long ((1 : Int64) <<< (((8 : Int32) * (n - (1 : Int32))) &&& 0x3f).toInt64)), .second, .unset, .unset, .unset, .unset, .unset, .unset]) rfl k) ?_
    show OwnFin p e below s _ _ _ (s₁.setTop (mkF m 47 #[.val (.int pp), .val (.int top), .val (.int len), .val (.long rest), .second, .val (.int n), .val (.int (pp &&& (255 : Int32))), .val (.int ((top &&& (255 : Int32)) &&& (127 : Int32))), .val (.long ((1 : Int64) <<< (((8 : Int32) * (n - (1 : Int32))) &&& 0x3f).toInt64)), .second, .unset, .unset, .unset, .unset, .unset, .unset] []))
    refine own_go (fun t k => XS.lloadN X0.here hx rfl (hb hby at_47) rfl k) ?_
    show OwnFin p e below s _ _ _ (s₁.setTop (mkF m 48 #[.val (.int pp), .val (.int top), .val (.int len), .val (.long rest), .second, .val (.int n), .val (.int (pp &&& (255 : Int32))), .val (.int ((top &&& (255 : Int32)) &&& (127 : Int32))), .val (.long ((1 : Int64) <<< (((8 : Int32) * (n - (1 : Int32))) &&& 0x3f).toInt64)), .second, .unset, .unset, .unset, .unset, .unset, .unset] [(.long rest)]))
    refine own_go (fun t k => XS.lload X0.here hx rfl (hb hby at_48) rfl k) ?_
    show OwnFin p e below s _ _ _ (s₁.setTop (mkF m 50 #[.val (.int pp), .val (.int top), .val (.int len), .val (.long rest), .second, .val (.int n), .val (.int (pp &&& (255 : Int32))), .val (.int ((top &&& (255 : Int32)) &&& (127 : Int32))), .val (.long ((1 : Int64) <<< (((8 : Int32) * (n - (1 : Int32))) &&& 0x3f).toInt64)), .second, .unset, .unset, .unset, .unset, .unset, .unset] [(.long ((1 : Int64) <<< (((8 : Int32) * (n - (1 : Int32))) &&& 0x3f).toInt64)), (.long rest)]))
    refine own_go (fun t k => XS.lconst X0.here hx rfl (hb hby at_50) k) ?_
    show OwnFin p e below s _ _ _ (s₁.setTop (mkF m 51 #[.val (.int pp), .val (.int top), .val (.int len), .val (.long rest), .second, .val (.int n), .val (.int (pp &&& (255 : Int32))), .val (.int ((top &&& (255 : Int32)) &&& (127 : Int32))), .val (.long ((1 : Int64) <<< (((8 : Int32) * (n - (1 : Int32))) &&& 0x3f).toInt64)), .second, .unset, .unset, .unset, .unset, .unset, .unset] [(.long (1 : Int64)), (.long ((1 : Int64) <<< (((8 : Int32) * (n - (1 : Int32))) &&& 0x3f).toInt64)), (.long rest)]))
    refine own_go (fun t k => XS.lsub X0.here hx rfl (hb hby at_51) rfl k) ?_
    show OwnFin p e below s _ _ _ (s₁.setTop (mkF m 52 #[.val (.int pp), .val (.int top), .val (.int len), .val (.long rest), .second, .val (.int n), .val (.int (pp &&& (255 : Int32))), .val (.int ((top &&& (255 : Int32)) &&& (127 : Int32))), .val (.long ((1 : Int64) <<< (((8 : Int32) * (n - (1 : Int32))) &&& 0x3f).toInt64)), .second, .unset, .unset, .unset, .unset, .unset, .unset] [(.long (((1 : Int64) <<< (((8 : Int32) * (n - (1 : Int32))) &&& 0x3f).toInt64) - (1 : Int64))), (.long rest)]))
    refine own_go (fun t k => XS.land X0.here hx rfl (hb hby at_52) rfl k) ?_
    show OwnFin p e below s _ _ _ (s₁.setTop (mkF m 53 #[.val (.int pp), .val (.int top), .val (.int len), .val (.long rest), .second, .val (.int n), .val (.int (pp &&& (255 : Int32))), .val (.int ((top &&& (255 : Int32)) &&& (127 : Int32))), .val (.long ((1 : Int64) <<< (((8 : Int32) * (n - (1 : Int32))) &&& 0x3f).toInt64)), .second, .unset, .unset, .unset, .unset, .unset, .unset] [(.long (rest &&& (((1 : Int64) <<< (((8 : Int32) * (n - (1 : Int32))) &&& 0x3f).toInt64) - (1 : Int64))))]))
    refine own_go (fun t k => XS.lstore X0.here hx rfl (hb hby at_53) rfl (l' := #[.val (.int pp), .val (.int top), .val (.int len), .val (.long rest), .second, .val (.int n), .val (.int (pp &&& (255 : Int32))), .val (.int ((top &&& (255 : Int32)) &&& (127 : Int32))), .val (.long ((1 : Int64) <<< (((8 : Int32) * (n - (1 : Int32))) &&& 0x3f).toInt64)), .second, .val (.long (rest &&& (((1 : Int64) <<< (((8 : Int32) * (n - (1 : Int32))) &&& 0x3f).toInt64) - (1 : Int64)))), .second, .unset, .unset, .unset, .unset]) rfl k) ?_
    show OwnFin p e below s _ _ _ (s₁.setTop (mkF m 55 #[.val (.int pp), .val (.int top), .val (.int len), .val (.long rest), .second, .val (.int n), .val (.int (pp &&& (255 : Int32))), .val (.int ((top &&& (255 : Int32)) &&& (127 : Int32))), .val (.long ((1 : Int64) <<< (((8 : Int32) * (n - (1 : Int32))) &&& 0x3f).toInt64)), .second, .val (.long (rest &&& (((1 : Int64) <<< (((8 : Int32) * (n - (1 : Int32))) &&& 0x3f).toInt64) - (1 : Int64)))), .second, .unset, .unset, .unset, .unset] []))
    refine own_go (fun t k => XS.iload X0.here hx rfl (hb hby at_55) rfl k) ?_
    show OwnFin p e below s _ _ _ (s₁.setTop (mkF m 57 #[.val (.int pp), .val (.int top), .val (.int len), .val (.long rest), .second, .val (.int n), .val (.int (pp &&& (255 : Int32))), .val (.int ((top &&& (255 : Int32)) &&& (127 : Int32))), .val (.long ((1 : Int64) <<< (((8 : Int32) * (n - (1 : Int32))) &&& 0x3f).toInt64)), .second, .val (.long (rest &&& (((1 : Int64) <<< (((8 : Int32) * (n - (1 : Int32))) &&& 0x3f).toInt64) - (1 : Int64)))), .second, .unset, .unset, .unset, .unset] [(.int ((top &&& (255 : Int32)) &&& (127 : Int32)))]))
    refine own_go (fun t k => XS.i2l X0.here hx rfl (hb hby at_57) rfl k) ?_
    show OwnFin p e below s _ _ _ (s₁.setTop (mkF m 58 #[.val (.int pp), .val (.int top), .val (.int len), .val (.long rest), .second, .val (.int n), .val (.int (pp &&& (255 : Int32))), .val (.int ((top &&& (255 : Int32)) &&& (127 : Int32))), .val (.long ((1 : Int64) <<< (((8 : Int32) * (n - (1 : Int32))) &&& 0x3f).toInt64)), .second, .val (.long (rest &&& (((1 : Int64) <<< (((8 : Int32) * (n - (1 : Int32))) &&& 0x3f).toInt64) - (1 : Int64)))), .second, .unset, .unset, .unset, .unset] [(.long (((top &&& (255 : Int32)) &&& (127 : Int32)).toInt64))]))
    refine own_go (fun t k => XS.lload X0.here hx rfl (hb hby at_58) rfl k) ?_
    show OwnFin p e below s _ _ _ (s₁.setTop (mkF m 60 #[.val (.int pp), .val (.int top), .val (.int len), .val (.long rest), .second, .val (.int n), .val (.int (pp &&& (255 : Int32))), .val (.int ((top &&& (255 : Int32)) &&& (127 : Int32))), .val (.long ((1 : Int64) <<< (((8 : Int32) * (n - (1 : Int32))) &&& 0x3f).toInt64)), .second, .val (.long (rest &&& (((1 : Int64) <<< (((8 : Int32) * (n - (1 : Int32))) &&& 0x3f).toInt64) - (1 : Int64)))), .second, .unset, .unset, .unset, .unset] [(.long ((1 : Int64) <<< (((8 : Int32) * (n - (1 : Int32))) &&& 0x3f).toInt64)), (.long (((top &&& (255 : Int32)) &&& (127 : Int32)).toInt64))]))
    refine own_go (fun t k => XS.lmul X0.here hx rfl (hb hby at_60) rfl k) ?_
    show OwnFin p e below s _ _ _ (s₁.setTop (mkF m 61 #[.val (.int pp), .val (.int top), .val (.int len), .val (.long rest), .second, .val (.int n), .val (.int (pp &&& (255 : Int32))), .val (.int ((top &&& (255 : Int32)) &&& (127 : Int32))), .val (.long ((1 : Int64) <<< (((8 : Int32) * (n - (1 : Int32))) &&& 0x3f).toInt64)), .second, .val (.long (rest &&& (((1 : Int64) <<< (((8 : Int32) * (n - (1 : Int32))) &&& 0x3f).toInt64) - (1 : Int64)))), .second, .unset, .unset, .unset, .unset] [(.long ((((top &&& (255 : Int32)) &&& (127 : Int32)).toInt64) * ((1 : Int64) <<< (((8 : Int32) * (n - (1 : Int32))) &&& 0x3f).toInt64)))]))
    refine own_go (fun t k => XS.lload X0.here hx rfl (hb hby at_61) rfl k) ?_
    show OwnFin p e below s _ _ _ (s₁.setTop (mkF m 63 #[.val (.int pp), .val (.int top), .val (.int len), .val (.long rest), .second, .val (.int n), .val (.int (pp &&& (255 : Int32))), .val (.int ((top &&& (255 : Int32)) &&& (127 : Int32))), .val (.long ((1 : Int64) <<< (((8 : Int32) * (n - (1 : Int32))) &&& 0x3f).toInt64)), .second, .val (.long (rest &&& (((1 : Int64) <<< (((8 : Int32) * (n - (1 : Int32))) &&& 0x3f).toInt64) - (1 : Int64)))), .second, .unset, .unset, .unset, .unset] [(.long (rest &&& (((1 : Int64) <<< (((8 : Int32) * (n - (1 : Int32))) &&& 0x3f).toInt64) - (1 : Int64)))), (.long ((((top &&& (255 : Int32)) &&& (127 : Int32)).toInt64) * ((1 : Int64) <<< (((8 : Int32) * (n - (1 : Int32))) &&& 0x3f).toInt64)))]))
    refine own_go (fun t k => XS.ladd X0.here hx rfl (hb hby at_63) rfl k) ?_
    show OwnFin p e below s _ _ _ (s₁.setTop (mkF m 64 #[.val (.int pp), .val (.int top), .val (.int len), .val (.long rest), .second, .val (.int n), .val (.int (pp &&& (255 : Int32))), .val (.int ((top &&& (255 : Int32)) &&& (127 : Int32))), .val (.long ((1 : Int64) <<< (((8 : Int32) * (n - (1 : Int32))) &&& 0x3f).toInt64)), .second, .val (.long (rest &&& (((1 : Int64) <<< (((8 : Int32) * (n - (1 : Int32))) &&& 0x3f).toInt64) - (1 : Int64)))), .second, .unset, .unset, .unset, .unset] [(.long (((((top &&& (255 : Int32)) &&& (127 : Int32)).toInt64) * ((1 : Int64) <<< (((8 : Int32) * (n - (1 : Int32))) &&& 0x3f).toInt64)) + (rest &&& (((1 : Int64) <<< (((8 : Int32) * (n - (1 : Int32))) &&& 0x3f).toInt64) - (1 : Int64)))))]))
    refine own_go (fun t k => XS.lstore X0.here hx rfl (hb hby at_64) rfl (l' := #[.val (.int pp), .val (.int top), .val (.int len), .val (.long rest), .second, .val (.int n), .val (.int (pp &&& (255 : Int32))), .val (.int ((top &&& (255 : Int32)) &&& (127 : Int32))), .val (.long ((1 : Int64) <<< (((8 : Int32) * (n - (1 : Int32))) &&& 0x3f).toInt64)), .second, .val (.long (rest &&& (((1 : Int64) <<< (((8 : Int32) * (n - (1 : Int32))) &&& 0x3f).toInt64) - (1 : Int64)))), .second, .val (.long (((((top &&& (255 : Int32)) &&& (127 : Int32)).toInt64) * ((1 : Int64) <<< (((8 : Int32) * (n - (1 : Int32))) &&& 0x3f).toInt64)) + (rest &&& (((1 : Int64) <<< (((8 : Int32) * (n - (1 : Int32))) &&& 0x3f).toInt64) - (1 : Int64))))), .second, .unset, .unset]) rfl k) ?_
    show OwnFin p e below s _ _ _ (s₁.setTop (mkF m 66 #[.val (.int pp), .val (.int top), .val (.int len), .val (.long rest), .second, .val (.int n), .val (.int (pp &&& (255 : Int32))), .val (.int ((top &&& (255 : Int32)) &&& (127 : Int32))), .val (.long ((1 : Int64) <<< (((8 : Int32) * (n - (1 : Int32))) &&& 0x3f).toInt64)), .second, .val (.long (rest &&& (((1 : Int64) <<< (((8 : Int32) * (n - (1 : Int32))) &&& 0x3f).toInt64) - (1 : Int64)))), .second, .val (.long (((((top &&& (255 : Int32)) &&& (127 : Int32)).toInt64) * ((1 : Int64) <<< (((8 : Int32) * (n - (1 : Int32))) &&& 0x3f).toInt64)) + (rest &&& (((1 : Int64) <<< (((8 : Int32) * (n - (1 : Int32))) &&& 0x3f).toInt64) - (1 : Int64))))), .second, .unset, .unset] []))
    refine own_go (fun t k => XS.iload X0.here hx rfl (hb hby at_66) rfl k) ?_
    show OwnFin p e below s _ _ _ (s₁.setTop (mkF m 68 #[.val (.int pp), .val (.int top), .val (.int len), .val (.long rest), .second, .val (.int n), .val (.int (pp &&& (255 : Int32))), .val (.int ((top &&& (255 : Int32)) &&& (127 : Int32))), .val (.long ((1 : Int64) <<< (((8 : Int32) * (n - (1 : Int32))) &&& 0x3f).toInt64)), .second, .val (.long (rest &&& (((1 : Int64) <<< (((8 : Int32) * (n - (1 : Int32))) &&& 0x3f).toInt64) - (1 : Int64)))), .second, .val (.long (((((top &&& (255 : Int32)) &&& (127 : Int32)).toInt64) * ((1 : Int64) <<< (((8 : Int32) * (n - (1 : Int32))) &&& 0x3f).toInt64)) + (rest &&& (((1 : Int64) <<< (((8 : Int32) * (n - (1 : Int32))) &&& 0x3f).toInt64) - (1 : Int64))))), .second, .unset, .unset] [(.int (pp &&& (255 : Int32)))]))
    refine own_go (fun t k => XS.iload X0.here hx rfl (hb hby at_68) rfl k) ?_
    show OwnFin p e below s _ _ _ (s₁.setTop (mkF m 70 #[.val (.int pp), .val (.int top), .val (.int len), .val (.long rest), .second, .val (.int n), .val (.int (pp &&& (255 : Int32))), .val (.int ((top &&& (255 : Int32)) &&& (127 : Int32))), .val (.long ((1 : Int64) <<< (((8 : Int32) * (n - (1 : Int32))) &&& 0x3f).toInt64)), .second, .val (.long (rest &&& (((1 : Int64) <<< (((8 : Int32) * (n - (1 : Int32))) &&& 0x3f).toInt64) - (1 : Int64)))), .second, .val (.long (((((top &&& (255 : Int32)) &&& (127 : Int32)).toInt64) * ((1 : Int64) <<< (((8 : Int32) * (n - (1 : Int32))) &&& 0x3f).toInt64)) + (rest &&& (((1 : Int64) <<< (((8 : Int32) * (n - (1 : Int32))) &&& 0x3f).toInt64) - (1 : Int64))))), .second, .unset, .unset] [(.int ((top &&& (255 : Int32)) &&& (127 : Int32))), (.int (pp &&& (255 : Int32)))]))
    refine own_go (fun t k => XS.ior X0.here hx rfl (hb hby at_70) rfl k) ?_
    show OwnFin p e below s _ _ _ (s₁.setTop (mkF m 71 #[.val (.int pp), .val (.int top), .val (.int len), .val (.long rest), .second, .val (.int n), .val (.int (pp &&& (255 : Int32))), .val (.int ((top &&& (255 : Int32)) &&& (127 : Int32))), .val (.long ((1 : Int64) <<< (((8 : Int32) * (n - (1 : Int32))) &&& 0x3f).toInt64)), .second, .val (.long (rest &&& (((1 : Int64) <<< (((8 : Int32) * (n - (1 : Int32))) &&& 0x3f).toInt64) - (1 : Int64)))), .second, .val (.long (((((top &&& (255 : Int32)) &&& (127 : Int32)).toInt64) * ((1 : Int64) <<< (((8 : Int32) * (n - (1 : Int32))) &&& 0x3f).toInt64)) + (rest &&& (((1 : Int64) <<< (((8 : Int32) * (n - (1 : Int32))) &&& 0x3f).toInt64) - (1 : Int64))))), .second, .unset, .unset] [(.int ((pp &&& (255 : Int32)) ||| ((top &&& (255 : Int32)) &&& (127 : Int32))))]))
    refine own_go (fun t k => XS.istore X0.here hx rfl (hb hby at_71) rfl (l' := #[.val (.int pp), .val (.int top), .val (.int len), .val (.long rest), .second, .val (.int n), .val (.int (pp &&& (255 : Int32))), .val (.int ((top &&& (255 : Int32)) &&& (127 : Int32))), .val (.long ((1 : Int64) <<< (((8 : Int32) * (n - (1 : Int32))) &&& 0x3f).toInt64)), .second, .val (.long (rest &&& (((1 : Int64) <<< (((8 : Int32) * (n - (1 : Int32))) &&& 0x3f).toInt64) - (1 : Int64)))), .second, .val (.long (((((top &&& (255 : Int32)) &&& (127 : Int32)).toInt64) * ((1 : Int64) <<< (((8 : Int32) * (n - (1 : Int32))) &&& 0x3f).toInt64)) + (rest &&& (((1 : Int64) <<< (((8 : Int32) * (n - (1 : Int32))) &&& 0x3f).toInt64) - (1 : Int64))))), .second, .val (.int ((pp &&& (255 : Int32)) ||| ((top &&& (255 : Int32)) &&& (127 : Int32)))), .unset]) rfl k) ?_
    show OwnFin p e below s _ _ _ (s₁.setTop (mkF m 73 #[.val (.int pp), .val (.int top), .val (.int len), .val (.long rest), .second, .val (.int n), .val (.int (pp &&& (255 : Int32))), .val (.int ((top &&& (255 : Int32)) &&& (127 : Int32))), .val (.long ((1 : Int64) <<< (((8 : Int32) * (n - (1 : Int32))) &&& 0x3f).toInt64)), .second, .val (.long (rest &&& (((1 : Int64) <<< (((8 : Int32) * (n - (1 : Int32))) &&& 0x3f).toInt64) - (1 : Int64)))), .second, .val (.long (((((top &&& (255 : Int32)) &&& (127 : Int32)).toInt64) * ((1 : Int64) <<< (((8 : Int32) * (n - (1 : Int32))) &&& 0x3f).toInt64)) + (rest &&& (((1 : Int64) <<< (((8 : Int32) * (n - (1 : Int32))) &&& 0x3f).toInt64) - (1 : Int64))))), .second, .val (.int ((pp &&& (255 : Int32)) ||| ((top &&& (255 : Int32)) &&& (127 : Int32)))), .unset] []))
    obtain ⟨T1, h1, X1, e1, E1, A1, D1, -, st1⟩ := newO X0 hx hZ hown (hw _ (List.mem_of_getElem? (i := 0) rfl)) (hw _ (List.mem_of_getElem? (i := 1) rfl)) (hw _ (List.mem_of_getElem? (i := 2) rfl)) e0 (g := (mkF m 73 #[.val (.int pp), .val (.int top), .val (.int len), .val (.long rest), .second, .val (.int n), .val (.int (pp &&& (255 : Int32))), .val (.int ((top &&& (255 : Int32)) &&& (127 : Int32))), .val (.long ((1 : Int64) <<< (((8 : Int32) * (n - (1 : Int32))) &&& 0x3f).toInt64)), .second, .val (.long (rest &&& (((1 : Int64) <<< (((8 : Int32) * (n - (1 : Int32))) &&& 0x3f).toInt64) - (1 : Int64)))), .second, .val (.long (((((top &&& (255 : Int32)) &&& (127 : Int32)).toInt64) * ((1 : Int64) <<< (((8 : Int32) * (n - (1 : Int32))) &&& 0x3f).toInt64)) + (rest &&& (((1 : Int64) <<< (((8 : Int32) * (n - (1 : Int32))) &&& 0x3f).toInt64) - (1 : Int64))))), .second, .val (.int ((pp &&& (255 : Int32)) ||| ((top &&& (255 : Int32)) &&& (127 : Int32)))), .unset] [])) rfl (hb hby at_73) (by decide) (by decide)
    obtain ⟨b1, g1⟩ : ∃ z, z = h0.size := ⟨_, rfl⟩
    rw [← g1] at A1 D1 st1
    have g_b1 : n0 ≤ b1 := Nat.le_trans Z0 (Nat.le_of_eq g1.symm)
    have Z1 : n0 ≤ h1.size := Nat.le_trans Z0 E1.1
    have E_b1 := A1
    have F_prefix_b1 : Fld Z h1 b1 "com/example/bytefold/bytefold/LengthPrefixForm$Tier" "prefix" "I" (.int (0 : Int32)) := D1 (Or.inr (hw _ (List.mem_of_getElem? (i := 15) rfl))) (ty := .int) (by decide)
    have F_length_b1 : Fld Z h1 b1 "com/example/bytefold/bytefold/LengthPrefixForm$Tier" "length" "I" (.int (0 : Int32)) := D1 (Or.inr (hw _ (List.mem_of_getElem? (i := 17) rfl))) (ty := .int) (by decide)
    have F_largest_b1 : Fld Z h1 b1 "com/example/bytefold/bytefold/LengthPrefixForm$Tier" "largest" "J" (.long (0 : Int64)) := D1 (Or.inr (hw _ (List.mem_of_getElem? (i := 19) rfl))) (ty := .long) (by decide)
    refine own_go st1 ?_
    show OwnFin p e below s _ _ _ (T1.setTop (mkF m 76 #[.val (.int pp), .val (.int top), .val (.int len), .val (.long rest), .second, .val (.int n), .val (.int (pp &&& (255 : Int32))), .val (.int ((top &&& (255 : Int32)) &&& (127 : Int32))), .val (.long ((1 : Int64) <<< (((8 : Int32) * (n - (1 : Int32))) &&& 0x3f).toInt64)), .second, .val (.long (rest &&& (((1 : Int64) <<< (((8 : Int32) * (n - (1 : Int32))) &&& 0x3f).toInt64) - (1 : Int64)))), .second, .val (.long (((((top &&& (255 : Int32)) &&& (127 : Int32)).toInt64) * ((1 : Int64) <<< (((8 : Int32) * (n - (1 : Int32))) &&& 0x3f).toInt64)) + (rest &&& (((1 : Int64) <<< (((8 : Int32) * (n - (1 : Int32))) &&& 0x3f).toInt64) - (1 : Int64))))), .second, .val (.int ((pp &&& (255 : Int32)) ||| ((top &&& (255 : Int32)) &&& (127 : Int32)))), .unset] [(.ref b1)]))
    refine own_go (fun t k => XS.dup X1.here hx rfl (hb hby at_76) rfl rfl k) ?_
    show OwnFin p e below s _ _ _ (T1.setTop (mkF m 77 #[.val (.int pp), .val (.int top), .val (.int len), .val (.long rest), .second, .val (.int n), .val (.int (pp &&& (255 : Int32))), .val (.int ((top &&& (255 : Int32)) &&& (127 : Int32))), .val (.long ((1 : Int64) <<< (((8 : Int32) * (n - (1 : Int32))) &&& 0x3f).toInt64)), .second, .val (.long (rest &&& (((1 : Int64) <<< (((8 : Int32) * (n - (1 : Int32))) &&& 0x3f).toInt64) - (1 : Int64)))), .second, .val (.long (((((top &&& (255 : Int32)) &&& (127 : Int32)).toInt64) * ((1 : Int64) <<< (((8 : Int32) * (n - (1 : Int32))) &&& 0x3f).toInt64)) + (rest &&& (((1 : Int64) <<< (((8 : Int32) * (n - (1 : Int32))) &&& 0x3f).toInt64) - (1 : Int64))))), .second, .val (.int ((pp &&& (255 : Int32)) ||| ((top &&& (255 : Int32)) &&& (127 : Int32)))), .unset] [(.ref b1), (.ref b1)]))
    refine own_go (fun t k => XS.iload X1.here hx rfl (hb hby at_77) rfl k) ?_
    show OwnFin p e below s _ _ _ (T1.setTop (mkF m 79 #[.val (.int pp), .val (.int top), .val (.int len), .val (.long rest), .second, .val (.int n), .val (.int (pp &&& (255 : Int32))), .val (.int ((top &&& (255 : Int32)) &&& (127 : Int32))), .val (.long ((1 : Int64) <<< (((8 : Int32) * (n - (1 : Int32))) &&& 0x3f).toInt64)), .second, .val (.long (rest &&& (((1 : Int64) <<< (((8 : Int32) * (n - (1 : Int32))) &&& 0x3f).toInt64) - (1 : Int64)))), .second, .val (.long (((((top &&& (255 : Int32)) &&& (127 : Int32)).toInt64) * ((1 : Int64) <<< (((8 : Int32) * (n - (1 : Int32))) &&& 0x3f).toInt64)) + (rest &&& (((1 : Int64) <<< (((8 : Int32) * (n - (1 : Int32))) &&& 0x3f).toInt64) - (1 : Int64))))), .second, .val (.int ((pp &&& (255 : Int32)) ||| ((top &&& (255 : Int32)) &&& (127 : Int32)))), .unset] [(.int (pp &&& (255 : Int32))), (.ref b1), (.ref b1)]))
    refine own_go (fun t k => XS.iload X1.here hx rfl (hb hby at_79) rfl k) ?_
    show OwnFin p e below s _ _ _ (T1.setTop (mkF m 81 #[.val (.int pp), .val (.int top), .val (.int len), .val (.long rest), .second, .val (.int n), .val (.int (pp &&& (255 : Int32))), .val (.int ((top &&& (255 : Int32)) &&& (127 : Int32))), .val (.long ((1 : Int64) <<< (((8 : Int32) * (n - (1 : Int32))) &&& 0x3f).toInt64)), .second, .val (.long (rest &&& (((1 : Int64) <<< (((8 : Int32) * (n - (1 : Int32))) &&& 0x3f).toInt64) - (1 : Int64)))), .second, .val (.long (((((top &&& (255 : Int32)) &&& (127 : Int32)).toInt64) * ((1 : Int64) <<< (((8 : Int32) * (n - (1 : Int32))) &&& 0x3f).toInt64)) + (rest &&& (((1 : Int64) <<< (((8 : Int32) * (n - (1 : Int32))) &&& 0x3f).toInt64) - (1 : Int64))))), .second, .val (.int ((pp &&& (255 : Int32)) ||| ((top &&& (255 : Int32)) &&& (127 : Int32)))), .unset] [(.int n), (.int (pp &&& (255 : Int32))), (.ref b1), (.ref b1)]))
    refine own_go (fun t k => XS.lload X1.here hx rfl (hb hby at_81) rfl k) ?_
    show OwnFin p e below s _ _ _ (T1.setTop (mkF m 83 #[.val (.int pp), .val (.int top), .val (.int len), .val (.long rest), .second, .val (.int n), .val (.int (pp &&& (255 : Int32))), .val (.int ((top &&& (255 : Int32)) &&& (127 : Int32))), .val (.long ((1 : Int64) <<< (((8 : Int32) * (n - (1 : Int32))) &&& 0x3f).toInt64)), .second, .val (.long (rest &&& (((1 : Int64) <<< (((8 : Int32) * (n - (1 : Int32))) &&& 0x3f).toInt64) - (1 : Int64)))), .second, .val (.long (((((top &&& (255 : Int32)) &&& (127 : Int32)).toInt64) * ((1 : Int64) <<< (((8 : Int32) * (n - (1 : Int32))) &&& 0x3f).toInt64)) + (rest &&& (((1 : Int64) <<< (((8 : Int32) * (n - (1 : Int32))) &&& 0x3f).toInt64) - (1 : Int64))))), .second, .val (.int ((pp &&& (255 : Int32)) ||| ((top &&& (255 : Int32)) &&& (127 : Int32)))), .unset] [(.long (((((top &&& (255 : Int32)) &&& (127 : Int32)).toInt64) * ((1 : Int64) <<< (((8 : Int32) * (n - (1 : Int32))) &&& 0x3f).toInt64)) + (rest &&& (((1 : Int64) <<< (((8 : Int32) * (n - (1 : Int32))) &&& 0x3f).toInt64) - (1 : Int64))))), (.int n), (.int (pp &&& (255 : Int32))), (.ref b1), (.ref b1)]))
    obtain ⟨v2, T2, L2, X2, hQ2, st2⟩ := own_callI X1 hx hZ (y := (⟨"com/example/bytefold/bytefold/LengthPrefixForm$Tier", "<init>", "(IIJ)V"⟩ : MethodName)) rfl hown (hw _ (List.mem_of_getElem? (i := 3) rfl)) (hw _ (List.mem_of_getElem? (i := 4) rfl)) (hw _ (List.mem_of_getElem? (i := 2) rfl)) (hw _ (List.mem_of_getElem? (i := 5) rfl)) (by decide) (W := 1) (rm1 l Z a0 hw [] b1 (pp &&& (255 : Int32)) n (((((top &&& (255 : Int32)) &&& (127 : Int32)).toInt64) * ((1 : Int64) <<< (((8 : Int32) * (n - (1 : Int32))) &&& 0x3f).toInt64)) + (rest &&& (((1 : Int64) <<< (((8 : Int32) * (n - (1 : Int32))) &&& 0x3f).toInt64) - (1 : Int64)))) h1 n0 Z1 E_b1 g_b1 F_prefix_b1 F_length_b1 F_largest_b1) (by decide) (by decide) (g := (mkF m 83 #[.val (.int pp), .val (.int top), .val (.int len), .val (.long rest), .second, .val (.int n), .val (.int (pp &&& (255 : Int32))), .val (.int ((top &&& (255 : Int32)) &&& (127 : Int32))), .val (.long ((1 : Int64) <<< (((8 : Int32) * (n - (1 : Int32))) &&& 0x3f).toInt64)), .second, .val (.long (rest &&& (((1 : Int64) <<< (((8 : Int32) * (n - (1 : Int32))) &&& 0x3f).toInt64) - (1 : Int64)))), .second, .val (.long (((((top &&& (255 : Int32)) &&& (127 : Int32)).toInt64) * ((1 : Int64) <<< (((8 : Int32) * (n - (1 : Int32))) &&& 0x3f).toInt64)) + (rest &&& (((1 : Int64) <<< (((8 : Int32) * (n - (1 : Int32))) &&& 0x3f).toInt64) - (1 : Int64))))), .second, .val (.int ((pp &&& (255 : Int32)) ||| ((top &&& (255 : Int32)) &&& (127 : Int32)))), .unset] [(.long (((((top &&& (255 : Int32)) &&& (127 : Int32)).toInt64) * ((1 : Int64) <<< (((8 : Int32) * (n - (1 : Int32))) &&& 0x3f).toInt64)) + (rest &&& (((1 : Int64) <<< (((8 : Int32) * (n - (1 : Int32))) &&& 0x3f).toInt64) - (1 : Int64))))), (.int n), (.int (pp &&& (255 : Int32))), (.ref b1), (.ref b1)])) rfl (by rw [hml]; rfl) (a := b1) (argsL := [(.int (pp &&& (255 : Int32))), (.int n), (.long (((((top &&& (255 : Int32)) &&& (127 : Int32)).toInt64) * ((1 : Int64) <<< (((8 : Int32) * (n - (1 : Int32))) &&& 0x3f).toInt64)) + (rest &&& (((1 : Int64) <<< (((8 : Int32) * (n - (1 : Int32))) &&& 0x3f).toInt64) - (1 : Int64)))))]) (rest := [(.ref b1)]) (lenOf pd_0_0 rfl) rfl (by show 2 * 0 + _ ≤ _; exact Nat.le_of_eq rfl) (hb hby at_83) e1 rfl (by decide) (by decide)
    obtain ⟨rfl, Nq2, Kq2, Eq2, Fq2_0, Fq2_1, Fq2_2⟩ := hQ2
    have N2 := Fr.app N0 Nq2
    have E_b1_2 := E_b1.keep Kq2
    have Z2 : n0 ≤ T2.heap.size := Nat.le_trans Z1 Kq2.1
    refine own_go st2 ?_
    show OwnFin p e below s _ _ _ (T2.setTop (mkF m 86 #[.val (.int pp), .val (.int top), .val (.int len), .val (.long rest), .second, .val (.int n), .val (.int (pp &&& (255 : Int32))), .val (.int ((top &&& (255 : Int32)) &&& (127 : Int32))), .val (.long ((1 : Int64) <<< (((8 : Int32) * (n - (1 : Int32))) &&& 0x3f).toInt64)), .second, .val (.long (rest &&& (((1 : Int64) <<< (((8 : Int32) * (n - (1 : Int32))) &&& 0x3f).toInt64) - (1 : Int64)))), .second, .val (.long (((((top &&& (255 : Int32)) &&& (127 : Int32)).toInt64) * ((1 : Int64) <<< (((8 : Int32) * (n - (1 : Int32))) &&& 0x3f).toInt64)) + (rest &&& (((1 : Int64) <<< (((8 : Int32) * (n - (1 : Int32))) &&& 0x3f).toInt64) - (1 : Int64))))), .second, .val (.int ((pp &&& (255 : Int32)) ||| ((top &&& (255 : Int32)) &&& (127 : Int32)))), .unset] [(.ref b1)]))
    refine own_go (fun t k => XS.astore X2.here hx rfl (hb hby at_86) rfl rfl (l' := #[.val (.int pp), .val (.int top), .val (.int len), .val (.long rest), .second, .val (.int n), .val (.int (pp &&& (255 : Int32))), .val (.int ((top &&& (255 : Int32)) &&& (127 : Int32))), .val (.long ((1 : Int64) <<< (((8 : Int32) * (n - (1 : Int32))) &&& 0x3f).toInt64)), .second, .val (.long (rest &&& (((1 : Int64) <<< (((8 : Int32) * (n - (1 : Int32))) &&& 0x3f).toInt64) - (1 : Int64)))), .second, .val (.long (((((top &&& (255 : Int32)) &&& (127 : Int32)).toInt64) * ((1 : Int64) <<< (((8 : Int32) * (n - (1 : Int32))) &&& 0x3f).toInt64)) + (rest &&& (((1 : Int64) <<< (((8 : Int32) * (n - (1 : Int32))) &&& 0x3f).toInt64) - (1 : Int64))))), .second, .val (.int ((pp &&& (255 : Int32)) ||| ((top &&& (255 : Int32)) &&& (127 : Int32)))), .val (.ref b1)]) rfl k) ?_
    show OwnFin p e below s _ _ _ (T2.setTop (mkF m 88 #[.val (.int pp), .val (.int top), .val (.int len), .val (.long rest), .second, .val (.int n), .val (.int (pp &&& (255 : Int32))), .val (.int ((top &&& (255 : Int32)) &&& (127 : Int32))), .val (.long ((1 : Int64) <<< (((8 : Int32) * (n - (1 : Int32))) &&& 0x3f).toInt64)), .second, .val (.long (rest &&& (((1 : Int64) <<< (((8 : Int32) * (n - (1 : Int32))) &&& 0x3f).toInt64) - (1 : Int64)))), .second, .val (.long (((((top &&& (255 : Int32)) &&& (127 : Int32)).toInt64) * ((1 : Int64) <<< (((8 : Int32) * (n - (1 : Int32))) &&& 0x3f).toInt64)) + (rest &&& (((1 : Int64) <<< (((8 : Int32) * (n - (1 : Int32))) &&& 0x3f).toInt64) - (1 : Int64))))), .second, .val (.int ((pp &&& (255 : Int32)) ||| ((top &&& (255 : Int32)) &&& (127 : Int32)))), .val (.ref b1)] []))
    refine own_go (fun t k => XS.aload X2.here hx rfl (hb hby at_88) rfl rfl k) ?_
    show OwnFin p e below s _ _ _ (T2.setTop (mkF m 90 #[.val (.int pp), .val (.int top), .val (.int len), .val (.long rest), .second, .val (.int n), .val (.int (pp &&& (255 : Int32))), .val (.int ((top &&& (255 : Int32)) &&& (127 : Int32))), .val (.long ((1 : Int64) <<< (((8 : Int32) * (n - (1 : Int32))) &&& 0x3f).toInt64)), .second, .val (.long (rest &&& (((1 : Int64) <<< (((8 : Int32) * (n - (1 : Int32))) &&& 0x3f).toInt64) - (1 : Int64)))), .second, .val (.long (((((top &&& (255 : Int32)) &&& (127 : Int32)).toInt64) * ((1 : Int64) <<< (((8 : Int32) * (n - (1 : Int32))) &&& 0x3f).toInt64)) + (rest &&& (((1 : Int64) <<< (((8 : Int32) * (n - (1 : Int32))) &&& 0x3f).toInt64) - (1 : Int64))))), .second, .val (.int ((pp &&& (255 : Int32)) ||| ((top &&& (255 : Int32)) &&& (127 : Int32)))), .val (.ref b1)] [(.ref b1)]))
    obtain ⟨v3, T3, L3, X3, hQ3, st3⟩ := own_callV X2 hx hZ (y := (⟨"com/example/bytefold/bytefold/LengthPrefixForm$Tier", "lastLead", "()I"⟩ : MethodName)) (z := (⟨"com/example/bytefold/bytefold/LengthPrefixForm$Tier", "lastLead", "()I"⟩ : MethodName)) hown (hw _ (List.mem_of_getElem? (i := 20) rfl)) (hw _ (List.mem_of_getElem? (i := 21) rfl)) (notFace_of_selects (args := #[]) (mvT hZ (hw _ (List.mem_of_getElem? (i := 23) rfl)))) (hw _ (List.mem_of_getElem? (i := 23) rfl)) (hw _ (List.mem_of_getElem? (i := 22) rfl)) (hw _ (List.mem_of_getElem? (i := 2) rfl)) (hw _ (List.mem_of_getElem? (i := 24) rfl)) (by decide) (W := 0) (rm4 l Z a0 hw [] b1 T2.heap n0 Z2 Fq2_0 Fq2_1 Fq2_2) (by decide) (by decide) Eq2 (g := (mkF m 90 #[.val (.int pp), .val (.int top), .val (.int len), .val (.long rest), .second, .val (.int n), .val (.int (pp &&& (255 : Int32))), .val (.int ((top &&& (255 : Int32)) &&& (127 : Int32))), .val (.long ((1 : Int64) <<< (((8 : Int32) * (n - (1 : Int32))) &&& 0x3f).toInt64)), .second, .val (.long (rest &&& (((1 : Int64) <<< (((8 : Int32) * (n - (1 : Int32))) &&& 0x3f).toInt64) - (1 : Int64)))), .second, .val (.long (((((top &&& (255 : Int32)) &&& (127 : Int32)).toInt64) * ((1 : Int64) <<< (((8 : Int32) * (n - (1 : Int32))) &&& 0x3f).toInt64)) + (rest &&& (((1 : Int64) <<< (((8 : Int32) * (n - (1 : Int32))) &&& 0x3f).toInt64) - (1 : Int64))))), .second, .val (.int ((pp &&& (255 : Int32)) ||| ((top &&& (255 : Int32)) &&& (127 : Int32)))), .val (.ref b1)] [(.ref b1)])) rfl (by rw [hml]; rfl) (argsL := []) (rest := []) (lenOf pd_0_2 rfl) rfl (by show 2 * 0 + _ ≤ _; exact Nat.le_of_eq rfl) (hb hby at_90) rfl rfl (by decide) (by decide)
    obtain ⟨rfl, Nq3, e3⟩ := hQ3
    have N3 := Fr.app N2 Nq3
    refine own_go st3 ?_
    show OwnFin p e below s _ _ _ (T3.setTop (mkF m 93 #[.val (.int pp), .val (.int top), .val (.int len), .val (.long rest), .second, .val (.int n), .val (.int (pp &&& (255 : Int32))), .val (.int ((top &&& (255 : Int32)) &&& (127 : Int32))), .val (.long ((1 : Int64) <<< (((8 : Int32) * (n - (1 : Int32))) &&& 0x3f).toInt64)), .second, .val (.long (rest &&& (((1 : Int64) <<< (((8 : Int32) * (n - (1 : Int32))) &&& 0x3f).toInt64) - (1 : Int64)))), .second, .val (.long (((((top &&& (255 : Int32)) &&& (127 : Int32)).toInt64) * ((1 : Int64) <<< (((8 : Int32) * (n - (1 : Int32))) &&& 0x3f).toInt64)) + (rest &&& (((1 : Int64) <<< (((8 : Int32) * (n - (1 : Int32))) &&& 0x3f).toInt64) - (1 : Int64))))), .second, .val (.int ((pp &&& (255 : Int32)) ||| ((top &&& (255 : Int32)) &&& (127 : Int32)))), .val (.ref b1)] [(.int (own_lead (pp &&& (255 : Int32)) n (((((top &&& (255 : Int32)) &&& (127 : Int32)).toInt64) * ((1 : Int64) <<< (((8 : Int32) * (n - (1 : Int32))) &&& 0x3f).toInt64)) + (rest &&& (((1 : Int64) <<< (((8 : Int32) * (n - (1 : Int32))) &&& 0x3f).toInt64) - (1 : Int64))))))]))
    refine own_go (fun t k => XS.iload X3.here hx rfl (hb hby at_93) rfl k) ?_
    show OwnFin p e below s _ _ _ (T3.setTop (mkF m 95 #[.val (.int pp), .val (.int top), .val (.int len), .val (.long rest), .second, .val (.int n), .val (.int (pp &&& (255 : Int32))), .val (.int ((top &&& (255 : Int32)) &&& (127 : Int32))), .val (.long ((1 : Int64) <<< (((8 : Int32) * (n - (1 : Int32))) &&& 0x3f).toInt64)), .second, .val (.long (rest &&& (((1 : Int64) <<< (((8 : Int32) * (n - (1 : Int32))) &&& 0x3f).toInt64) - (1 : Int64)))), .second, .val (.long (((((top &&& (255 : Int32)) &&& (127 : Int32)).toInt64) * ((1 : Int64) <<< (((8 : Int32) * (n - (1 : Int32))) &&& 0x3f).toInt64)) + (rest &&& (((1 : Int64) <<< (((8 : Int32) * (n - (1 : Int32))) &&& 0x3f).toInt64) - (1 : Int64))))), .second, .val (.int ((pp &&& (255 : Int32)) ||| ((top &&& (255 : Int32)) &&& (127 : Int32)))), .val (.ref b1)] [(.int ((pp &&& (255 : Int32)) ||| ((top &&& (255 : Int32)) &&& (127 : Int32)))), (.int (own_lead (pp &&& (255 : Int32)) n (((((top &&& (255 : Int32)) &&& (127 : Int32)).toInt64) * ((1 : Int64) <<< (((8 : Int32) * (n - (1 : Int32))) &&& 0x3f).toInt64)) + (rest &&& (((1 : Int64) <<< (((8 : Int32) * (n - (1 : Int32))) &&& 0x3f).toInt64) - (1 : Int64))))))]))
    by_cases hc95 : (own_lead (pp &&& (255 : Int32)) n (((((top &&& (255 : Int32)) &&& (127 : Int32)).toInt64) * ((1 : Int64) <<< (((8 : Int32) * (n - (1 : Int32))) &&& 0x3f).toInt64)) + (rest &&& (((1 : Int64) <<< (((8 : Int32) * (n - (1 : Int32))) &&& 0x3f).toInt64) - (1 : Int64))))) = ((pp &&& (255 : Int32)) ||| ((top &&& (255 : Int32)) &&& (127 : Int32)))
    · refine own_go (fun t k => XS.icmpNo X3.here hx rfl (hb hby at_95) rfl (teq hc95).2 k) ?_
      show OwnFin p e below s _ _ _ (T3.setTop (mkF m 98 #[.val (.int pp), .val (.int top), .val (.int len), .val (.long rest), .second, .val (.int n), .val (.int (pp &&& (255 : Int32))), .val (.int ((top &&& (255 : Int32)) &&& (127 : Int32))), .val (.long ((1 : Int64) <<< (((8 : Int32) * (n - (1 : Int32))) &&& 0x3f).toInt64)), .second, .val (.long (rest &&& (((1 : Int64) <<< (((8 : Int32) * (n - (1 : Int32))) &&& 0x3f).toInt64) - (1 : Int64)))), .second, .val (.long (((((top &&& (255 : Int32)) &&& (127 : Int32)).toInt64) * ((1 : Int64) <<< (((8 : Int32) * (n - (1 : Int32))) &&& 0x3f).toInt64)) + (rest &&& (((1 : Int64) <<< (((8 : Int32) * (n - (1 : Int32))) &&& 0x3f).toInt64) - (1 : Int64))))), .second, .val (.int ((pp &&& (255 : Int32)) ||| ((top &&& (255 : Int32)) &&& (127 : Int32)))), .val (.ref b1)] []))
      refine own_go (fun t k => XS.iconst X3.here hx rfl (hb hby at_98) k) ?_
      show OwnFin p e below s _ _ _ (T3.setTop (mkF m 99 #[.val (.int pp), .val (.int top), .val (.int len), .val (.long rest), .second, .val (.int n), .val (.int (pp &&& (255 : Int32))), .val (.int ((top &&& (255 : Int32)) &&& (127 : Int32))), .val (.long ((1 : Int64) <<< (((8 : Int32) * (n - (1 : Int32))) &&& 0x3f).toInt64)), .second, .val (.long (rest &&& (((1 : Int64) <<< (((8 : Int32) * (n - (1 : Int32))) &&& 0x3f).toInt64) - (1 : Int64)))), .second, .val (.long (((((top &&& (255 : Int32)) &&& (127 : Int32)).toInt64) * ((1 : Int64) <<< (((8 : Int32) * (n - (1 : Int32))) &&& 0x3f).toInt64)) + (rest &&& (((1 : Int64) <<< (((8 : Int32) * (n - (1 : Int32))) &&& 0x3f).toInt64) - (1 : Int64))))), .second, .val (.int ((pp &&& (255 : Int32)) ||| ((top &&& (255 : Int32)) &&& (127 : Int32)))), .val (.ref b1)] [(.int (1 : Int32))]))
      refine own_go (fun t k => XS.goto X3.here hx rfl (pc0 := 99) (pc' := 103) rfl (hb hby at_99) (by decide) (by decide) k) ?_
      show OwnFin p e below s _ _ _ (T3.setTop (mkF m 103 #[.val (.int pp), .val (.int top), .val (.int len), .val (.long rest), .second, .val (.int n), .val (.int (pp &&& (255 : Int32))), .val (.int ((top &&& (255 : Int32)) &&& (127 : Int32))), .val (.long ((1 : Int64) <<< (((8 : Int32) * (n - (1 : Int32))) &&& 0x3f).toInt64)), .second, .val (.long (rest &&& (((1 : Int64) <<< (((8 : Int32) * (n - (1 : Int32))) &&& 0x3f).toInt64) - (1 : Int64)))), .second, .val (.long (((((top &&& (255 : Int32)) &&& (127 : Int32)).toInt64) * ((1 : Int64) <<< (((8 : Int32) * (n - (1 : Int32))) &&& 0x3f).toInt64)) + (rest &&& (((1 : Int64) <<< (((8 : Int32) * (n - (1 : Int32))) &&& 0x3f).toInt64) - (1 : Int64))))), .second, .val (.int ((pp &&& (255 : Int32)) ||| ((top &&& (255 : Int32)) &&& (127 : Int32)))), .val (.ref b1)] [(.int (1 : Int32))]))
      refine own_ret X3 (v := some (.int (1 : Int32))) hlk (fun hh => by rw [hret] at hh; cases hh) (fun fs hr => retN X3 hx (t := .boolean) hret (by simp) (hb hby at_103) hr) (by decide) (by decide) ?_
      exact ⟨rfl, N3⟩
    · refine own_go (fun t k => XS.icmpYes X3.here hx rfl (pc0 := 95) (pc' := 102) rfl (hb hby at_95) rfl (feq hc95).2 (by decide) (by decide) k) ?_
      show OwnFin p e below s _ _ _ (T3.setTop (mkF m 102 #[.val (.int pp), .val (.int top), .val (.int len), .val (.long rest), .second, .val (.int n), .val (.int (pp &&& (255 : Int32))), .val (.int ((top &&& (255 : Int32)) &&& (127 : Int32))), .val (.long ((1 : Int64) <<< (((8 : Int32) * (n - (1 : Int32))) &&& 0x3f).toInt64)), .second, .val (.long (rest &&& (((1 : Int64) <<< (((8 : Int32) * (n - (1 : Int32))) &&& 0x3f).toInt64) - (1 : Int64)))), .second, .val (.long (((((top &&& (255 : Int32)) &&& (127 : Int32)).toInt64) * ((1 : Int64) <<< (((8 : Int32) * (n - (1 : Int32))) &&& 0x3f).toInt64)) + (rest &&& (((1 : Int64) <<< (((8 : Int32) * (n - (1 : Int32))) &&& 0x3f).toInt64) - (1 : Int64))))), .second, .val (.int ((pp &&& (255 : Int32)) ||| ((top &&& (255 : Int32)) &&& (127 : Int32)))), .val (.ref b1)] []))
      refine own_go (fun t k => XS.iconst X3.here hx rfl (hb hby at_102) k) ?_
      show OwnFin p e below s _ _ _ (T3.setTop (mkF m 103 #[.val (.int pp), .val (.int top), .val (.int len), .val (.long rest), .second, .val (.int n), .val (.int (pp &&& (255 : Int32))), .val (.int ((top &&& (255 : Int32)) &&& (127 : Int32))), .val (.long ((1 : Int64) <<< (((8 : Int32) * (n - (1 : Int32))) &&& 0x3f).toInt64)), .second, .val (.long (rest &&& (((1 : Int64) <<< (((8 : Int32) * (n - (1 : Int32))) &&& 0x3f).toInt64) - (1 : Int64)))), .second, .val (.long (((((top &&& (255 : Int32)) &&& (127 : Int32)).toInt64) * ((1 : Int64) <<< (((8 : Int32) * (n - (1 : Int32))) &&& 0x3f).toInt64)) + (rest &&& (((1 : Int64) <<< (((8 : Int32) * (n - (1 : Int32))) &&& 0x3f).toInt64) - (1 : Int64))))), .second, .val (.int ((pp &&& (255 : Int32)) ||| ((top &&& (255 : Int32)) &&& (127 : Int32)))), .val (.ref b1)] [(.int (0 : Int32))]))
      exact absurd (own_lead_ok8 pp top rest hc26) hc95
  · refine own_go (fun t k => XS.icmpYes X0.here hx rfl (pc0 := 26) (pc' := 36) rfl (hb hby at_26) rfl (feq hc26).2 (by decide) (by decide) k) ?_
    show OwnFin p e below s _ _ _ (s₁.setTop (mkF m 36 #[.val (.int pp), .val (.int top), .val (.int len), .val (.long rest), .second, .val (.int n), .val (.int (pp &&& (255 : Int32))), .val (.int (top &&& (255 : Int32))), .unset, .unset, .unset, .unset, .unset, .unset, .unset, .unset] []))
    refine own_go (fun t k => XS.lconst X0.here hx rfl (hb hby at_36) k) ?_
    show OwnFin p e below s _ _ _ (s₁.setTop (mkF m 37 #[.val (.int pp), .val (.int top), .val (.int len), .val (.long rest), .second, .val (.int n), .val (.int (pp &&& (255 : Int32))), .val (.int (top &&& (255 : Int32))), .unset, .unset, .unset, .unset, .unset, .unset, .unset, .unset] [(.long (1 : Int64))]))
    refine own_go (fun t k => XS.bipush X0.here hx rfl (hb hby at_37) k) ?_
    show OwnFin p e below s _ _ _ (s₁.setTop (mkF m 39 #[.val (.int pp), .val (.int top), .val (.int len), .val (.long rest), .second, .val (.int n), .val (.int (pp &&& (255 : Int32))), .val (.int (top &&& (255 : Int32))), .unset, .unset, .unset, .unset, .unset, .unset, .unset, .unset] [(.int (8 : Int32)), (.long (1 : Int64))]))
    refine own_go (fun t k => XS.iload X0.here hx rfl (hb hby at_39) rfl k) ?_
    show OwnFin p e below s _ _ _ (s₁.setTop (mkF m 41 #[.val (.int pp), .val (.int top), .val (.int len), .val (.long rest), .second, .val (.int n), .val (.int (pp &&& (255 : Int32))), .val (.int (top &&& (255 : Int32))), .unset, .unset, .unset, .unset, .unset, .unset, .unset, .unset] [(.int n), (.int (8 : Int32)), (.long (1 : Int64))]))
    refine own_go (fun t k => XS.iconst X0.here hx rfl (hb hby at_41) k) ?_
    show OwnFin p e below s _ _ _ (s₁.setTop (mkF m 42 #[.val (.int pp), .val (.int top), .val (.int len), .val (.long rest), .second, .val (.int n), .val (.int (pp &&& (255 : Int32))), .val (.int (top &&& (255 : Int32))), .unset, .unset, .unset, .unset, .unset, .unset, .unset, .unset] [(.int (1 : Int32)), (.int n), (.int (8 : Int32)), (.long (1 : Int64))]))
    refine own_go (fun t k => XS.isub X0.here hx rfl (hb hby at_42) rfl k) ?_
    show OwnFin p e below s _ _ _ (s₁.setTop (mkF m 43 #[.val (.int pp), .val (.int top), .val (.int len), .val (.long rest), .second, .val (.int n), .val (.int (pp &&& (255 : Int32))), .val (.int (top &&& (255 : Int32))), .unset, .unset, .unset, .unset, .unset, .unset, .unset, .unset] [(.int (n - (1 : Int32))), (.int (8 : Int32)), (.long (1 : Int64))]))
    refine own_go (fun t k => XS.imul X0.here hx rfl (hb hby at_43) rfl k) ?_
    show OwnFin p e below s _ _ _ (s₁.setTop (mkF m 44 #[.val (.int pp), .val (.int top), .val (.int len), .val (.long rest), .second, .val (.int n), .val (.int (pp &&& (255 : Int32))), .val (.int (top &&& (255 : Int32))), .unset, .unset, .unset, .unset, .unset, .unset, .unset, .unset] [(.int ((8 : Int32) * (n - (1 : Int32)))), (.long (1 : Int64))]))
    refine own_go (fun t k => XS.lshl X0.here hx rfl (hb hby at_44) rfl k) ?_
    show OwnFin p e below s _ _ _ (s₁.setTop (mkF m 45 #[.val (.int pp), .val (.int top), .val (.int len), .val (.long rest), .second, .val (.int n), .val (.int (pp &&& (255 : Int32))), .val (.int (top &&& (255 : Int32))), .unset, .unset, .unset, .unset, .unset, .unset, .unset, .unset] [(.long ((1 : Int64) <<< (((8 : Int32) * (n - (1 : Int32))) &&& 0x3f).toInt64))]))
    refine own_go (fun t k => XS.lstore X0.here hx rfl (hb hby at_45) rfl (l' := #[.val (.int pp), .val (.int top), .val (.int len), .val (.long rest), .second, .val (.int n), .val (.int (pp &&& (255 : Int32))), .val (.int (top &&& (255 : Int32))), .val (.long ((1 : Int64) <<< (((8 : Int32) * (n - (1 : Int32))) &&& 0x3f).toInt64)), .second, .unset, .unset, .unset, .unset, .unset, .unset]) rfl k) ?_
    show OwnFin p e below s _ _ _ (s₁.setTop (mkF m 47 #[.val (.int pp), .val (.int top), .val (.int len), .val (.long rest), .second, .val (.int n), .val (.int (pp &&& (255 : Int32))), .val (.int (top &&& (255 : Int32))), .val (.long ((1 : Int64) <<< (((8 : Int32) * (n - (1 : Int32))) &&& 0x3f).toInt64)), .second, .unset, .unset, .unset, .unset, .unset, .unset] []))
    refine own_go (fun t k => XS.lloadN X0.here hx rfl (hb hby at_47) rfl k) ?_
    show OwnFin p e below s _ _ _ (s₁.setTop (mkF m 48 #[.val (.int pp), .val (.int top), .val (.int len), .val (.long rest), .second, .val (.int n), .val (.int (pp &&& (255 : Int32))), .val (.int (top &&& (255 : Int32))), .val (.long ((1 : Int64) <<< (((8 : Int32) * (n - (1 : Int32))) &&& 0x3f).toInt64)), .second, .unset, .unset, .unset, .unset, .unset, .unset] [(.long rest)]))
    refine own_go (fun t k => XS.lload X0.here hx rfl (hb hby at_48) rfl k) ?_
    show OwnFin p e below s _ _ _ (s₁.setTop (mkF m 50 #[.val (.int pp), .val (.int top), .val (.int len), .val (.long rest), .second, .val (.int n), .val (.int (pp &&& (255 : Int32))), .val (.int (top &&& (255 : Int32))), .val (.long ((1 : Int64) <<< (((8 : Int32) * (n - (1 : Int32))) &&& 0x3f).toInt64)), .second, .unset, .unset, .unset, .unset, .unset, .unset] [(.long ((1 : Int64) <<< (((8 : Int32) * (n - (1 : Int32))) &&& 0x3f).toInt64)), (.long rest)]))
    refine own_go (fun t k => XS.lconst X0.here hx rfl (hb hby at_50) k) ?_
    show OwnFin p e below s _ _ _ (s₁.setTop (mkF m 51 #[.val (.int pp), .val (.int top), .val (.int len), .val (.long rest), .second, .val (.int n), .val (.int (pp &&& (255 : Int32))), .val (.int (top &&& (255 : Int32))), .val (.long ((1 : Int64) <<< (((8 : Int32) * (n - (1 : Int32))) &&& 0x3f).toInt64)), .second, .unset, .unset, .unset, .unset, .unset, .unset] [(.long (1 : Int64)), (.long ((1 : Int64) <<< (((8 : Int32) * (n - (1 : Int32))) &&& 0x3f).toInt64)), (.long rest)]))
    refine own_go (fun t k => XS.lsub X0.here hx rfl (hb hby at_51) rfl k) ?_
    show OwnFin p e below s _ _ _ (s₁.setTop (mkF m 52 #[.val (.int pp), .val (.int top), .val (.int len), .val (.long rest), .second, .val (.int n), .val (.int (pp &&& (255 : Int32))), .val (.int (top &&& (255 : Int32))), .val (.long ((1 : Int64) <<< (((8 : Int32) * (n - (1 : Int32))) &&& 0x3f).toInt64)), .second, .unset, .unset, .unset, .unset, .unset, .unset] [(.long (((1 : Int64) <<< (((8 : Int32) * (n - (1 : Int32))) &&& 0x3f).toInt64) - (1 : Int64))), (.long rest)]))
    refine own_go (fun t k => XS.land X0.here hx rfl (hb hby at_52) rfl k) ?_
    show OwnFin p e below s _ _ _ (s₁.setTop (mkF m 53 #[.val (.int pp), .val (.int top), .val (.int len), .val (.long rest), .second, .val (.int n), .val (.int (pp &&& (255 : Int32))), .val (.int (top &&& (255 : Int32))), .val (.long ((1 : Int64) <<< (((8 : Int32) * (n - (1 : Int32))) &&& 0x3f).toInt64)), .second, .unset, .unset, .unset, .unset, .unset, .unset] [(.long (rest &&& (((1 : Int64) <<< (((8 : Int32) * (n - (1 : Int32))) &&& 0x3f).toInt64) - (1 : Int64))))]))
    refine own_go (fun t k => XS.lstore X0.here hx rfl (hb hby at_53) rfl (l' := #[.val (.int pp), .val (.int top), .val (.int len), .val (.long rest), .second, .val (.int n), .val (.int (pp &&& (255 : Int32))), .val (.int (top &&& (255 : Int32))), .val (.long ((1 : Int64) <<< (((8 : Int32) * (n - (1 : Int32))) &&& 0x3f).toInt64)), .second, .val (.long (rest &&& (((1 : Int64) <<< (((8 : Int32) * (n - (1 : Int32))) &&& 0x3f).toInt64) - (1 : Int64)))), .second, .unset, .unset, .unset, .unset]) rfl k) ?_
    show OwnFin p e below s _ _ _ (s₁.setTop (mkF m 55 #[.val (.int pp), .val (.int top), .val (.int len), .val (.long rest), .second, .val (.int n), .val (.int (pp &&& (255 : Int32))), .val (.int (top &&& (255 : Int32))), .val (.long ((1 : Int64) <<< (((8 : Int32) * (n - (1 : Int32))) &&& 0x3f).toInt64)), .second, .val (.long (rest &&& (((1 : Int64) <<< (((8 : Int32) * (n - (1 : Int32))) &&& 0x3f).toInt64) - (1 : Int64)))), .second, .unset, .unset, .unset, .unset] []))
    refine own_go (fun t k => XS.iload X0.here hx rfl (hb hby at_55) rfl k) ?_
    show OwnFin p e below s _ _ _ (s₁.setTop (mkF m 57 #[.val (.int pp), .val (.int top), .val (.int len), .val (.long rest), .second, .val (.int n), .val (.int (pp &&& (255 : Int32))), .val (.int (top &&& (255 : Int32))), .val (.long ((1 : Int64) <<< (((8 : Int32) * (n - (1 : Int32))) &&& 0x3f).toInt64)), .second, .val (.long (rest &&& (((1 : Int64) <<< (((8 : Int32) * (n - (1 : Int32))) &&& 0x3f).toInt64) - (1 : Int64)))), .second, .unset, .unset, .unset, .unset] [(.int (top &&& (255 : Int32)))]))
    refine own_go (fun t k => XS.i2l X0.here hx rfl (hb hby at_57) rfl k) ?_
    show OwnFin p e below s _ _ _ (s₁.setTop (mkF m 58 #[.val (.int pp), .val (.int top), .val (.int len), .val (.long rest), .second, .val (.int n), .val (.int (pp &&& (255 : Int32))), .val (.int (top &&& (255 : Int32))), .val (.long ((1 : Int64) <<< (((8 : Int32) * (n - (1 : Int32))) &&& 0x3f).toInt64)), .second, .val (.long (rest &&& (((1 : Int64) <<< (((8 : Int32) * (n - (1 : Int32))) &&& 0x3f).toInt64) - (1 : Int64)))), .second, .unset, .unset, .unset, .unset] [(.long ((top &&& (255 : Int32)).toInt64))]))
    refine own_go (fun t k => XS.lload X0.here hx rfl (hb hby at_58) rfl k) ?_
    show OwnFin p e below s _ _ _ (s₁.setTop (mkF m 60 #[.val (.int pp), .val (.int top), .val (.int len), .val (.long rest), .second, .val (.int n), .val (.int (pp &&& (255 : Int32))), .val (.int (top &&& (255 : Int32))), .val (.long ((1 : Int64) <<< (((8 : Int32) * (n - (1 : Int32))) &&& 0x3f).toInt64)), .second, .val (.long (rest &&& (((1 : Int64) <<< (((8 : Int32) * (n - (1 : Int32))) &&& 0x3f).toInt64) - (1 : Int64)))), .second, .unset, .unset, .unset, .unset] [(.long ((1 : Int64) <<< (((8 : Int32) * (n - (1 : Int32))) &&& 0x3f).toInt64)), (.long ((top &&& (255 : Int32)).toInt64))]))
    refine own_go (fun t k => XS.lmul X0.here hx rfl (hb hby at_60) rfl k) ?_
    show OwnFin p e below s _ _ _ (s₁.setTop (mkF m 61 #[.val (.int pp), .val (.int top), .val (.int len), .val (.long rest), .second, .val (.int n), .val (.int (pp &&& (255 : Int32))), .val (.int (top &&& (255 : Int32))), .val (.long ((1 : Int64) <<< (((8 : Int32) * (n - (1 : Int32))) &&& 0x3f).toInt64)), .second, .val (.long (rest &&& (((1 : Int64) <<< (((8 : Int32) * (n - (1 : Int32))) &&& 0x3f).toInt64) - (1 : Int64)))), .second, .unset, .unset, .unset, .unset] [(.long (((top &&& (255 : Int32)).toInt64) * ((1 : Int64) <<< (((8 : Int32) * (n - (1 : Int32))) &&& 0x3f).toInt64)))]))
    refine own_go (fun t k => XS.lload X0.here hx rfl (hb hby at_61) rfl k) ?_
    show OwnFin p e below s _ _ _ (s₁.setTop (mkF m 63 #[.val (.int pp), .val (.int top), .val (.int len), .val (.long rest), .second, .val (.int n), .val (.int (pp &&& (255 : Int32))), .val (.int (top &&& (255 : Int32))), .val (.long ((1 : Int64) <<< (((8 : Int32) * (n - (1 : Int32))) &&& 0x3f).toInt64)), .second, .val (.long (rest &&& (((1 : Int64) <<< (((8 : Int32) * (n - (1 : Int32))) &&& 0x3f).toInt64) - (1 : Int64)))), .second, .unset, .unset, .unset, .unset] [(.long (rest &&& (((1 : Int64) <<< (((8 : Int32) * (n - (1 : Int32))) &&& 0x3f).toInt64) - (1 : Int64)))), (.long (((top &&& (255 : Int32)).toInt64) * ((1 : Int64) <<< (((8 : Int32) * (n - (1 : Int32))) &&& 0x3f).toInt64)))]))
    refine own_go (fun t k => XS.ladd X0.here hx rfl (hb hby at_63) rfl k) ?_
    show OwnFin p e below s _ _ _ (s₁.setTop (mkF m 64 #[.val (.int pp), .val (.int top), .val (.int len), .val (.long rest), .second, .val (.int n), .val (.int (pp &&& (255 : Int32))), .val (.int (top &&& (255 : Int32))), .val (.long ((1 : Int64) <<< (((8 : Int32) * (n - (1 : Int32))) &&& 0x3f).toInt64)), .second, .val (.long (rest &&& (((1 : Int64) <<< (((8 : Int32) * (n - (1 : Int32))) &&& 0x3f).toInt64) - (1 : Int64)))), .second, .unset, .unset, .unset, .unset] [(.long ((((top &&& (255 : Int32)).toInt64) * ((1 : Int64) <<< (((8 : Int32) * (n - (1 : Int32))) &&& 0x3f).toInt64)) + (rest &&& (((1 : Int64) <<< (((8 : Int32) * (n - (1 : Int32))) &&& 0x3f).toInt64) - (1 : Int64)))))]))
    refine own_go (fun t k => XS.lstore X0.here hx rfl (hb hby at_64) rfl (l' := #[.val (.int pp), .val (.int top), .val (.int len), .val (.long rest), .second, .val (.int n), .val (.int (pp &&& (255 : Int32))), .val (.int (top &&& (255 : Int32))), .val (.long ((1 : Int64) <<< (((8 : Int32) * (n - (1 : Int32))) &&& 0x3f).toInt64)), .second, .val (.long (rest &&& (((1 : Int64) <<< (((8 : Int32) * (n - (1 : Int32))) &&& 0x3f).toInt64) - (1 : Int64)))), .second, .val (.long ((((top &&& (255 : Int32)).toInt64) * ((1 : Int64) <<< (((8 : Int32) * (n - (1 : Int32))) &&& 0x3f).toInt64)) + (rest &&& (((1 : Int64) <<< (((8 : Int32) * (n - (1 : Int32))) &&& 0x3f).toInt64) - (1 : Int64))))), .second, .unset, .unset]) rfl k) ?_
    show OwnFin p e below s _ _ _ (s₁.setTop (mkF m 66 #[.val (.int pp), .val (.int top), .val (.int len), .val (.long rest), .second, .val (.int n), .val (.int (pp &&& (255 : Int32))), .val (.int (top &&& (255 : Int32))), .val (.long ((1 : Int64) <<< (((8 : Int32) * (n - (1 : Int32))) &&& 0x3f).toInt64)), .second, .val (.long (rest &&& (((1 : Int64) <<< (((8 : Int32) * (n - (1 : Int32))) &&& 0x3f).toInt64) - (1 : Int64)))), .second, .val (.long ((((top &&& (255 : Int32)).toInt64) * ((1 : Int64) <<< (((8 : Int32) * (n - (1 : Int32))) &&& 0x3f).toInt64)) + (rest &&& (((1 : Int64) <<< (((8 : Int32) * (n - (1 : Int32))) &&& 0x3f).toInt64) - (1 : Int64))))), .second, .unset, .unset] []))
    refine own_go (fun t k => XS.iload X0.here hx rfl (hb hby at_66) rfl k) ?_
    show OwnFin p e below s _ _ _ (s₁.setTop (mkF m 68 #[.val (.int pp), .val (.int top), .val (.int len), .val (.long rest), .second, .val (.int n), .val (.int (pp &&& (255 : Int32))), .val (.int (top &&& (255 : Int32))), .val (.long ((1 : Int64) <<< (((8 : Int32) * (n - (1 : Int32))) &&& 0x3f).toInt64)), .second, .val (.long (rest &&& (((1 : Int64) <<< (((8 : Int32) * (n - (1 : Int32))) &&& 0x3f).toInt64) - (1 : Int64)))), .second, .val (.long ((((top &&& (255 : Int32)).toInt64) * ((1 : Int64) <<< (((8 : Int32) * (n - (1 : Int32))) &&& 0x3f).toInt64)) + (rest &&& (((1 : Int64) <<< (((8 : Int32) * (n - (1 : Int32))) &&& 0x3f).toInt64) - (1 : Int64))))), .second, .unset, .unset] [(.int (pp &&& (255 : Int32)))]))
    refine own_go (fun t k => XS.iload X0.here hx rfl (hb hby at_68) rfl k) ?_
    show OwnFin p e below s _ _ _ (s₁.setTop (mkF m 70 #[.val (.int pp), .val (.int top), .val (.int len), .val (.long rest), .second, .val (.int n), .val (.int (pp &&& (255 : Int32))), .val (.int (top &&& (255 : Int32))), .val (.long ((1 : Int64) <<< (((8 : Int32) * (n - (1 : Int32))) &&& 0x3f).toInt64)), .second, .val (.long (rest &&& (((1 : Int64) <<< (((8 : Int32) * (n - (1 : Int32))) &&& 0x3f).toInt64) - (1 : Int64)))), .second, .val (.long ((((top &&& (255 : Int32)).toInt64) * ((1 : Int64) <<< (((8 : Int32) * (n - (1 : Int32))) &&& 0x3f).toInt64)) + (rest &&& (((1 : Int64) <<< (((8 : Int32) * (n - (1 : Int32))) &&& 0x3f).toInt64) - (1 : Int64))))), .second, .unset, .unset] [(.int (top &&& (255 : Int32))), (.int (pp &&& (255 : Int32)))]))
    refine own_go (fun t k => XS.ior X0.here hx rfl (hb hby at_70) rfl k) ?_
    show OwnFin p e below s _ _ _ (s₁.setTop (mkF m 71 #[.val (.int pp), .val (.int top), .val (.int len), .val (.long rest), .second, .val (.int n), .val (.int (pp &&& (255 : Int32))), .val (.int (top &&& (255 : Int32))), .val (.long ((1 : Int64) <<< (((8 : Int32) * (n - (1 : Int32))) &&& 0x3f).toInt64)), .second, .val (.long (rest &&& (((1 : Int64) <<< (((8 : Int32) * (n - (1 : Int32))) &&& 0x3f).toInt64) - (1 : Int64)))), .second, .val (.long ((((top &&& (255 : Int32)).toInt64) * ((1 : Int64) <<< (((8 : Int32) * (n - (1 : Int32))) &&& 0x3f).toInt64)) + (rest &&& (((1 : Int64) <<< (((8 : Int32) * (n - (1 : Int32))) &&& 0x3f).toInt64) - (1 : Int64))))), .second, .unset, .unset] [(.int ((pp &&& (255 : Int32)) ||| (top &&& (255 : Int32))))]))
    refine own_go (fun t k => XS.istore X0.here hx rfl (hb hby at_71) rfl (l' := #[.val (.int pp), .val (.int top), .val (.int len), .val (.long rest), .second, .val (.int n), .val (.int (pp &&& (255 : Int32))), .val (.int (top &&& (255 : Int32))), .val (.long ((1 : Int64) <<< (((8 : Int32) * (n - (1 : Int32))) &&& 0x3f).toInt64)), .second, .val (.long (rest &&& (((1 : Int64) <<< (((8 : Int32) * (n - (1 : Int32))) &&& 0x3f).toInt64) - (1 : Int64)))), .second, .val (.long ((((top &&& (255 : Int32)).toInt64) * ((1 : Int64) <<< (((8 : Int32) * (n - (1 : Int32))) &&& 0x3f).toInt64)) + (rest &&& (((1 : Int64) <<< (((8 : Int32) * (n - (1 : Int32))) &&& 0x3f).toInt64) - (1 : Int64))))), .second, .val (.int ((pp &&& (255 : Int32)) ||| (top &&& (255 : Int32)))), .unset]) rfl k) ?_
    show OwnFin p e below s _ _ _ (s₁.setTop (mkF m 73 #[.val (.int pp), .val (.int top), .val (.int len), .val (.long rest), .second, .val (.int n), .val (.int (pp &&& (255 : Int32))), .val (.int (top &&& (255 : Int32))), .val (.long ((1 : Int64) <<< (((8 : Int32) * (n - (1 : Int32))) &&& 0x3f).toInt64)), .second, .val (.long (rest &&& (((1 : Int64) <<< (((8 : Int32) * (n - (1 : Int32))) &&& 0x3f).toInt64) - (1 : Int64)))), .second, .val (.long ((((top &&& (255 : Int32)).toInt64) * ((1 : Int64) <<< (((8 : Int32) * (n - (1 : Int32))) &&& 0x3f).toInt64)) + (rest &&& (((1 : Int64) <<< (((8 : Int32) * (n - (1 : Int32))) &&& 0x3f).toInt64) - (1 : Int64))))), .second, .val (.int ((pp &&& (255 : Int32)) ||| (top &&& (255 : Int32)))), .unset] []))
    obtain ⟨T4, h4, X4, e4, E4, A4, D4, -, st4⟩ := newO X0 hx hZ hown (hw _ (List.mem_of_getElem? (i := 0) rfl)) (hw _ (List.mem_of_getElem? (i := 1) rfl)) (hw _ (List.mem_of_getElem? (i := 2) rfl)) e0 (g := (mkF m 73 #[.val (.int pp), .val (.int top), .val (.int len), .val (.long rest), .second, .val (.int n), .val (.int (pp &&& (255 : Int32))), .val (.int (top &&& (255 : Int32))), .val (.long ((1 : Int64) <<< (((8 : Int32) * (n - (1 : Int32))) &&& 0x3f).toInt64)), .second, .val (.long (rest &&& (((1 : Int64) <<< (((8 : Int32) * (n - (1 : Int32))) &&& 0x3f).toInt64) - (1 : Int64)))), .second, .val (.long ((((top &&& (255 : Int32)).toInt64) * ((1 : Int64) <<< (((8 : Int32) * (n - (1 : Int32))) &&& 0x3f).toInt64)) + (rest &&& (((1 : Int64) <<< (((8 : Int32) * (n - (1 : Int32))) &&& 0x3f).toInt64) - (1 : Int64))))), .second, .val (.int ((pp &&& (255 : Int32)) ||| (top &&& (255 : Int32)))), .unset] [])) rfl (hb hby at_73) (by decide) (by decide)
    obtain ⟨b4, g4⟩ : ∃ z, z = h0.size := ⟨_, rfl⟩
    rw [← g4] at A4 D4 st4
    have g_b4 : n0 ≤ b4 := Nat.le_trans Z0 (Nat.le_of_eq g4.symm)
    have Z4 : n0 ≤ h4.size := Nat.le_trans Z0 E4.1
    have E_b4 := A4
    have F_prefix_b4 : Fld Z h4 b4 "com/example/bytefold/bytefold/LengthPrefixForm$Tier" "prefix" "I" (.int (0 : Int32)) := D4 (Or.inr (hw _ (List.mem_of_getElem? (i := 15) rfl))) (ty := .int) (by decide)
    have F_length_b4 : Fld Z h4 b4 "com/example/bytefold/bytefold/LengthPrefixForm$Tier" "length" "I" (.int (0 : Int32)) := D4 (Or.inr (hw _ (List.mem_of_getElem? (i := 17) rfl))) (ty := .int) (by decide)
    have F_largest_b4 : Fld Z h4 b4 "com/example/bytefold/bytefold/LengthPrefixForm$Tier" "largest" "J" (.long (0 : Int64)) := D4 (Or.inr (hw _ (List.mem_of_getElem? (i := 19) rfl))) (ty := .long) (by decide)
    refine own_go st4 ?_
    show OwnFin p e below s _ _ _ (T4.setTop (mkF m 76 #[.val (.int pp), .val (.int top), .val (.int len), .val (.long rest), .second, .val (.int n), .val (.int (pp &&& (255 : Int32))), .val (.int (top &&& (255 : Int32))), .val (.long ((1 : Int64) <<< (((8 : Int32) * (n - (1 : Int32))) &&& 0x3f).toInt64)), .second, .val (.long (rest &&& (((1 : Int64) <<< (((8 : Int32) * (n - (1 : Int32))) &&& 0x3f).toInt64) - (1 : Int64)))), .second, .val (.long ((((top &&& (255 : Int32)).toInt64) * ((1 : Int64) <<< (((8 : Int32) * (n - (1 : Int32))) &&& 0x3f).toInt64)) + (rest &&& (((1 : Int64) <<< (((8 : Int32) * (n - (1 : Int32))) &&& 0x3f).toInt64) - (1 : Int64))))), .second, .val (.int ((pp &&& (255 : Int32)) ||| (top &&& (255 : Int32)))), .unset] [(.ref b4)]))
    refine own_go (fun t k => XS.dup X4.here hx rfl (hb hby at_76) rfl rfl k) ?_
    show OwnFin p e below s _ _ _ (T4.setTop (mkF m 77 #[.val (.int pp), .val (.int top), .val (.int len), .val (.long rest), .second, .val (.int n), .val (.int (pp &&& (255 : Int32))), .val (.int (top &&& (255 : Int32))), .val (.long ((1 : Int64) <<< (((8 : Int32) * (n - (1 : Int32))) &&& 0x3f).toInt64)), .second, .val (.long (rest &&& (((1 : Int64) <<< (((8 : Int32) * (n - (1 : Int32))) &&& 0x3f).toInt64) - (1 : Int64)))), .second, .val (.long ((((top &&& (255 : Int32)).toInt64) * ((1 : Int64) <<< (((8 : Int32) * (n - (1 : Int32))) &&& 0x3f).toInt64)) + (rest &&& (((1 : Int64) <<< (((8 : Int32) * (n - (1 : Int32))) &&& 0x3f).toInt64) - (1 : Int64))))), .second, .val (.int ((pp &&& (255 : Int32)) ||| (top &&& (255 : Int32)))), .unset] [(.ref b4), (.ref b4)]))
    refine own_go (fun t k => XS.iload X4.here hx rfl (hb hby at_77) rfl k) ?_
    show OwnFin p e below s _ _ _ (T4.setTop (mkF m 79 #[.val (.int pp), .val (.int top), .val (.int len), .val (.long rest), .second, .val (.int n), .val (.int (pp &&& (255 : Int32))), .val (.int (top &&& (255 : Int32))), .val (.long ((1 : Int64) <<< (((8 : Int32) * (n - (1 : Int32))) &&& 0x3f).toInt64)), .second, .val (.long (rest &&& (((1 : Int64) <<< (((8 : Int32) * (n - (1 : Int32))) &&& 0x3f).toInt64) - (1 : Int64)))), .second, .val (.long ((((top &&& (255 : Int32)).toInt64) * ((1 : Int64) <<< (((8 : Int32) * (n - (1 : Int32))) &&& 0x3f).toInt64)) + (rest &&& (((1 : Int64) <<< (((8 : Int32) * (n - (1 : Int32))) &&& 0x3f).toInt64) - (1 : Int64))))), .second, .val (.int ((pp &&& (255 : Int32)) ||| (top &&& (255 : Int32)))), .unset] [(.int (pp &&& (255 : Int32))), (.ref b4), (.ref b4)]))
    refine own_go (fun t k => XS.iload X4.here hx rfl (hb hby at_79) rfl k) ?_
    show OwnFin p e below s _ _ _ (T4.setTop (mkF m 81 #[.val (.int pp), .val (.int top), .val (.int len), .val (.long rest), .second, .val (.int n), .val (.int (pp &&& (255 : Int32))), .val (.int (top &&& (255 : Int32))), .val (.long ((1 : Int64) <<< (((8 : Int32) * (n - (1 : Int32))) &&& 0x3f).toInt64)), .second, .val (.long (rest &&& (((1 : Int64) <<< (((8 : Int32) * (n - (1 : Int32))) &&& 0x3f).toInt64) - (1 : Int64)))), .second, .val (.long ((((top &&& (255 : Int32)).toInt64) * ((1 : Int64) <<< (((8 : Int32) * (n - (1 : Int32))) &&& 0x3f).toInt64)) + (rest &&& (((1 : Int64) <<< (((8 : Int32) * (n - (1 : Int32))) &&& 0x3f).toInt64) - (1 : Int64))))), .second, .val (.int ((pp &&& (255 : Int32)) ||| (top &&& (255 : Int32)))), .unset] [(.int n), (.int (pp &&& (255 : Int32))), (.ref b4), (.ref b4)]))
    refine own_go (fun t k => XS.lload X4.here hx rfl (hb hby at_81) rfl k) ?_
    show OwnFin p e below s _ _ _ (T4.setTop (mkF m 83 #[.val (.int pp), .val (.int top), .val (.int len), .val (.long rest), .second, .val (.int n), .val (.int (pp &&& (255 : Int32))), .val (.int (top &&& (255 : Int32))), .val (.long ((1 : Int64) <<< (((8 : Int32) * (n - (1 : Int32))) &&& 0x3f).toInt64)), .second, .val (.long (rest &&& (((1 : Int64) <<< (((8 : Int32) * (n - (1 : Int32))) &&& 0x3f).toInt64) - (1 : Int64)))), .second, .val (.long ((((top &&& (255 : Int32)).toInt64) * ((1 : Int64) <<< (((8 : Int32) * (n - (1 : Int32))) &&& 0x3f).toInt64)) + (rest &&& (((1 : Int64) <<< (((8 : Int32) * (n - (1 : Int32))) &&& 0x3f).toInt64) - (1 : Int64))))), .second, .val (.int ((pp &&& (255 : Int32)) ||| (top &&& (255 : Int32)))), .unset] [(.long ((((top &&& (255 : Int32)).toInt64) * ((1 : Int64) <<< (((8 : Int32) * (n - (1 : Int32))) &&& 0x3f).toInt64)) + (rest &&& (((1 : Int64) <<< (((8 : Int32) * (n - (1 : Int32))) &&& 0x3f).toInt64) - (1 : Int64))))), (.int n), (.int (pp &&& (255 : Int32))), (.ref b4), (.ref b4)]))
    obtain ⟨v5, T5, L5, X5, hQ5, st5⟩ := own_callI X4 hx hZ (y := (⟨"com/example/bytefold/bytefold/LengthPrefixForm$Tier", "<init>", "(IIJ)V"⟩ : MethodName)) rfl hown (hw _ (List.mem_of_getElem? (i := 3) rfl)) (hw _ (List.mem_of_getElem? (i := 4) rfl)) (hw _ (List.mem_of_getElem? (i := 2) rfl)) (hw _ (List.mem_of_getElem? (i := 5) rfl)) (by decide) (W := 1) (rm1 l Z a0 hw [] b4 (pp &&& (255 : Int32)) n ((((top &&& (255 : Int32)).toInt64) * ((1 : Int64) <<< (((8 : Int32) * (n - (1 : Int32))) &&& 0x3f).toInt64)) + (rest &&& (((1 : Int64) <<< (((8 : Int32) * (n - (1 : Int32))) &&& 0x3f).toInt64) - (1 : Int64)))) h4 n0 Z4 E_b4 g_b4 F_prefix_b4 F_length_b4 F_largest_b4) (by decide) (by decide) (g := (mkF m 83 #[.val (.int pp), .val (.int top), .val (.int len), .val (.long rest), .second, .val (.int n), .val (.int (pp &&& (255 : Int32))), .val (.int (top &&& (255 : Int32))), .val (.long ((1 : Int64) <<< (((8 : Int32) * (n - (1 : Int32))) &&& 0x3f).toInt64)), .second, .val (.long (rest &&& (((1 : Int64) <<< (((8 : Int32) * (n - (1 : Int32))) &&& 0x3f).toInt64) - (1 : Int64)))), .second, .val (.long ((((top &&& (255 : Int32)).toInt64) * ((1 : Int64) <<< (((8 : Int32) * (n - (1 : Int32))) &&& 0x3f).toInt64)) + (rest &&& (((1 : Int64) <<< (((8 : Int32) * (n - (1 : Int32))) &&& 0x3f).toInt64) - (1 : Int64))))), .second, .val (.int ((pp &&& (255 : Int32)) ||| (top &&& (255 : Int32)))), .unset] [(.long ((((top &&& (255 : Int32)).toInt64) * ((1 : Int64) <<< (((8 : Int32) * (n - (1 : Int32))) &&& 0x3f).toInt64)) + (rest &&& (((1 : Int64) <<< (((8 : Int32) * (n - (1 : Int32))) &&& 0x3f).toInt64) - (1 : Int64))))), (.int n), (.int (pp &&& (255 : Int32))), (.ref b4), (.ref b4)])) rfl (by rw [hml]; rfl) (a := b4) (argsL := [(.int (pp &&& (255 : Int32))), (.int n), (.long ((((top &&& (255 : Int32)).toInt64) * ((1 : Int64) <<< (((8 : Int32) * (n - (1 : Int32))) &&& 0x3f).toInt64)) + (rest &&& (((1 : Int64) <<< (((8 : Int32) * (n - (1 : Int32))) &&& 0x3f).toInt64) - (1 : Int64)))))]) (rest := [(.ref b4)]) (lenOf pd_0_0 rfl) rfl (by show 2 * 0 + _ ≤ _; exact Nat.le_of_eq rfl) (hb hby at_83) e4 rfl (by decide) (by decide)
    obtain ⟨rfl, Nq5, Kq5, Eq5, Fq5_0, Fq5_1, Fq5_2⟩ := hQ5
    have N5 := Fr.app N0 Nq5
    have E_b4_5 := E_b4.keep Kq5
    have Z5 : n0 ≤ T5.heap.size := Nat.le_trans Z4 Kq5.1
    refine own_go st5 ?_
    show OwnFin p e below s _ _ _ (T5.setTop (mkF m 86 #[.val (.int pp), .val (.int top), .val (.int len), .val (.long rest), .second, .val (.int n), .val (.int (pp &&& (255 : Int32))), .val (.int (top &&& (255 : Int32))), .val (.long ((1 : Int64) <<< (((8 : Int32) * (n - (1 : Int32))) &&& 0x3f).toInt64)), .second, .val (.long (rest &&& (((1 : Int64) <<< (((8 : Int32) * (n - (1 : Int32))) &&& 0x3f).toInt64) - (1 : Int64)))), .second, .val (.long ((((top &&& (255 : Int32)).toInt64) * ((1 : Int64) <<< (((8 : Int32) * (n - (1 : Int32))) &&& 0x3f).toInt64)) + (rest &&& (((1 : Int64) <<< (((8 : Int32) * (n - (1 : Int32))) &&& 0x3f).toInt64) - (1 : Int64))))), .second, .val (.int ((pp &&& (255 : Int32)) ||| (top &&& (255 : Int32)))), .unset] [(.ref b4)]))
    refine own_go (fun t k => XS.astore X5.here hx rfl (hb hby at_86) rfl rfl (l' := #[.val (.int pp), .val (.int top), .val (.int len), .val (.long rest), .second, .val (.int n), .val (.int (pp &&& (255 : Int32))), .val (.int (top &&& (255 : Int32))), .val (.long ((1 : Int64) <<< (((8 : Int32) * (n - (1 : Int32))) &&& 0x3f).toInt64)), .second, .val (.long (rest &&& (((1 : Int64) <<< (((8 : Int32) * (n - (1 : Int32))) &&& 0x3f).toInt64) - (1 : Int64)))), .second, .val (.long ((((top &&& (255 : Int32)).toInt64) * ((1 : Int64) <<< (((8 : Int32) * (n - (1 : Int32))) &&& 0x3f).toInt64)) + (rest &&& (((1 : Int64) <<< (((8 : Int32) * (n - (1 : Int32))) &&& 0x3f).toInt64) - (1 : Int64))))), .second, .val (.int ((pp &&& (255 : Int32)) ||| (top &&& (255 : Int32)))), .val (.ref b4)]) rfl k) ?_
    show OwnFin p e below s _ _ _ (T5.setTop (mkF m 88 #[.val (.int pp), .val (.int top), .val (.int len), .val (.long rest), .second, .val (.int n), .val (.int (pp &&& (255 : Int32))), .val (.int (top &&& (255 : Int32))), .val (.long ((1 : Int64) <<< (((8 : Int32) * (n - (1 : Int32))) &&& 0x3f).toInt64)), .second, .val (.long (rest &&& (((1 : Int64) <<< (((8 : Int32) * (n - (1 : Int32))) &&& 0x3f).toInt64) - (1 : Int64)))), .second, .val (.long ((((top &&& (255 : Int32)).toInt64) * ((1 : Int64) <<< (((8 : Int32) * (n - (1 : Int32))) &&& 0x3f).toInt64)) + (rest &&& (((1 : Int64) <<< (((8 : Int32) * (n - (1 : Int32))) &&& 0x3f).toInt64) - (1 : Int64))))), .second, .val (.int ((pp &&& (255 : Int32)) ||| (top &&& (255 : Int32)))), .val (.ref b4)] []))
    refine own_go (fun t k => XS.aload X5.here hx rfl (hb hby at_88) rfl rfl k) ?_
    show OwnFin p e below s _ _ _ (T5.setTop (mkF m 90 #[.val (.int pp), .val (.int top), .val (.int len), .val (.long rest), .second, .val (.int n), .val (.int (pp &&& (255 : Int32))), .val (.int (top &&& (255 : Int32))), .val (.long ((1 : Int64) <<< (((8 : Int32) * (n - (1 : Int32))) &&& 0x3f).toInt64)), .second, .val (.long (rest &&& (((1 : Int64) <<< (((8 : Int32) * (n - (1 : Int32))) &&& 0x3f).toInt64) - (1 : Int64)))), .second, .val (.long ((((top &&& (255 : Int32)).toInt64) * ((1 : Int64) <<< (((8 : Int32) * (n - (1 : Int32))) &&& 0x3f).toInt64)) + (rest &&& (((1 : Int64) <<< (((8 : Int32) * (n - (1 : Int32))) &&& 0x3f).toInt64) - (1 : Int64))))), .second, .val (.int ((pp &&& (255 : Int32)) ||| (top &&& (255 : Int32)))), .val (.ref b4)] [(.ref b4)]))
    obtain ⟨v6, T6, L6, X6, hQ6, st6⟩ := own_callV X5 hx hZ (y := (⟨"com/example/bytefold/bytefold/LengthPrefixForm$Tier", "lastLead", "()I"⟩ : MethodName)) (z := (⟨"com/example/bytefold/bytefold/LengthPrefixForm$Tier", "lastLead", "()I"⟩ : MethodName)) hown (hw _ (List.mem_of_getElem? (i := 20) rfl)) (hw _ (List.mem_of_getElem? (i := 21) rfl)) (notFace_of_selects (args := #[]) (mvT hZ (hw _ (List.mem_of_getElem? (i := 23) rfl)))) (hw _ (List.mem_of_getElem? (i := 23) rfl)) (hw _ (List.mem_of_getElem? (i := 22) rfl)) (hw _ (List.mem_of_getElem? (i := 2) rfl)) (hw _ (List.mem_of_getElem? (i := 24) rfl)) (by decide) (W := 0) (rm4 l Z a0 hw [] b4 T5.heap n0 Z5 Fq5_0 Fq5_1 Fq5_2) (by decide) (by decide) Eq5 (g := (mkF m 90 #[.val (.int pp), .val (.int top), .val (.int len), .val (.long rest), .second, .val (.int n), .val (.int (pp &&& (255 : Int32))), .val (.int (top &&& (255 : Int32))), .val (.long ((1 : Int64) <<< (((8 : Int32) * (n - (1 : Int32))) &&& 0x3f).toInt64)), .second, .val (.long (rest &&& (((1 : Int64) <<< (((8 : Int32) * (n - (1 : Int32))) &&& 0x3f).toInt64) - (1 : Int64)))), .second, .val (.long ((((top &&& (255 : Int32)).toInt64) * ((1 : Int64) <<< (((8 : Int32) * (n - (1 : Int32))) &&& 0x3f).toInt64)) + (rest &&& (((1 : Int64) <<< (((8 : Int32) * (n - (1 : Int32))) &&& 0x3f).toInt64) - (1 : Int64))))), .second, .val (.int ((pp &&& (255 : Int32)) ||| (top &&& (255 : Int32)))), .val (.ref b4)] [(.ref b4)])) rfl (by rw [hml]; rfl) (argsL := []) (rest := []) (lenOf pd_0_2 rfl) rfl (by show 2 * 0 + _ ≤ _; exact Nat.le_of_eq rfl) (hb hby at_90) rfl rfl (by decide) (by decide)
    obtain ⟨rfl, Nq6, e6⟩ := hQ6
    have N6 := Fr.app N5 Nq6
    refine own_go st6 ?_
    show OwnFin p e below s _ _ _ (T6.setTop (mkF m 93 #[.val (.int pp), .val (.int top), .val (.int len), .val (.long rest), .second, .val (.int n), .val (.int (pp &&& (255 : Int32))), .val (.int (top &&& (255 : Int32))), .val (.long ((1 : Int64) <<< (((8 : Int32) * (n - (1 : Int32))) &&& 0x3f).toInt64)), .second, .val (.long (rest &&& (((1 : Int64) <<< (((8 : Int32) * (n - (1 : Int32))) &&& 0x3f).toInt64) - (1 : Int64)))), .second, .val (.long ((((top &&& (255 : Int32)).toInt64) * ((1 : Int64) <<< (((8 : Int32) * (n - (1 : Int32))) &&& 0x3f).toInt64)) + (rest &&& (((1 : Int64) <<< (((8 : Int32) * (n - (1 : Int32))) &&& 0x3f).toInt64) - (1 : Int64))))), .second, .val (.int ((pp &&& (255 : Int32)) ||| (top &&& (255 : Int32)))), .val (.ref b4)] [(.int (own_lead (pp &&& (255 : Int32)) n ((((top &&& (255 : Int32)).toInt64) * ((1 : Int64) <<< (((8 : Int32) * (n - (1 : Int32))) &&& 0x3f).toInt64)) + (rest &&& (((1 : Int64) <<< (((8 : Int32) * (n - (1 : Int32))) &&& 0x3f).toInt64) - (1 : Int64))))))]))
    refine own_go (fun t k => XS.iload X6.here hx rfl (hb hby at_93) rfl k) ?_
    show OwnFin p e below s _ _ _ (T6.setTop (mkF m 95 #[.val (.int pp), .val (.int top), .val (.int len), .val (.long rest), .second, .val (.int n), .val (.int (pp &&& (255 : Int32))), .val (.int (top &&& (255 : Int32))), .val (.long ((1 : Int64) <<< (((8 : Int32) * (n - (1 : Int32))) &&& 0x3f).toInt64)), .second, .val (.long (rest &&& (((1 : Int64) <<< (((8 : Int32) * (n - (1 : Int32))) &&& 0x3f).toInt64) - (1 : Int64)))), .second, .val (.long ((((top &&& (255 : Int32)).toInt64) * ((1 : Int64) <<< (((8 : Int32) * (n - (1 : Int32))) &&& 0x3f).toInt64)) + (rest &&& (((1 : Int64) <<< (((8 : Int32) * (n - (1 : Int32))) &&& 0x3f).toInt64) - (1 : Int64))))), .second, .val (.int ((pp &&& (255 : Int32)) ||| (top &&& (255 : Int32)))), .val (.ref b4)] [(.int ((pp &&& (255 : Int32)) ||| (top &&& (255 : Int32)))), (.int (own_lead (pp &&& (255 : Int32)) n ((((top &&& (255 : Int32)).toInt64) * ((1 : Int64) <<< (((8 : Int32) * (n - (1 : Int32))) &&& 0x3f).toInt64)) + (rest &&& (((1 : Int64) <<< (((8 : Int32) * (n - (1 : Int32))) &&& 0x3f).toInt64) - (1 : Int64))))))]))
    by_cases hc95 : (own_lead (pp &&& (255 : Int32)) n ((((top &&& (255 : Int32)).toInt64) * ((1 : Int64) <<< (((8 : Int32) * (n - (1 : Int32))) &&& 0x3f).toInt64)) + (rest &&& (((1 : Int64) <<< (((8 : Int32) * (n - (1 : Int32))) &&& 0x3f).toInt64) - (1 : Int64))))) = ((pp &&& (255 : Int32)) ||| (top &&& (255 : Int32)))
    · refine own_go (fun t k => XS.icmpNo X6.here hx rfl (hb hby at_95) rfl (teq hc95).2 k) ?_
      show OwnFin p e below s _ _ _ (T6.setTop (mkF m 98 #[.val (.int pp), .val (.int top), .val (.int len), .val (.long rest), .second, .val (.int n), .val (.int (pp &&& (255 : Int32))), .val (.int (top &&& (255 : Int32))), .val (.long ((1 : Int64) <<< (((8 : Int32) * (n - (1 : Int32))) &&& 0x3f).toInt64)), .second, .val (.long (rest &&& (((1 : Int64) <<< (((8 : Int32) * (n - (1 : Int32))) &&& 0x3f).toInt64) - (1 : Int64)))), .second, .val (.long ((((top &&& (255 : Int32)).toInt64) * ((1 : Int64) <<< (((8 : Int32) * (n - (1 : Int32))) &&& 0x3f).toInt64)) + (rest &&& (((1 : Int64) <<< (((8 : Int32) * (n - (1 : Int32))) &&& 0x3f).toInt64) - (1 : Int64))))), .second, .val (.int ((pp &&& (255 : Int32)) ||| (top &&& (255 : Int32)))), .val (.ref b4)] []))
      refine own_go (fun t k => XS.iconst X6.here hx rfl (hb hby at_98) k) ?_
      show OwnFin p e below s _ _ _ (T6.setTop (mkF m 99 #[.val (.int pp), .val (.int top), .val (.int len), .val (.long rest), .second, .val (.int n), .val (.int (pp &&& (255 : Int32))), .val (.int (top &&& (255 : Int32))), .val (.long ((1 : Int64) <<< (((8 : Int32) * (n - (1 : Int32))) &&& 0x3f).toInt64)), .second, .val (.long (rest &&& (((1 : Int64) <<< (((8 : Int32) * (n - (1 : Int32))) &&& 0x3f).toInt64) - (1 : Int64)))), .second, .val (.long ((((top &&& (255 : Int32)).toInt64) * ((1 : Int64) <<< (((8 : Int32) * (n - (1 : Int32))) &&& 0x3f).toInt64)) + (rest &&& (((1 : Int64) <<< (((8 : Int32) * (n - (1 : Int32))) &&& 0x3f).toInt64) - (1 : Int64))))), .second, .val (.int ((pp &&& (255 : Int32)) ||| (top &&& (255 : Int32)))), .val (.ref b4)] [(.int (1 : Int32))]))
      refine own_go (fun t k => XS.goto X6.here hx rfl (pc0 := 99) (pc' := 103) rfl (hb hby at_99) (by decide) (by decide) k) ?_
      show OwnFin p e below s _ _ _ (T6.setTop (mkF m 103 #[.val (.int pp), .val (.int top), .val (.int len), .val (.long rest), .second, .val (.int n), .val (.int (pp &&& (255 : Int32))), .val (.int (top &&& (255 : Int32))), .val (.long ((1 : Int64) <<< (((8 : Int32) * (n - (1 : Int32))) &&& 0x3f).toInt64)), .second, .val (.long (rest &&& (((1 : Int64) <<< (((8 : Int32) * (n - (1 : Int32))) &&& 0x3f).toInt64) - (1 : Int64)))), .second, .val (.long ((((top &&& (255 : Int32)).toInt64) * ((1 : Int64) <<< (((8 : Int32) * (n - (1 : Int32))) &&& 0x3f).toInt64)) + (rest &&& (((1 : Int64) <<< (((8 : Int32) * (n - (1 : Int32))) &&& 0x3f).toInt64) - (1 : Int64))))), .second, .val (.int ((pp &&& (255 : Int32)) ||| (top &&& (255 : Int32)))), .val (.ref b4)] [(.int (1 : Int32))]))
      refine own_ret X6 (v := some (.int (1 : Int32))) hlk (fun hh => by rw [hret] at hh; cases hh) (fun fs hr => retN X6 hx (t := .boolean) hret (by simp) (hb hby at_103) hr) (by decide) (by decide) ?_
      exact ⟨rfl, N6⟩
    · refine own_go (fun t k => XS.icmpYes X6.here hx rfl (pc0 := 95) (pc' := 102) rfl (hb hby at_95) rfl (feq hc95).2 (by decide) (by decide) k) ?_
      show OwnFin p e below s _ _ _ (T6.setTop (mkF m 102 #[.val (.int pp), .val (.int top), .val (.int len), .val (.long rest), .second, .val (.int n), .val (.int (pp &&& (255 : Int32))), .val (.int (top &&& (255 : Int32))), .val (.long ((1 : Int64) <<< (((8 : Int32) * (n - (1 : Int32))) &&& 0x3f).toInt64)), .second, .val (.long (rest &&& (((1 : Int64) <<< (((8 : Int32) * (n - (1 : Int32))) &&& 0x3f).toInt64) - (1 : Int64)))), .second, .val (.long ((((top &&& (255 : Int32)).toInt64) * ((1 : Int64) <<< (((8 : Int32) * (n - (1 : Int32))) &&& 0x3f).toInt64)) + (rest &&& (((1 : Int64) <<< (((8 : Int32) * (n - (1 : Int32))) &&& 0x3f).toInt64) - (1 : Int64))))), .second, .val (.int ((pp &&& (255 : Int32)) ||| (top &&& (255 : Int32)))), .val (.ref b4)] []))
      refine own_go (fun t k => XS.iconst X6.here hx rfl (hb hby at_102) k) ?_
      show OwnFin p e below s _ _ _ (T6.setTop (mkF m 103 #[.val (.int pp), .val (.int top), .val (.int len), .val (.long rest), .second, .val (.int n), .val (.int (pp &&& (255 : Int32))), .val (.int (top &&& (255 : Int32))), .val (.long ((1 : Int64) <<< (((8 : Int32) * (n - (1 : Int32))) &&& 0x3f).toInt64)), .second, .val (.long (rest &&& (((1 : Int64) <<< (((8 : Int32) * (n - (1 : Int32))) &&& 0x3f).toInt64) - (1 : Int64)))), .second, .val (.long ((((top &&& (255 : Int32)).toInt64) * ((1 : Int64) <<< (((8 : Int32) * (n - (1 : Int32))) &&& 0x3f).toInt64)) + (rest &&& (((1 : Int64) <<< (((8 : Int32) * (n - (1 : Int32))) &&& 0x3f).toInt64) - (1 : Int64))))), .second, .val (.int ((pp &&& (255 : Int32)) ||| (top &&& (255 : Int32)))), .val (.ref b4)] [(.int (0 : Int32))]))
      exact absurd (own_lead_ok7 pp top len rest h_n hc26) hc95
set_option maxRecDepth 65536 in
set_option maxHeartbeats 40000000 in
theorem comes_1 {Post : Tables → Env → Array Value → State → Outcome → State → Prop} (hpost : ∀ tb e args s v u, (limb_1_1.after args s (.returned v) u = true ∧ limb_1_2.after args s (.returned v) u = true ∧ True) → FrameEnd s (.returned v) u (Jvm.fieldLocs frame_1_writes args s ++ Jvm.arrayLocs frame_1_arrays args s ++ Jvm.staticLocs frame_1_statics s) 16 128 → Post tb e args s (.returned v) u) :
    ArmFor flags0 classFile x code maxLocals ret World_1 tables_1 room_1 Calls_1 rest_1 Pre_1 Post := by
  intro l hfl _ _ p e ha hc hk s m args below hf hA hF happ hP
  obtain ⟨hcalls, hrest, hpre⟩ := hP
  obtain ⟨-, -, -, hnamed, -, -, -, hat⟩ := (Spec.applies_iff hf).mp happ
  obtain ⟨hg, hn⟩ := and_e (Cond.before_iff.mp (show (Jvm.Cond.and given_1 narrow_1).before args s = true from hpre))
  obtain ⟨g1, g2⟩ := and_e hg
  obtain ⟨g3, g4⟩ := and_e g2
  obtain ⟨g5, g6⟩ := and_e g4
  obtain ⟨g7, g8⟩ := and_e g6
  obtain ⟨w0, w1, w2, w3, rfl⟩ : ∃ w0 w1 w2 w3 : Value, args = #[w0, w1, w2, w3] := by
    have hs : args.size = 4 := by simpa [Cond.value, given_1] using g1
    obtain ⟨L⟩ := args
    match L, hs with
    | [w0, w1, w2, w3], _ => exact ⟨w0, w1, w2, w3, rfl⟩
  have hw := fun d (hd : d ∈ tables_1) => atoms_spec (ws := Jvm.Cond.code x code maxLocals ret :: tables_1) hat d (List.mem_cons_of_mem _ hd)
  have hfit : Fit s := fun {y c} hc i hi => by
    obtain ⟨ha, rfl⟩ := Array.getElem?_eq_some_iff.mp hc
    have q := List.all_eq_true.mp ((Array.all_eq_true_iff_forall_mem.mp hF) _ (Array.getElem_mem ha)) i (List.mem_range.mpr hi)
    simpa [Array.getElem?_eq_getElem hi] using q
  obtain ⟨i0, ei0⟩ := is_v g3
  obtain rfl : w0 = (.int i0) := Option.some.inj ei0
  obtain ⟨i1, ei1⟩ := is_v g5
  obtain rfl : w1 = (.int i1) := Option.some.inj ei1
  obtain ⟨i2, ei2⟩ := is_v g7
  obtain rfl : w2 = (.int i2) := Option.some.inj ei2
  obtain ⟨i3, ei3⟩ := isL_v g8
  obtain rfl : w3 = (.long i3) := Option.some.inj ei3
  obtain ⟨n, o, h1, h2, h3, _, L, rfl, ⟨rfl, N⟩, hq⟩ := rm0 l s _ hw tables_1 i0 i1 i2 i3 s.heap s.heap.size (Nat.le_refl _) p e ha hc hk s m _ below hf ((Spec.applies_iff_loose hf).mp happ).1 ⟨rfl, State.Warmed39.refl s, rfl⟩ trivial
  refine ⟨n, _, h1, h2, h3, hpost _ _ _ _ _ _ ⟨Cond.after_iff.mpr rfl, Cond.after_iff.mpr (eq_i res_at (Term.int_eval (1)) rfl), trivial⟩ ⟨hq.1, hq.2.1, (hq.2.2.sift fun y hy => Or.inr (N y hy)).mono (by decide) (by decide)⟩⟩
theorem main_1_1 : Claimed_1_1 := comes_1 fun _ _ _ _ _ _ h hF => ⟨h.1, hF⟩
theorem main_1_2 : Claimed_1_2 := comes_1 fun _ _ _ _ _ _ h hF => ⟨h.2.1, hF⟩
end Jvm.Pilot.@@N@@
namespace Jvm.Pilot.@@N@@
open Jvm Jvm.ClassFile Sem Op Lib Jvm.Free Jvm.Stand Jvm.Pilot.@@N@@.Jvm.D
/-! MADE BY PROGRAM (witnessworld.py) out of the Statement's table words and the real class files: 10 classes; the members and pool entries that the words name. The judged class is class 1, her method 1. -/
namespace start1
open Jvm.ClassFile
def u (s : String) : CpInfo := .utf8 (stringToUtf16 s)
/-- a pool by its gaps: so many unusable entries, then the entry; so many at the end -/
def gap : Nat → List CpInfo → List CpInfo
  | 0, r => r
  | n + 1, r => .unusable :: gap n r
def poolList (es : List (Nat × CpInfo)) (last : Nat) : List CpInfo := es.foldr (fun e r => gap e.1 (e.2 :: r)) (gap last [])
def pool (es : List (Nat × CpInfo)) (last : Nat) : Array CpInfo := ⟨poolList es last⟩
def fileOf (pool : Array CpInfo) (this : Nat) (attrs : Array Attribute := #[]) (ms : Array MethodInfo := #[]) (fl : Nat := 33) (sup : Nat := 0) (ifs : Array Nat := #[]) (fds : Array FieldInfo := #[]) : ClassFile where
  minorVersion := 0
  majorVersion := 65
  constantPool := pool
  accessFlags := fl
  thisClass := this
  superClass := sup
  interfaces := ifs
  fields := fds
  methods := ms
  attributes := attrs
def plain (name : String) (sup : Option ClassId) : Class where
  name := name
  kind := .ordinary
  loader := none
  accessFlags := 33
  super := sup
  interfaces := #[]
  cf := none
  fields := #[]
  methods := #[]
  instanceTypes := #[]
  staticTypes := #[]
  resolved := #[]
  callSites := []
  init := .initialized
  statics := none
  mirror := none

def pool0 : Array CpInfo := pool [(5, u "<init>"), (0, u "()V"), (1, .class_ 10), (1, u "java/lang/Object")] 113

def k0c0 : Code := { maxStack := 0, maxLocals := 1, code := object_method_1_code, exceptionTable := #[], attributes := #[] }
def k0m0 : Method := { name := "<init>", desc := "()V", sig := { parameters := [], returnType := none }, accessFlags := 1, code := some k0c0 }
/-- java/lang/Object -/
def k0 : Class := { plain "java/lang/Object" none with
  accessFlags := 33
  interfaces := #[]
  cf := some (fileOf pool0 8 #[] #[{ accessFlags := 1, nameIndex := 5, descriptorIndex := 6, attributes := #[] }] 33 0 #[] #[])
  fields := #[]
  methods := #[k0m0]
  instanceTypes := #[]
  staticTypes := #[]
  resolved := Array.replicate 124 none
  statics := none }

def pool1 : Array CpInfo := pool [(2, .class_ 4), (1, u "java/lang/Object"), (0, u "<init>"), (0, u "()V"), (0, .class_ 8), (0, u "com/example/bytefold/bytefold/LengthPrefixForm$Tier"), (0, .methodref 7 10), (0, .nameAndType 5 11), (0, u "(IIJ)V"), (0, .methodref 7 13), (0, .nameAndType 14 15), (0, u "lastLead"), (0, u "()I"), (0, .class_ 17), (0, u "com/example/bytefold/bytefold/TierLastLeadPinLaw"), (2, u "law"), (0, u "(IIIJ)Z")] 7

def k1m0 : Method := { name := "<init>", desc := "()V", sig := { parameters := [], returnType := none }, accessFlags := 1, code := none }
def k1c1 : Code := { maxStack := 6, maxLocals := 16, code := code, exceptionTable := #[], attributes := #[] }
def k1m1 : Method := { name := "law", desc := "(IIIJ)Z", sig := { parameters := [.int, .int, .int, .long], returnType := some .boolean }, accessFlags := 9, code := some k1c1 }
/-- com/example/bytefold/bytefold/TierLastLeadPinLaw -/
def k1 : Class := { plain "com/example/bytefold/bytefold/TierLastLeadPinLaw" (some 0) with
  accessFlags := 49
  interfaces := #[]
  cf := some (fileOf pool1 16 #[] #[{ accessFlags := 1, nameIndex := 5, descriptorIndex := 6, attributes := #[] }, { accessFlags := 9, nameIndex := 20, descriptorIndex := 21, attributes := #[] }] 49 2 #[] #[])
  fields := #[]
  methods := #[k1m0, k1m1]
  instanceTypes := #[]
  staticTypes := #[]
  resolved := Array.replicate 29 none
  statics := none }

def pool2 : Array CpInfo := pool [(1, .methodref 2 3), (0, .class_ 4), (0, .nameAndType 5 6), (0, u "java/lang/Object"), (0, u "<init>"), (0, u "()V"), (0, .class_ 8), (0, u "java/lang/Record")] 13

def k2c0 : Code := { maxStack := 1, maxLocals := 1, code := jdk_30_method_1_code, exceptionTable := #[], attributes := #[] }
def k2m0 : Method := { name := "<init>", desc := "()V", sig := { parameters := [], returnType := none }, accessFlags := 4, code := some k2c0 }
/-- java/lang/Record -/
def k2 : Class := { plain "java/lang/Record" (some 0) with
  accessFlags := 1057
  interfaces := #[]
  cf := some (fileOf pool2 7 #[] #[{ accessFlags := 4, nameIndex := 5, descriptorIndex := 6, attributes := #[] }] 1057 2 #[] #[])
  fields := #[]
  methods := #[k2m0]
  instanceTypes := #[]
  staticTypes := #[]
  resolved := Array.replicate 22 none
  statics := none }

def pool3 : Array CpInfo := pool [(1, .methodref 2 3), (0, .class_ 4), (0, .nameAndType 5 6), (0, u "java/lang/Record"), (0, u "<init>"), (0, u "()V"), (0, .fieldref 8 9), (0, .class_ 10), (0, .nameAndType 11 12), (0, u "com/example/bytefold/bytefold/LengthPrefixForm$Tier"), (0, u "prefix"), (0, u "I"), (0, .fieldref 8 14), (0, .nameAndType 15 12), (0, u "length"), (0, .fieldref 8 17), (0, .nameAndType 18 19), (0, u "largest"), (0, u "J"), (14, u "(IIJ)V"), (3, u "lastLead"), (0, u "()I"), (6, .class_ 47), (0, u "com/example/bytefold/bytefold/LengthPrefixForm")] 21

def k3c0 : Code := { maxStack := 3, maxLocals := 5, code := prog_10_method_1_code, exceptionTable := #[], attributes := #[] }
def k3m0 : Method := { name := "<init>", desc := "(IIJ)V", sig := { parameters := [.int, .int, .long], returnType := none }, accessFlags := 0, code := some k3c0 }
def k3c1 : Code := { maxStack := 6, maxLocals := 1, code := prog_10_method_2_code, exceptionTable := #[], attributes := #[] }
def k3m1 : Method := { name := "lastLead", desc := "()I", sig := { parameters := [], returnType := some .int }, accessFlags := 0, code := some k3c1 }
/-- com/example/bytefold/bytefold/LengthPrefixForm$Tier -/
def k3 : Class := { plain "com/example/bytefold/bytefold/LengthPrefixForm$Tier" (some 2) with
  accessFlags := 48
  interfaces := #[]
  cf := some (fileOf pool3 8 #[.nestHost 46] #[{ accessFlags := 0, nameIndex := 5, descriptorIndex := 34, attributes := #[] }, { accessFlags := 0, nameIndex := 38, descriptorIndex := 39, attributes := #[] }] 48 2 #[] #[{ accessFlags := 18, nameIndex := 11, descriptorIndex := 12, attributes := #[] }, { accessFlags := 18, nameIndex := 15, descriptorIndex := 12, attributes := #[] }, { accessFlags := 18, nameIndex := 18, descriptorIndex := 19, attributes := #[] }])
  fields := #[{ name := "prefix", type := .int, accessFlags := 18, slot := 0, constantValue := 0 }, { name := "length", type := .int, accessFlags := 18, slot := 1, constantValue := 0 }, { name := "largest", type := .long, accessFlags := 18, slot := 2, constantValue := 0 }]
  methods := #[k3m0, k3m1]
  instanceTypes := #[.int, .int, .long]
  staticTypes := #[]
  resolved := Array.replicate 69 none
  statics := none }

def pool4 : Array CpInfo := pool [(1, u "java/lang/Cloneable"), (0, .class_ 1), (0, u "java/lang/Object"), (0, .class_ 3)] 3

/-- java/lang/Cloneable -/
def k4 : Class := { plain "java/lang/Cloneable" (some 0) with
  accessFlags := 1537
  interfaces := #[]
  cf := some (fileOf pool4 2 #[] #[] 1537 4 #[] #[])
  fields := #[]
  methods := #[]
  instanceTypes := #[]
  staticTypes := #[]
  resolved := Array.replicate 8 none
  statics := none }

def pool5 : Array CpInfo := pool [(1, u "java/io/Serializable"), (0, .class_ 1), (0, u "java/lang/Object"), (0, .class_ 3)] 3

/-- java/io/Serializable -/
def k5 : Class := { plain "java/io/Serializable" (some 0) with
  accessFlags := 1537
  interfaces := #[]
  cf := some (fileOf pool5 2 #[] #[] 1537 4 #[] #[])
  fields := #[]
  methods := #[]
  instanceTypes := #[]
  staticTypes := #[]
  resolved := Array.replicate 8 none
  statics := none }

/-- the primitive byte -/
def k6 : Class := { plain "byte" none with kind := .primitive 'B', accessFlags := 0x411 }
/-- [B -/
def k7 : Class := { plain "[B" (some 0) with kind := .array 6 .byte, interfaces := #[4, 5], accessFlags := 1041 }

/-- the primitive int -/
def k8 : Class := { plain "int" none with kind := .primitive 'I', accessFlags := 0x411 }
/-- [I -/
def k9 : Class := { plain "[I" (some 0) with kind := .array 8 .int, interfaces := #[4, 5], accessFlags := 1041 }

def heap : Heap := #[]
def classes : Array Class := #[k0, k1, k2, k3, k4, k5, k6, k7, k8, k9]
def interned : List (Array UInt16 × Addr) := []
def slotsUsed : Nat := 0
def theMethod : MethodId := ⟨1, 1⟩
def args0 : Array Value := #[.int 5, .int 300, .int 2, .long 77]
def aboutOver (below : List Frame) : State where
  vm := { classes := classes, interned := interned.toArray }
  heap := heap
  slotsUsed := slotsUsed
  threads := #[{ frames := .invoking theMethod args0 :: below }]
def below0 : List Frame := [.native { method := ⟨0, 0⟩, args := #[] }]
def about1 : State := aboutOver below0
def p0 : Program := .bare "" "" ""
def e0 : Env := launch0.env 0 0 0
theorem w_frames : about1.frames = Frame.invoking theMethod args0 :: below0 := rfl
set_option maxRecDepth 65536 in
theorem w_args : argsFit about1.vm theMethod args0 = true := by decide +kernel
set_option maxRecDepth 65536 in
theorem w_heap : heapFits about1 = true := by decide +kernel
set_option maxRecDepth 65536 in
theorem w_runnable : about1.curStatus? = some .runnable := by decide +kernel
set_option maxRecDepth 65536 in
theorem w_alone : about1.alone = true := by decide +kernel
set_option maxRecDepth 65536 in
theorem w_named : about1.methodNamed? x = some theMethod := by decide +kernel
set_option maxRecDepth 65536 in
theorem w_hears : about1.hears theMethod below0 = true := by decide +kernel
set_option maxRecDepth 65536 in
theorem w_ripe : about1.ripe theMethod args0 below0 = true := by decide +kernel
theorem w_running : about1.status = .running := rfl
set_option maxRecDepth 65536 in
theorem w_room : about1.hasRoom e0.platform room_1 = true :=
  launch0.hasRoom_least _ room_1 (by decide +kernel) (by decide +kernel) (by decide +kernel) (by decide +kernel) (by decide +kernel) (by decide +kernel)
theorem allAtoms_all (ts : List Jvm.Cond) (a : Array Jvm.Value) (st : Jvm.State) : (allAtoms ts).before a st = ts.all (fun c => c.before a st) := by
  induction ts with
  | nil => rfl
  | cons c t ih =>
    show (Jvm.Cond.and c (allAtoms t)).before a st = _
    rw [Jvm.Cond.before_and, ih, List.all_cons]
def words1 : List Jvm.Cond := Jvm.Cond.code x code maxLocals ret :: tables_1
/-- a 'code' word, met by the world's own term for the bytes: nothing is compared byte by byte -/
theorem code_word {y : MethodName} {bytes : ByteArray} {mx : Nat} {rt : Option FieldType} {a : Array Value} {s : State} {m : MethodId} {meth : Method} {c : Code} (h1 : s.methodNamed? y = some m) (h2 : s.vm.method? m = some meth) (h3 : meth.code = some c) (h4 : c.code = bytes)
    (h5 : (c.maxLocals == mx && c.exceptionTable.isEmpty && decide (c.maxStack ≤ mostOperands) && decide (meth.sig.returnType = rt) && !meth.locks && decide (parseMethodDescriptor y.desc = some meth.sig)) = true) : (Jvm.Cond.code y bytes mx rt).before a s = true := by
  simp only [Bool.and_eq_true, beq_iff_eq, Bool.not_eq_true', decide_eq_true_eq] at h5
  obtain ⟨⟨⟨⟨⟨g1, g2⟩, g3⟩, g4⟩, g5⟩, g6⟩ := h5
  simp [Cond.before, Cond.holds, Cond.value, h1, h2, h3, h4, g1, g2, g3, g4, g5, g6]
def isCode : Jvm.Cond → Bool
  | .code _ _ _ _ => true
  | _ => false
theorem all_split {L : List Jvm.Cond} {P : Jvm.Cond → Bool} (h1 : L.all (fun c => isCode c || P c) = true) (h2 : ∀ c ∈ L.filter isCode, P c = true) : L.all P = true := by
  refine List.all_eq_true.mpr fun c hc => ?_
  have h := List.all_eq_true.mp h1 c hc
  rcases Bool.eq_false_or_eq_true (isCode c) with hi | hi
  · exact h2 c (List.mem_filter.mpr ⟨hc, hi⟩)
  · simpa [hi] using h
set_option maxRecDepth 65536 in
theorem w_c0 : (Jvm.Cond.code x code maxLocals ret).before args0 about1 = true := code_word (m := ⟨1, 1⟩) (meth := k1m1) (c := k1c1) (by decide +kernel) rfl rfl rfl (by decide +kernel)
set_option maxRecDepth 65536 in
theorem w_c1 : (Jvm.Cond.code ({ cls := "com/example/bytefold/bytefold/LengthPrefixForm$Tier", name := "<init>", desc := "(IIJ)V" } : Jvm.MethodName) prog_10_method_1_code (5 : Nat) (Option.none : Option Jvm.ClassFile.FieldType)).before args0 about1 = true := code_word (m := ⟨3, 0⟩) (meth := k3m0) (c := k3c0) (by decide +kernel) rfl rfl rfl (by decide +kernel)
set_option maxRecDepth 65536 in
theorem w_c2 : (Jvm.Cond.code ({ cls := "java/lang/Record", name := "<init>", desc := "()V" } : Jvm.MethodName) jdk_30_method_1_code (1 : Nat) (Option.none : Option Jvm.ClassFile.FieldType)).before args0 about1 = true := code_word (m := ⟨2, 0⟩) (meth := k2m0) (c := k2c0) (by decide +kernel) rfl rfl rfl (by decide +kernel)
set_option maxRecDepth 65536 in
theorem w_c3 : (Jvm.Cond.code ({ cls := "java/lang/Object", name := "<init>", desc := "()V" } : Jvm.MethodName) object_method_1_code (1 : Nat) (Option.none : Option Jvm.ClassFile.FieldType)).before args0 about1 = true := code_word (m := ⟨0, 0⟩) (meth := k0m0) (c := k0c0) (by decide +kernel) rfl rfl rfl (by decide +kernel)
set_option maxRecDepth 65536 in
theorem w_c4 : (Jvm.Cond.code ({ cls := "com/example/bytefold/bytefold/LengthPrefixForm$Tier", name := "lastLead", desc := "()I" } : Jvm.MethodName) prog_10_method_2_code (1 : Nat) (Option.some Jvm.ClassFile.FieldType.int)).before args0 about1 = true := code_word (m := ⟨3, 1⟩) (meth := k3m1) (c := k3c1) (by decide +kernel) rfl rfl rfl (by decide +kernel)
def codes1 : List Jvm.Cond := [Jvm.Cond.code x code maxLocals ret, Jvm.Cond.code ({ cls := "com/example/bytefold/bytefold/LengthPrefixForm$Tier", name := "<init>", desc := "(IIJ)V" } : Jvm.MethodName) prog_10_method_1_code (5 : Nat) (Option.none : Option Jvm.ClassFile.FieldType), Jvm.Cond.code ({ cls := "java/lang/Record", name := "<init>", desc := "()V" } : Jvm.MethodName) jdk_30_method_1_code (1 : Nat) (Option.none : Option Jvm.ClassFile.FieldType), Jvm.Cond.code ({ cls := "java/lang/Object", name := "<init>", desc := "()V" } : Jvm.MethodName) object_method_1_code (1 : Nat) (Option.none : Option Jvm.ClassFile.FieldType), Jvm.Cond.code ({ cls := "com/example/bytefold/bytefold/LengthPrefixForm$Tier", name := "lastLead", desc := "()I" } : Jvm.MethodName) prog_10_method_2_code (1 : Nat) (Option.some Jvm.ClassFile.FieldType.int)]
set_option maxRecDepth 65536 in
theorem codes_eq : words1.filter isCode = codes1 := rfl
theorem w_codes : ∀ c ∈ words1.filter isCode, c.before args0 about1 = true := by
  rw [codes_eq]
  intro c hc
  simp only [codes1, List.mem_cons, List.not_mem_nil, or_false] at hc
  rcases hc with rfl | rfl | rfl | rfl | rfl
  · exact w_c0
  · exact w_c1
  · exact w_c2
  · exact w_c3
  · exact w_c4
set_option maxRecDepth 65536 in
theorem w_t1 : (words1.take 24).all (fun c => isCode c || c.before args0 about1) = true := by decide +kernel
set_option maxRecDepth 65536 in
theorem w_t2 : (words1.drop 24).all (fun c => isCode c || c.before args0 about1) = true := by decide +kernel
theorem w_tables : (allAtoms (Jvm.Cond.code x code maxLocals ret :: tables_1)).before args0 about1 = true := by
  rw [allAtoms_all]
  show words1.all (fun c => c.before args0 about1) = true
  refine all_split ?_ w_codes
  rw [← List.take_append_drop 24 words1, List.all_append, w_t1, w_t2]
  rfl
set_option maxRecDepth 65536 in
theorem w_case : (Jvm.Cond.and given_1 narrow_1).before args0 about1 = true := by decide +kernel
theorem w_applies : (headSpec (Jvm.Cond.code x code maxLocals ret :: tables_1) room_1).applies x e0.platform about1 = true :=
  (Spec.applies_iff w_frames).mpr ⟨w_running, w_runnable, w_alone, w_named, w_hears, w_ripe, w_room, w_tables⟩
theorem atStart : AtStart classFile x code maxLocals ret World_1 tables_1 room_1 Calls_1 rest_1 Pre_1 launch0 p0 e0 about1 theMethod args0 below0 :=
  ⟨lists_1, trivial, launch0.admits_env _ _ _, launch0.least_env, fairChoices_fair.cas, fairChoices_fair.clock, w_frames, w_args, w_heap, w_applies, trivial, trivial, w_case⟩
end start1
theorem witness_1 : WitnessClaimed_1 := ⟨start1.p0, start1.e0, start1.about1, start1.theMethod, start1.args0, start1.below0, start1.atStart⟩
end Jvm.Pilot.@@N@@
