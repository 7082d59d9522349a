import JvmDerived
import JvmDerived.Pilot.@@N@@Statement
import JvmDerived.Pilot.@@N@@Code
set_option linter.unusedVariables false
set_option linter.unusedSimpArgs false
namespace Jvm.Pilot.@@N@@
open Jvm Jvm.ClassFile Sem Op Lib Jvm.Free Jvm.Stand Jvm.LawKit Jvm.RoadKit Bundle Jvm.Pilot.@@N@@.Jvm.D
section Own
variable {p : Program} {l : Launch} {e : Env} {R : Room} {s : State} {m : MethodId} {args : Array Value} {below : List Frame} {meth : Method} {c : Code} {T : State} {locs : List Loc} {cells slots : Nat} {Z : State} {a0 : Array Value} {h : Heap}
/-- from the state A the run comes to the method's end, and Q says what it leaves -/
def OwnFin (p : Program) (e : Env) (below : List Frame) (s : State) (Q : Option Value → Heap → List Loc → Prop) (C S : Nat) (A : State) : Prop :=
  ∃ s₂ o, Steps p.tables e below A s₂ ∧ s₂.status = .running ∧ Ended s₂ below o ∧ ∃ v L, o = .returned v ∧ Q v s₂.heap L ∧ FrameEnd s o s₂ L C S
variable {Q : Option Value → Heap → List Loc → Prop} {C S : Nat}
theorem own_go {A B : State} (h : ∀ t, Steps p.tables e below B t → Steps p.tables e below A t) (k : OwnFin p e below s Q C S B) : OwnFin p e below s Q C S A := by
  obtain ⟨s₂, o, h1, r⟩ := k
  exact ⟨s₂, o, h _ h1, r⟩
theorem own_ret (X : Stand p l e R s m args below meth c T locs cells slots) {v : Option Value} (hlk : meth.locks = false) (hv : meth.sig.returnType = none → v = none) {g : JFrame}
    (hstep : ∀ fs, (∀ (f : JFrame) (acts : List Action), f.method = m → f.locked = none → f.entered = [] → (doReturn e (T.setTop f) acts v).1 = T.setFrames fs) → Steps p.tables e below (T.setTop g) (T.setFrames fs))
    (hc : cells ≤ C) (hs : slots ≤ S) (hQ : Q v T.heap locs) : OwnFin p e below s Q C S (T.setTop g) := by
  obtain ⟨fs, hr, hrun, hended, hW, hsame⟩ := X.leave hv hlk
  exact ⟨_, _, hstep fs hr, hrun, hended, _, _, rfl, hQ, ⟨_, rfl⟩, hW, hsame.mono hc hs⟩
/-- a method's contract, in the form that backOf takes -/
abbrev OwnCtr (l : Launch) (Z : State) (y : MethodName) (ws : List Jvm.Cond) (bytes : ByteArray) (maxL : Nat) (ret : Option FieldType) (rm : Room) (as' : Array Value) (h0 : Heap) (Q : Option Value → Heap → List Loc → Prop) : Prop :=
  MetFree l y (head1 (Jvm.Cond.code y bytes maxL ret :: ws) rm) (fun a U => a = as' ∧ Z.Warmed39 U.vm ∧ U.heap = h0) (fun _ _ _ _ _ => True) (fun _ U o U' => ∃ v L, o = .returned v ∧ Q v U'.heap L ∧ FrameEnd U o U' L rm.cells rm.slots)
theorem own_body {l : Launch} {Z : State} {y : MethodName} {ws : List Jvm.Cond} {bytes : ByteArray} {maxL : Nat} {ret : Option FieldType} {rm : Room} {as' : Array Value} {h0 : Heap} {g0 : MethodId → JFrame}
    (hpl : plainFor y = true) (hef : ∀ m, entryFrame m as' maxL = g0 m)
    (body : ∀ (p : Program) (e : Env) (s : State) (m : MethodId) (below : List Frame) (meth : Method) (c : Code) (s₁ : State), Stand p l e rm s m as' below meth c s₁ [] 0 0 → p.tables.exec = Jvm.exec → c.code = bytes → c.maxLocals = maxL →
      s.vm.findClass y.cls = some m.cls → meth.name = y.name → Z.Warmed39 s.vm → s₁.heap = h0 → meth.sig.returnType = ret → meth.locks = false → OwnFin p e below s Q rm.cells rm.slots (s₁.setTop (g0 m))) :
    OwnCtr l Z y ws bytes maxL ret rm as' h0 Q := by
  refine MetFree.of_bodySF hpl hisR ?_
  intro p e s m args below meth c s₁ Bd hml0 hP hK
  obtain ⟨rfl, hZ, hh⟩ := hP
  have e0 : s₁.heap = h0 := by rw [← hh, Bd.state]; rfl
  have k := body p e s m below meth c s₁ (Stand.of_body Bd) Bd.exec Bd.bytes hml0 (findClass_of_methodNamed Bd.named) (name_of_methodNamed Bd.named Bd.method).1 hZ e0 Bd.returns Bd.notSynchronized
  rw [← hef m] at k
  exact k
/-- a static call by its contract -/
theorem own_callS (X : Stand p l e R s m args below meth c T locs cells slots) (hx : p.tables.exec = Jvm.exec) (hZ : Z.Warmed39 s.vm) {own : String} {index : Nat} {y : MethodName} {bytes : ByteArray} {maxL : Nat} {ret : Option FieldType} {rm : Room} {as' : Array Value} {Q : Option Value → Heap → List Loc → Prop}
    (hown : s.vm.findClass own = some m.cls) (hlink : (Cond.methodLink own index y).before a0 Z = true) (hstat : (Cond.static y).before a0 Z = true) (hinit : (Cond.initialized y.cls).before a0 Z = true) (hcode : (Cond.code y bytes maxL ret).before a0 Z = true)
    (hy : y.cls ≠ "java/lang/invoke/MethodHandle" ∧ y.cls ≠ "java/lang/invoke/VarHandle") {W : Nat} (hM : OwnCtr l Z y [] bytes maxL ret rm as' h Q) (hf : rm.frames + 1 ≤ R.frames) (hl : W + (maxL + 11) + rm.locals ≤ R.locals)
    {g : JFrame} (hg : g.method = m) (hsize : g.locals.size = c.maxLocals) {argsL rest : List Value} (hlen : ∀ sig, parseMethodDescriptor y.desc = some sig → argsL.length = sig.parameters.length)
    (hstack : g.stack = argsL.reverse ++ rest) (hW : 2 * g.monitorRoom + (rest.map fun v => v.category).sum ≤ W) (hdg : decode c.code g.pc = .ok (.invokestatic index, 3)) (eT : T.heap = h) (ha : argsL.toArray = as') (hc : cells + rm.cells ≤ R.cells) (hs : slots + rm.slots ≤ R.slots) :
    ∃ (v : Option Value) (T' : State) (L : List Loc), Stand p l e R s m args below meth c T' (locs ++ L) (cells + rm.cells) (slots + rm.slots) ∧ Q v T'.heap L ∧ ∀ target, Steps p.tables e below (T'.setTop { g with pc := g.pc + 3, stack := v.toList ++ rest }) target → Steps p.tables e below (T.setTop g) target := by
  obtain ⟨v, _, ⟨T', L', k, n⟩, -, X', ⟨L, hQ, l1, y1, z1⟩, st⟩ := Jvm.LawKit.callS X hx (y := y) hown (mvT hZ hlink) (mvT hZ hstat) (mvT hZ hinit) (mvT hZ hcode) hy (backOf (W := W) hM hZ hcode hinit hf hl) hg hsize hlen hstack hW hdg (fun _ _ => ⟨ha, eT, hc, hs⟩)
  dsimp only [Pt.U, Pt.locs, Pt.cells, Pt.slots] at X' l1 y1 z1 st hQ
  subst l1 y1 z1
  exact ⟨v, T', L, X', hQ, st⟩
/-- a constructor by its contract -/
theorem own_callI (X : Stand p l e R s m args below meth c T locs cells slots) (hx : p.tables.exec = Jvm.exec) (hZ : Z.Warmed39 s.vm) {own : String} {index : Nat} {y : MethodName} {bytes : ByteArray} {maxL : Nat} {rm : Room} {as' : Array Value} {Q : Option Value → Heap → List Loc → Prop}
    (hy1 : y.name = "<init>") (hown : s.vm.findClass own = some m.cls) (hlink : (Cond.methodLink own index y).before a0 Z = true) (hinst : (Cond.instanceMethod y).before a0 Z = true) (hinit : (Cond.initialized y.cls).before a0 Z = true) (hcode : (Cond.code y bytes maxL none).before a0 Z = true)
    (hy : y.cls ≠ "java/lang/invoke/MethodHandle" ∧ y.cls ≠ "java/lang/invoke/VarHandle") {W : Nat} (hM : OwnCtr l Z y [] bytes maxL none rm as' h Q) (hf : rm.frames + 1 ≤ R.frames) (hl : W + (maxL + 11) + rm.locals ≤ R.locals)
    {g : JFrame} (hg : g.method = m) (hsize : g.locals.size = c.maxLocals) {a : Addr} {argsL rest : List Value} (hlen : ∀ sig, parseMethodDescriptor y.desc = some sig → argsL.length = sig.parameters.length)
    (hstack : g.stack = argsL.reverse ++ .ref a :: rest) (hW : 2 * g.monitorRoom + (rest.map fun v => v.category).sum ≤ W) (hdg : decode c.code g.pc = .ok (.invokespecial index, 3)) (eT : T.heap = h) (ha : (.ref a :: argsL).toArray = as') (hc : cells + rm.cells ≤ R.cells) (hs : slots + rm.slots ≤ R.slots) :
    ∃ (v : Option Value) (T' : State) (L : List Loc), Stand p l e R s m args below meth c T' (locs ++ L) (cells + rm.cells) (slots + rm.slots) ∧ Q v T'.heap L ∧ ∀ target, Steps p.tables e below (T'.setTop { g with pc := g.pc + 3, stack := v.toList ++ rest }) target → Steps p.tables e below (T.setTop g) target := by
  obtain ⟨v, _, ⟨T', L', k, n⟩, -, X', ⟨L, hQ, l1, y1, z1⟩, st⟩ := X.specialBack hx (y := y) hy1 hown (mvT hZ hlink) (mvT hZ hinst) (mvT hZ hcode) hy (backOf (W := W) hM hZ hcode hinit hf hl) hg hsize (Steps.refl _) hlen hstack hW hdg (fun _ _ => ⟨ha, eT, hc, hs⟩)
  dsimp only [Pt.U, Pt.locs, Pt.cells, Pt.slots] at X' l1 y1 z1 st hQ
  subst l1 y1 z1
  exact ⟨v, T', L, X', hQ, fun t k => st.trans k⟩
/-- an instance method by its contract -/
theorem own_callV (X : Stand p l e R s m args below meth c T locs cells slots) (hx : p.tables.exec = Jvm.exec) (hZ : Z.Warmed39 s.vm) {own K : String} {index : Nat} {y z : MethodName} {bytes : ByteArray} {maxL : Nat} {ret : Option FieldType} {rm : Room} {as' : Array Value} {Q : Option Value → Heap → List Loc → Prop}
    (hown : s.vm.findClass own = some m.cls) (hlink : (Cond.methodLink own index y).before a0 Z = true) (hdecl : (Cond.declares y).before a0 Z = true) (hnf : NotFace s y) (hsel : (Cond.selects K y z).before a0 Z = true) (hinst : (Cond.instanceMethod z).before a0 Z = true) (hinit : (Cond.initialized z.cls).before a0 Z = true) (hcode : (Cond.code z bytes maxL ret).before a0 Z = true)
    (hy : y.cls ≠ "java/lang/invoke/MethodHandle" ∧ y.cls ≠ "java/lang/invoke/VarHandle") {W : Nat} (hM : OwnCtr l Z z [] bytes maxL ret rm as' h Q) (hf : rm.frames + 1 ≤ R.frames) (hl : W + (maxL + 11) + rm.locals ≤ R.locals)
    {b : Addr} (E : Exa Z h b K) {g : JFrame} (hg : g.method = m) (hsize : g.locals.size = c.maxLocals) {argsL rest : List Value} (hlen : ∀ sig, parseMethodDescriptor y.desc = some sig → argsL.length = sig.parameters.length)
    (hstack : g.stack = argsL.reverse ++ .ref b :: rest) (hW : 2 * g.monitorRoom + (rest.map fun v => v.category).sum ≤ W) (hdg : decode c.code g.pc = .ok (.invokevirtual index, 3)) (eT : T.heap = h) (ha : (.ref b :: argsL).toArray = as') (hc : cells + rm.cells ≤ R.cells) (hs : slots + rm.slots ≤ R.slots) :
    ∃ (v : Option Value) (T' : State) (L : List Loc), Stand p l e R s m args below meth c T' (locs ++ L) (cells + rm.cells) (slots + rm.slots) ∧ Q v T'.heap L ∧ ∀ target, Steps p.tables e below (T'.setTop { g with pc := g.pc + 3, stack := v.toList ++ rest }) target → Steps p.tables e below (T.setTop g) target := by
  obtain ⟨cq, kq, qa, qb, qc⟩ := isOf hZ eT E
  obtain ⟨v, _, ⟨T', L', k, n⟩, -, X', ⟨L, hQ, l1, y1, z1⟩, st⟩ := X.virtualBack hx (y := y) (z := z) hown (mvT hZ hlink) (mvT hZ hdecl) hnf (mvT hZ hsel) (mvT hZ hinst) hy (backOf (W := W) hM hZ hcode hinit hf hl) qa qc hg hsize (Steps.refl _) hlen hstack hW hdg (fun _ _ => ⟨ha, eT, hc, hs⟩)
  dsimp only [Pt.U, Pt.locs, Pt.cells, Pt.slots] at X' l1 y1 z1 st hQ
  subst l1 y1 z1
  exact ⟨v, T', L, X', hQ, fun t k => st.trans k⟩
/-- a private instance method, called by invokevirtual, by its contract -/
theorem own_callP (X : Stand p l e R s m args below meth c T locs cells slots) (hx : p.tables.exec = Jvm.exec) (hZ : Z.Warmed39 s.vm) {own : String} {index : Nat} {y : MethodName} {bytes : ByteArray} {maxL : Nat} {ret : Option FieldType} {rm : Room} {as' : Array Value} {Q : Option Value → Heap → List Loc → Prop}
    (hown : s.vm.findClass own = some m.cls) (hlink : (Cond.methodLink own index y).before a0 Z = true) (hinst : (Cond.instanceMethod y).before a0 Z = true) (hsel : (Cond.selects y.cls y y).before a0 Z = true) (hpriv : (Cond.privateMethod y).before a0 Z = true) (hinit : (Cond.initialized y.cls).before a0 Z = true) (hcode : (Cond.code y bytes maxL ret).before a0 Z = true)
    (hy : y.cls ≠ "java/lang/invoke/MethodHandle" ∧ y.cls ≠ "java/lang/invoke/VarHandle") {W : Nat} (hM : OwnCtr l Z y [] bytes maxL ret rm as' h Q) (hf : rm.frames + 1 ≤ R.frames) (hl : W + (maxL + 11) + rm.locals ≤ R.locals)
    {b : Addr} {K : String} (E : Exa Z h b K) {g : JFrame} (hg : g.method = m) (hsize : g.locals.size = c.maxLocals) {argsL rest : List Value} (hlen : ∀ sig, parseMethodDescriptor y.desc = some sig → argsL.length = sig.parameters.length)
    (hstack : g.stack = argsL.reverse ++ .ref b :: rest) (hW : 2 * g.monitorRoom + (rest.map fun v => v.category).sum ≤ W) (hdg : decode c.code g.pc = .ok (.invokevirtual index, 3)) (eT : T.heap = h) (ha : (.ref b :: argsL).toArray = as') (hc : cells + rm.cells ≤ R.cells) (hs : slots + rm.slots ≤ R.slots) :
    ∃ (v : Option Value) (T' : State) (L : List Loc), Stand p l e R s m args below meth c T' (locs ++ L) (cells + rm.cells) (slots + rm.slots) ∧ Q v T'.heap L ∧ ∀ target, Steps p.tables e below (T'.setTop { g with pc := g.pc + 3, stack := v.toList ++ rest }) target → Steps p.tables e below (T.setTop g) target := by
  obtain ⟨cq, q1, q2⟩ := E.cell
  obtain ⟨v, _, ⟨T', L', k, n⟩, -, X', ⟨L, hQ, l1, y1, z1⟩, st⟩ := X.privateBack hx (y := y) hown (mvT hZ hlink) (mvT hZ hinst) (mvT hZ hsel) (Cond.privateMethod_at (mvP hZ hpriv (args := #[]))) (mvT hZ hcode) hy (backOf (W := W) hM hZ hcode hinit hf hl) hg hsize (Steps.refl _) (by rw [eT]; exact q1) q2 hlen hstack hW hdg (fun _ _ => ⟨ha, eT, hc, hs⟩)
  dsimp only [Pt.U, Pt.locs, Pt.cells, Pt.slots] at X' l1 y1 z1 st hQ
  subst l1 y1 z1
  exact ⟨v, T', L, X', hQ, fun t k => st.trans k⟩
theorem own_retI (X : Stand p l e R s m args below meth c T locs cells slots) (hx : p.tables.exec = Jvm.exec) {pc : Nat} {Ls : Array Slot} {z : Int32} {rest : List Value} (hret : meth.sig.returnType = some .int) (hd : decode c.code pc = .ok (.ireturn, 1)) {fs : List Frame}
    (hl : ∀ (f : JFrame) (acts : List Action), f.method = m → f.locked = none → f.entered = [] → (doReturn e (T.setTop f) acts (some (.int z))).1 = T.setFrames fs) : Steps p.tables e below (T.setTop (mkF m pc Ls (.int z :: rest))) (T.setFrames fs) :=
  retOut X hx hret rfl (Or.inl ⟨rfl, Or.inl rfl, _, rfl⟩) hd hl
theorem own_retJ (X : Stand p l e R s m args below meth c T locs cells slots) (hx : p.tables.exec = Jvm.exec) {pc : Nat} {Ls : Array Slot} {z : Int64} {rest : List Value} (hret : meth.sig.returnType = some .long) (hd : decode c.code pc = .ok (.lreturn, 1)) {fs : List Frame}
    (hl : ∀ (f : JFrame) (acts : List Action), f.method = m → f.locked = none → f.entered = [] → (doReturn e (T.setTop f) acts (some (.long z))).1 = T.setFrames fs) : Steps p.tables e below (T.setTop (mkF m pc Ls (.long z :: rest))) (T.setFrames fs) :=
  retOut X hx hret rfl (Or.inr (Or.inl ⟨rfl, rfl, _, rfl⟩)) hd hl
theorem own_retR (X : Stand p l e R s m args below meth c T locs cells slots) (hx : p.tables.exec = Jvm.exec) {pc : Nat} {Ls : Array Slot} {w : Value} {t : FieldType} {rest : List Value} (hret : meth.sig.returnType = some t) (ht : t.isReference = true) (hw : w.isRef = true) (hd : decode c.code pc = .ok (.areturn, 1)) {fs : List Frame}
    (hl : ∀ (f : JFrame) (acts : List Action), f.method = m → f.locked = none → f.entered = [] → (doReturn e (T.setTop f) acts (some w)).1 = T.setFrames fs) : Steps p.tables e below (T.setTop (mkF m pc Ls (w :: rest))) (T.setFrames fs) :=
  retOut X hx hret (by cases t <;> simp [FieldType.isReference] at ht <;> cases w <;> simp [Value.isRef] at hw <;> rfl) (Or.inr (Or.inr (Or.inr (Or.inr ⟨rfl, ht, hw⟩)))) hd hl
theorem own_stakeep {h' : Heap} {O n d : String} {v : Value} (F : Sta Z h O n d v) (K : Keep h h' []) : Sta Z h' O n d v := by
  obtain ⟨cf, i, k, f, st, cell, h1, h2, h3, h4, h5, r⟩ := F
  exact ⟨cf, i, k, f, st, cell, h1, h2, h3, h4, K.2.1 _ _ h5 nin0, r⟩
end Own

def own_maxL (x y : Int64) : Int64 := if x < y then y else x
theorem d1_0 : decode jdk_29_method_66_code 0 = .ok (.lload_n 0, 1) := by decide +kernel
theorem d1_1 : decode jdk_29_method_66_code 1 = .ok (.lload_n 2, 1) := by decide +kernel
theorem d1_2 : decode jdk_29_method_66_code 2 = .ok (.lcmp, 1) := by decide +kernel
theorem d1_3 : decode jdk_29_method_66_code 3 = .ok (.ifCond .lt 7, 3) := by decide +kernel
theorem d1_6 : decode jdk_29_method_66_code 6 = .ok (.lload_n 0, 1) := by decide +kernel
theorem d1_7 : decode jdk_29_method_66_code 7 = .ok (.goto 4, 3) := by decide +kernel
theorem d1_10 : decode jdk_29_method_66_code 10 = .ok (.lload_n 2, 1) := by decide +kernel
theorem d1_11 : decode jdk_29_method_66_code 11 = .ok (.lreturn, 1) := by decide +kernel
theorem pn_1 : plainFor (⟨"java/lang/Math", "max", "(JJ)J"⟩ : MethodName) = true := Jvm.Free.JP.mathPlain rfl (by decide +kernel)
theorem ef_1 (m : MethodId) (q1 : Int64) (q2 : Int64) : entryFrame m #[(.long q1), (.long q2)] 4 = mkF m 0 #[.val (.long q1), .second, .val (.long q2), .second] [] := by first | (simp [entryFrame, mkF, argsToLocals, Value.category]; done) | rfl
set_option maxRecDepth 65536 in
set_option maxHeartbeats 40000000 in
theorem rm1 (l : Launch) (Z : State) (a0 : Array Value) (hw : ∀ d ∈ tables_1, d.before a0 Z = true) (ws : List Jvm.Cond) (q1 : Int64) (q2 : Int64) (h0 : Heap) (n0 : Nat) (Z0 : n0 ≤ h0.size) :
    OwnCtr l Z (⟨"java/lang/Math", "max", "(JJ)J"⟩ : MethodName) ws jdk_29_method_66_code 4 (some .long) ({ frames := 0, cells := 0, slots := 0, locals := 0 } : Room) #[(.long q1), (.long q2)] h0 (fun v h L => v = some (.long (own_maxL q1 q2)) ∧ Fr n0 L ∧ h = h0) := by
  refine own_body (g0 := fun m => mkF m 0 #[.val (.long q1), .second, .val (.long q2), .second] []) pn_1 (fun m => ef_1 m q1 q2) ?_
  intro p e s m below meth c s₁ X0 hx hby hml hown hnm hZ e0 hret hlk
  have hml : c.maxLocals = 4 := hml
  have hown : s.vm.findClass "java/lang/Math" = some m.cls := hown
  have hnm : meth.name = "max" := hnm
  have hret : meth.sig.returnType = (some .long) := hret
  have N0 := Fr.nil n0
  show OwnFin p e below s _ _ _ (s₁.setTop (mkF m 0 #[.val (.long q1), .second, .val (.long q2), .second] []))
  refine own_go (fun t k => XS.lloadN X0.here hx rfl (hb hby d1_0) rfl k) ?_
  show OwnFin p e below s _ _ _ (s₁.setTop (mkF m 1 #[.val (.long q1), .second, .val (.long q2), .second] [(.long q1)]))
  refine own_go (fun t k => XS.lloadN X0.here hx rfl (hb hby d1_1) rfl k) ?_
  show OwnFin p e below s _ _ _ (s₁.setTop (mkF m 2 #[.val (.long q1), .second, .val (.long q2), .second] [(.long q2), (.long q1)]))
  refine own_go (fun t k => XS.lcmp X0.here hx rfl (hb hby d1_2) rfl k) ?_
  show OwnFin p e below s _ _ _ (s₁.setTop (mkF m 3 #[.val (.long q1), .second, .val (.long q2), .second] [(.int (lcmpW q1 q2))]))
  by_cases hc3 : q1 < q2
  · refine own_go (fun t k => XS.ifYes X0.here hx rfl (pc0 := 3) (pc' := 10) rfl (hb hby d1_3) rfl ((if0 _ _).trans (tlt ((lw_lt q1 q2).mpr hc3)).1) (by decide) (by decide) k) ?_
    show OwnFin p e below s _ _ _ (s₁.setTop (mkF m 10 #[.val (.long q1), .second, .val (.long q2), .second] []))
    refine own_go (fun t k => XS.lloadN X0.here hx rfl (hb hby d1_10) rfl k) ?_
    show OwnFin p e below s _ _ _ (s₁.setTop (mkF m 11 #[.val (.long q1), .second, .val (.long q2), .second] [(.long q2)]))
    refine own_ret X0 (v := some (.long q2)) hlk (fun hh => by rw [hret] at hh; cases hh) (fun fs hr => own_retJ X0 hx hret (hb hby d1_11) hr) (by decide) (by decide) ?_
    rw [e0]
    exact ⟨by simp [own_maxL, hc3], N0, rfl⟩
  · refine own_go (fun t k => XS.ifNo X0.here hx rfl (hb hby d1_3) rfl ((if0 _ _).trans (flt (mt (lw_lt q1 q2).mp hc3)).1) k) ?_
    show OwnFin p e below s _ _ _ (s₁.setTop (mkF m 6 #[.val (.long q1), .second, .val (.long q2), .second] []))
    refine own_go (fun t k => XS.lloadN X0.here hx rfl (hb hby d1_6) rfl k) ?_
    show OwnFin p e below s _ _ _ (s₁.setTop (mkF m 7 #[.val (.long q1), .second, .val (.long q2), .second] [(.long q1)]))
    refine own_go (fun t k => XS.goto X0.here hx rfl (pc0 := 7) (pc' := 11) rfl (hb hby d1_7) (by decide) (by decide) k) ?_
    show OwnFin p e below s _ _ _ (s₁.setTop (mkF m 11 #[.val (.long q1), .second, .val (.long q2), .second] [(.long q1)]))
    refine own_ret X0 (v := some (.long q1)) hlk (fun hh => by rw [hret] at hh; cases hh) (fun fs hr => own_retJ X0 hx hret (hb hby d1_11) hr) (by decide) (by decide) ?_
    rw [e0]
    exact ⟨by simp [own_maxL, hc3], N0, rfl⟩
theorem d3_0 : decode prog_2_method_1_code 0 = .ok (.aload_n 0, 1) := by decide +kernel
theorem d3_1 : decode prog_2_method_1_code 1 = .ok (.invokespecial 1, 3) := by decide +kernel
theorem d3_4 : decode prog_2_method_1_code 4 = .ok (.aload_n 0, 1) := by decide +kernel
theorem d3_5 : decode prog_2_method_1_code 5 = .ok (.iload_n 1, 1) := by decide +kernel
theorem d3_6 : decode prog_2_method_1_code 6 = .ok (.putfield 7, 3) := by decide +kernel
theorem d3_9 : decode prog_2_method_1_code 9 = .ok (.aload_n 0, 1) := by decide +kernel
theorem d3_10 : decode prog_2_method_1_code 10 = .ok (.lload_n 2, 1) := by decide +kernel
theorem d3_11 : decode prog_2_method_1_code 11 = .ok (.putfield 13, 3) := by decide +kernel
theorem d3_14 : decode prog_2_method_1_code 14 = .ok (.aload_n 0, 1) := by decide +kernel
theorem d3_15 : decode prog_2_method_1_code 15 = .ok (.lload 4, 2) := by decide +kernel
theorem d3_17 : decode prog_2_method_1_code 17 = .ok (.putfield 17, 3) := by decide +kernel
theorem d3_20 : decode prog_2_method_1_code 20 = .ok (.aload_n 0, 1) := by decide +kernel
theorem d3_21 : decode prog_2_method_1_code 21 = .ok (.lload 6, 2) := by decide +kernel
theorem d3_23 : decode prog_2_method_1_code 23 = .ok (.putfield 20, 3) := by decide +kernel
theorem d3_26 : decode prog_2_method_1_code 26 = .ok (.return_, 1) := by decide +kernel
theorem pn_3 : plainFor (⟨"com/example/goby/goby/lock/AcquireResult", "<init>", "(ZJJJ)V"⟩ : MethodName) = true := plainFor_of_name (by first | (simp [plainName, overriddenIn]; done) | decide +kernel)
theorem ef_3 (m : MethodId) (a1 : Addr) (p2 : Int32) (q3 : Int64) (q4 : Int64) (q5 : Int64) : entryFrame m #[(.ref a1), (.int p2), (.long q3), (.long q4), (.long q5)] 8 = mkF m 0 #[.val (.ref a1), .val (.int p2), .val (.long q3), .second, .val (.long q4), .second, .val (.long q5), .second] [] := by first | (simp [entryFrame, mkF, argsToLocals, Value.category]; done) | rfl
set_option maxRecDepth 65536 in
set_option maxHeartbeats 40000000 in
theorem rm3 (l : Launch) (Z : State) (a0 : Array Value) (hw : ∀ d ∈ tables_1, d.before a0 Z = true) (ws : List Jvm.Cond) (a1 : Addr) (p2 : Int32) (q3 : Int64) (q4 : Int64) (q5 : Int64) {u_granted : Value} {u_fencingToken : Value} {u_remainingMillis : Value} {u_backOffMillis : Value} (h0 : Heap) (n0 : Nat) (Z0 : n0 ≤ h0.size) (E_a1 : Exa Z h0 a1 "com/example/goby/goby/lock/AcquireResult") (g_a1 : n0 ≤ a1) (F_granted_a1 : Fld Z h0 a1 "com/example/goby/goby/lock/AcquireResult" "granted" "Z" u_granted) (F_fencingToken_a1 : Fld Z h0 a1 "com/example/goby/goby/lock/AcquireResult" "fencingToken" "J" u_fencingToken) (F_remainingMillis_a1 : Fld Z h0 a1 "com/example/goby/goby/lock/AcquireResult" "remainingMillis" "J" u_remainingMillis) (F_backOffMillis_a1 : Fld Z h0 a1 "com/example/goby/goby/lock/AcquireResult" "backOffMillis" "J" u_backOffMillis) :
    OwnCtr l Z (⟨"com/example/goby/goby/lock/AcquireResult", "<init>", "(ZJJJ)V"⟩ : MethodName) ws prog_2_method_1_code 8 none ({ frames := 1, cells := 0, slots := 0, locals := 12 } : Room) #[(.ref a1), (.int p2), (.long q3), (.long q4), (.long q5)] h0 (fun v h L => v = none ∧ Fr n0 L ∧ Keep h0 h [a1] ∧ Exa Z h a1 "com/example/goby/goby/lock/AcquireResult" ∧ Fld Z h a1 "com/example/goby/goby/lock/AcquireResult" "granted" "Z" (.int (nar .boolean p2)) ∧ Fld Z h a1 "com/example/goby/goby/lock/AcquireResult" "fencingToken" "J" (.long q3) ∧ Fld Z h a1 "com/example/goby/goby/lock/AcquireResult" "remainingMillis" "J" (.long q4) ∧ Fld Z h a1 "com/example/goby/goby/lock/AcquireResult" "backOffMillis" "J" (.long q5)) := by
  refine own_body (g0 := fun m => mkF m 0 #[.val (.ref a1), .val (.int p2), .val (.long q3), .second, .val (.long q4), .second, .val (.long q5), .second] []) pn_3 (fun m => ef_3 m a1 p2 q3 q4 q5) ?_
  intro p e s m below meth c s₁ X0 hx hby hml hown hnm hZ e0 hret hlk
  have hml : c.maxLocals = 8 := hml
  have hown : s.vm.findClass "com/example/goby/goby/lock/AcquireResult" = some m.cls := hown
  have hnm : meth.name = "<init>" := hnm
  have hret : meth.sig.returnType = none := hret
  have N0 := Fr.nil n0
  have K0 := Keep.refl h0 [a1]
  show OwnFin p e below s _ _ _ (s₁.setTop (mkF m 0 #[.val (.ref a1), .val (.int p2), .val (.long q3), .second, .val (.long q4), .second, .val (.long q5), .second] []))
  refine own_go (fun t k => XS.aloadN X0.here hx rfl (hb hby d3_0) rfl rfl k) ?_
  show OwnFin p e below s _ _ _ (s₁.setTop (mkF m 1 #[.val (.ref a1), .val (.int p2), .val (.long q3), .second, .val (.long q4), .second, .val (.long q5), .second] [(.ref a1)]))
  obtain ⟨T1, X1, e1, st1⟩ := initO X0 hx hZ hown (hw _ (List.mem_of_getElem? (i := 14) rfl)) (hw _ (List.mem_of_getElem? (i := 15) rfl)) (hw _ (List.mem_of_getElem? (i := 16) rfl)) e0 (g := (mkF m 1 #[.val (.ref a1), .val (.int p2), .val (.long q3), .second, .val (.long q4), .second, .val (.long q5), .second] [(.ref a1)])) rfl (by rw [hml]; rfl) rfl (hb hby d3_1) (by decide) (W := 0) (by show 2 * 0 + _ ≤ _; exact Nat.le_of_eq rfl) (by decide)
  refine own_go st1 ?_
  show OwnFin p e below s _ _ _ (T1.setTop (mkF m 4 #[.val (.ref a1), .val (.int p2), .val (.long q3), .second, .val (.long q4), .second, .val (.long q5), .second] []))
  refine own_go (fun t k => XS.aloadN X1.here hx rfl (hb hby d3_4) rfl rfl k) ?_
  show OwnFin p e below s _ _ _ (T1.setTop (mkF m 5 #[.val (.ref a1), .val (.int p2), .val (.long q3), .second, .val (.long q4), .second, .val (.long q5), .second] [(.ref a1)]))
  refine own_go (fun t k => XS.iloadN X1.here hx rfl (hb hby d3_5) rfl k) ?_
  show OwnFin p e below s _ _ _ (T1.setTop (mkF m 6 #[.val (.ref a1), .val (.int p2), .val (.long q3), .second, .val (.long q4), .second, .val (.long q5), .second] [(.int p2), (.ref a1)]))
  obtain ⟨T2, h2, X2, e2, W2, st2⟩ := putFN X1 hx hZ hown (hw _ (List.mem_of_getElem? (i := 17) rfl)) Via.refl e1 F_granted_a1 E_a1 (Or.inr ⟨(hw _ (List.mem_of_getElem? (i := 18) rfl)), rfl, hnm⟩) (hw _ (List.mem_of_getElem? (i := 10) rfl)) (ty := .boolean) (v' := (.int (nar .boolean p2))) (by decide) rfl (fits_nar_bool _) (g := (mkF m 6 #[.val (.ref a1), .val (.int p2), .val (.long q3), .second, .val (.long q4), .second, .val (.long q5), .second] [(.int p2), (.ref a1)])) rfl rfl (hb hby d3_6)
  have E_a1_2 := E_a1.wr W2
  have F_granted_a1_2 := F_granted_a1.same W2
  have F_fencingToken_a1_2 := F_fencingToken_a1.other W2 (Or.inr (slot_ne (Or.inr (hw _ (List.mem_of_getElem? (i := 20) rfl))) (Or.inr (hw _ (List.mem_of_getElem? (i := 18) rfl))) (by decide) (t := .long) (t' := .boolean) (by decide) (by decide)))
  have F_remainingMillis_a1_2 := F_remainingMillis_a1.other W2 (Or.inr (slot_ne (Or.inr (hw _ (List.mem_of_getElem? (i := 22) rfl))) (Or.inr (hw _ (List.mem_of_getElem? (i := 18) rfl))) (by decide) (t := .long) (t' := .boolean) (by decide) (by decide)))
  have F_backOffMillis_a1_2 := F_backOffMillis_a1.other W2 (Or.inr (slot_ne (Or.inr (hw _ (List.mem_of_getElem? (i := 24) rfl))) (Or.inr (hw _ (List.mem_of_getElem? (i := 18) rfl))) (by decide) (t := .long) (t' := .boolean) (by decide) (by decide)))
  have Z2 : n0 ≤ h2.size := Nat.le_trans Z0 (Keep.of_wr W2).1
  have K2 : Keep h0 h2 [a1] := K0.wr W2 (Or.inl (List.mem_of_getElem? (i := 0) rfl))
  have N2 := Fr.snoc X2 N0 g_a1
  refine own_go st2 ?_
  show OwnFin p e below s _ _ _ (T2.setTop (mkF m 9 #[.val (.ref a1), .val (.int p2), .val (.long q3), .second, .val (.long q4), .second, .val (.long q5), .second] []))
  refine own_go (fun t k => XS.aloadN X2.here hx rfl (hb hby d3_9) rfl rfl k) ?_
  show OwnFin p e below s _ _ _ (T2.setTop (mkF m 10 #[.val (.ref a1), .val (.int p2), .val (.long q3), .second, .val (.long q4), .second, .val (.long q5), .second] [(.ref a1)]))
  refine own_go (fun t k => XS.lloadN X2.here hx rfl (hb hby d3_10) rfl k) ?_
  show OwnFin p e below s _ _ _ (T2.setTop (mkF m 11 #[.val (.ref a1), .val (.int p2), .val (.long q3), .second, .val (.long q4), .second, .val (.long q5), .second] [(.long q3), (.ref a1)]))
  obtain ⟨T3, h3, X3, e3, W3, st3⟩ := putF X2 hx hZ hown (host := "") (Or.inl (hw _ (List.mem_of_getElem? (i := 19) rfl))) Via.refl e2 F_fencingToken_a1_2 E_a1_2 (Or.inr ⟨(hw _ (List.mem_of_getElem? (i := 20) rfl)), rfl, hnm⟩) (hw _ (List.mem_of_getElem? (i := 10) rfl)) (ty := .long) (by decide) rfl rfl (g := (mkF m 11 #[.val (.ref a1), .val (.int p2), .val (.long q3), .second, .val (.long q4), .second, .val (.long q5), .second] [(.long q3), (.ref a1)])) rfl rfl (hb hby d3_11)
  have E_a1_3 := E_a1_2.wr W3
  have F_granted_a1_3 := F_granted_a1_2.other W3 (Or.inr (slot_ne (Or.inr (hw _ (List.mem_of_getElem? (i := 18) rfl))) (Or.inr (hw _ (List.mem_of_getElem? (i := 20) rfl))) (by decide) (t := .boolean) (t' := .long) (by decide) (by decide)))
  have F_fencingToken_a1_3 := F_fencingToken_a1_2.same W3
  have F_remainingMillis_a1_3 := F_remainingMillis_a1_2.other W3 (Or.inr (slot_ne (Or.inr (hw _ (List.mem_of_getElem? (i := 22) rfl))) (Or.inr (hw _ (List.mem_of_getElem? (i := 20) rfl))) (by decide) (t := .long) (t' := .long) (by decide) (by decide)))
  have F_backOffMillis_a1_3 := F_backOffMillis_a1_2.other W3 (Or.inr (slot_ne (Or.inr (hw _ (List.mem_of_getElem? (i := 24) rfl))) (Or.inr (hw _ (List.mem_of_getElem? (i := 20) rfl))) (by decide) (t := .long) (t' := .long) (by decide) (by decide)))
  have Z3 : n0 ≤ h3.size := Nat.le_trans Z2 (Keep.of_wr W3).1
  have K3 : Keep h0 h3 [a1] := K2.wr W3 (Or.inl (List.mem_of_getElem? (i := 0) rfl))
  have N3 := Fr.snoc X3 N2 g_a1
  refine own_go st3 ?_
  show OwnFin p e below s _ _ _ (T3.setTop (mkF m 14 #[.val (.ref a1), .val (.int p2), .val (.long q3), .second, .val (.long q4), .second, .val (.long q5), .second] []))
  refine own_go (fun t k => XS.aloadN X3.here hx rfl (hb hby d3_14) rfl rfl k) ?_
  show OwnFin p e below s _ _ _ (T3.setTop (mkF m 15 #[.val (.ref a1), .val (.int p2), .val (.long q3), .second, .val (.long q4), .second, .val (.long q5), .second] [(.ref a1)]))
  refine own_go (fun t k => XS.lload X3.here hx rfl (hb hby d3_15) rfl k) ?_
  show OwnFin p e below s _ _ _ (T3.setTop (mkF m 17 #[.val (.ref a1), .val (.int p2), .val (.long q3), .second, .val (.long q4), .second, .val (.long q5), .second] [(.long q4), (.ref a1)]))
  obtain ⟨T4, h4, X4, e4, W4, st4⟩ := putF X3 hx hZ hown (host := "") (Or.inl (hw _ (List.mem_of_getElem? (i := 21) rfl))) Via.refl e3 F_remainingMillis_a1_3 E_a1_3 (Or.inr ⟨(hw _ (List.mem_of_getElem? (i := 22) rfl)), rfl, hnm⟩) (hw _ (List.mem_of_getElem? (i := 10) rfl)) (ty := .long) (by decide) rfl rfl (g := (mkF m 17 #[.val (.ref a1), .val (.int p2), .val (.long q3), .second, .val (.long q4), .second, .val (.long q5), .second] [(.long q4), (.ref a1)])) rfl rfl (hb hby d3_17)
  have E_a1_4 := E_a1_3.wr W4
  have F_granted_a1_4 := F_granted_a1_3.other W4 (Or.inr (slot_ne (Or.inr (hw _ (List.mem_of_getElem? (i := 18) rfl))) (Or.inr (hw _ (List.mem_of_getElem? (i := 22) rfl))) (by decide) (t := .boolean) (t' := .long) (by decide) (by decide)))
  have F_fencingToken_a1_4 := F_fencingToken_a1_3.other W4 (Or.inr (slot_ne (Or.inr (hw _ (List.mem_of_getElem? (i := 20) rfl))) (Or.inr (hw _ (List.mem_of_getElem? (i := 22) rfl))) (by decide) (t := .long) (t' := .long) (by decide) (by decide)))
  have F_remainingMillis_a1_4 := F_remainingMillis_a1_3.same W4
  have F_backOffMillis_a1_4 := F_backOffMillis_a1_3.other W4 (Or.inr (slot_ne (Or.inr (hw _ (List.mem_of_getElem? (i := 24) rfl))) (Or.inr (hw _ (List.mem_of_getElem? (i := 22) rfl))) (by decide) (t := .long) (t' := .long) (by decide) (by decide)))
  have Z4 : n0 ≤ h4.size := Nat.le_trans Z3 (Keep.of_wr W4).1
  have K4 : Keep h0 h4 [a1] := K3.wr W4 (Or.inl (List.mem_of_getElem? (i := 0) rfl))
  have N4 := Fr.snoc X4 N3 g_a1
  refine own_go st4 ?_
  show OwnFin p e below s _ _ _ (T4.setTop (mkF m 20 #[.val (.ref a1), .val (.int p2), .val (.long q3), .second, .val (.long q4), .second, .val (.long q5), .second] []))
  refine own_go (fun t k => XS.aloadN X4.here hx rfl (hb hby d3_20) rfl rfl k) ?_
  show OwnFin p e below s _ _ _ (T4.setTop (mkF m 21 #[.val (.ref a1), .val (.int p2), .val (.long q3), .second, .val (.long q4), .second, .val (.long q5), .second] [(.ref a1)]))
  refine own_go (fun t k => XS.lload X4.here hx rfl (hb hby d3_21) rfl k) ?_
  show OwnFin p e below s _ _ _ (T4.setTop (mkF m 23 #[.val (.ref a1), .val (.int p2), .val (.long q3), .second, .val (.long q4), .second, .val (.long q5), .second] [(.long q5), (.ref a1)]))
  obtain ⟨T5, h5, X5, e5, W5, st5⟩ := putF X4 hx hZ hown (host := "") (Or.inl (hw _ (List.mem_of_getElem? (i := 23) rfl))) Via.refl e4 F_backOffMillis_a1_4 E_a1_4 (Or.inr ⟨(hw _ (List.mem_of_getElem? (i := 24) rfl)), rfl, hnm⟩) (hw _ (List.mem_of_getElem? (i := 10) rfl)) (ty := .long) (by decide) rfl rfl (g := (mkF m 23 #[.val (.ref a1), .val (.int p2), .val (.long q3), .second, .val (.long q4), .second, .val (.long q5), .second] [(.long q5), (.ref a1)])) rfl rfl (hb hby d3_23)
  have E_a1_5 := E_a1_4.wr W5
  have F_granted_a1_5 := F_granted_a1_4.other W5 (Or.inr (slot_ne (Or.inr (hw _ (List.mem_of_getElem? (i := 18) rfl))) (Or.inr (hw _ (List.mem_of_getElem? (i := 24) rfl))) (by decide) (t := .boolean) (t' := .long) (by decide) (by decide)))
  have F_fencingToken_a1_5 := F_fencingToken_a1_4.other W5 (Or.inr (slot_ne (Or.inr (hw _ (List.mem_of_getElem? (i := 20) rfl))) (Or.inr (hw _ (List.mem_of_getElem? (i := 24) rfl))) (by decide) (t := .long) (t' := .long) (by decide) (by decide)))
  have F_remainingMillis_a1_5 := F_remainingMillis_a1_4.other W5 (Or.inr (slot_ne (Or.inr (hw _ (List.mem_of_getElem? (i := 22) rfl))) (Or.inr (hw _ (List.mem_of_getElem? (i := 24) rfl))) (by decide) (t := .long) (t' := .long) (by decide) (by decide)))
  have F_backOffMillis_a1_5 := F_backOffMillis_a1_4.same W5
  have Z5 : n0 ≤ h5.size := Nat.le_trans Z4 (Keep.of_wr W5).1
  have K5 : Keep h0 h5 [a1] := K4.wr W5 (Or.inl (List.mem_of_getElem? (i := 0) rfl))
  have N5 := Fr.snoc X5 N4 g_a1
  refine own_go st5 ?_
  show OwnFin p e below s _ _ _ (T5.setTop (mkF m 26 #[.val (.ref a1), .val (.int p2), .val (.long q3), .second, .val (.long q4), .second, .val (.long q5), .second] []))
  refine own_ret X5 (v := none) hlk (fun _ => rfl) (fun fs hr => X5.returnOut hx hret (hb hby d3_26) hr) (by decide) (by decide) ?_
  rw [e5]
  exact ⟨rfl, N5, K5, E_a1_5, F_granted_a1_5, F_fencingToken_a1_5, F_remainingMillis_a1_5, F_backOffMillis_a1_5⟩
theorem d2_0 : decode prog_2_method_4_code 0 = .ok (.new 8, 3) := by decide +kernel
theorem d2_3 : decode prog_2_method_4_code 3 = .ok (.dup, 1) := by decide +kernel
theorem d2_4 : decode prog_2_method_4_code 4 = .ok (.iconst 0, 1) := by decide +kernel
theorem d2_5 : decode prog_2_method_4_code 5 = .ok (.lconst 0, 1) := by decide +kernel
theorem d2_6 : decode prog_2_method_4_code 6 = .ok (.lload_n 0, 1) := by decide +kernel
theorem d2_7 : decode prog_2_method_4_code 7 = .ok (.lload_n 2, 1) := by decide +kernel
theorem d2_8 : decode prog_2_method_4_code 8 = .ok (.invokespecial 23, 3) := by decide +kernel
theorem d2_11 : decode prog_2_method_4_code 11 = .ok (.areturn, 1) := by decide +kernel
theorem pn_2 : plainFor (⟨"com/example/goby/goby/lock/AcquireResult", "refused", "(JJ)Lcom/example/goby/goby/lock/AcquireResult;"⟩ : MethodName) = true := plainFor_of_name (by first | (simp [plainName, overriddenIn]; done) | decide +kernel)
theorem pd_2_2 : parseMethodDescriptor "(ZJJJ)V" = some ⟨[.boolean, .long, .long, .long], none⟩ := by decide +kernel
theorem ef_2 (m : MethodId) (q1 : Int64) (q2 : Int64) : entryFrame m #[(.long q1), (.long q2)] 4 = mkF m 0 #[.val (.long q1), .second, .val (.long q2), .second] [] := by first | (simp [entryFrame, mkF, argsToLocals, Value.category]; done) | rfl
set_option maxRecDepth 65536 in
set_option maxHeartbeats 40000000 in
theorem rm2 (l : Launch) (Z : State) (a0 : Array Value) (hw : ∀ d ∈ tables_1, d.before a0 Z = true) (ws : List Jvm.Cond) (q1 : Int64) (q2 : Int64) (h0 : Heap) (n0 : Nat) (Z0 : n0 ≤ h0.size) :
    OwnCtr l Z (⟨"com/example/goby/goby/lock/AcquireResult", "refused", "(JJ)Lcom/example/goby/goby/lock/AcquireResult;"⟩ : MethodName) ws prog_2_method_4_code 4 (some (.object "com/example/goby/goby/lock/AcquireResult")) ({ frames := 2, cells := 1, slots := 4, locals := 32 } : Room) #[(.long q1), (.long q2)] h0 (fun v h L => ∃ b : Addr, v = some (.ref b) ∧ Fr n0 L ∧ Keep h0 h [] ∧ h0.size ≤ b ∧ Exa Z h b "com/example/goby/goby/lock/AcquireResult" ∧ Fld Z h b "com/example/goby/goby/lock/AcquireResult" "granted" "Z" (.int (0 : Int32)) ∧ Fld Z h b "com/example/goby/goby/lock/AcquireResult" "fencingToken" "J" (.long (0 : Int64)) ∧ Fld Z h b "com/example/goby/goby/lock/AcquireResult" "remainingMillis" "J" (.long q1) ∧ Fld Z h b "com/example/goby/goby/lock/AcquireResult" "backOffMillis" "J" (.long q2)) := by
  refine own_body (g0 := fun m => mkF m 0 #[.val (.long q1), .second, .val (.long q2), .second] []) pn_2 (fun m => ef_2 m q1 q2) ?_
  intro p e s m below meth c s₁ X0 hx hby hml hown hnm hZ e0 hret hlk
  have hml : c.maxLocals = 4 := hml
  have hown : s.vm.findClass "com/example/goby/goby/lock/AcquireResult" = some m.cls := hown
  have hnm : meth.name = "refused" := hnm
  have hret : meth.sig.returnType = (some (.object "com/example/goby/goby/lock/AcquireResult")) := hret
  have N0 := Fr.nil n0
  have K0 := Keep.refl h0 []
  show OwnFin p e below s _ _ _ (s₁.setTop (mkF m 0 #[.val (.long q1), .second, .val (.long q2), .second] []))
  obtain ⟨T1, h1, X1, e1, E1, A1, D1, -, st1⟩ := newO X0 hx hZ hown (hw _ (List.mem_of_getElem? (i := 9) rfl)) (hw _ (List.mem_of_getElem? (i := 10) rfl)) (hw _ (List.mem_of_getElem? (i := 7) rfl)) e0 (g := (mkF m 0 #[.val (.long q1), .second, .val (.long q2), .second] [])) rfl (hb hby d2_0) (by decide) (by decide)
  obtain ⟨b1, g1⟩ : ∃ z, z = h0.size := ⟨_, rfl⟩
  rw [← g1] at A1 D1 st1
  have g_b1 : n0 ≤ b1 := Nat.le_trans Z0 (Nat.le_of_eq g1.symm)
  have sz_b1 : h0.size ≤ b1 := Nat.le_trans K0.1 (Nat.le_of_eq g1.symm)
  have Z1 : n0 ≤ h1.size := Nat.le_trans Z0 E1.1
  have K1 : Keep h0 h1 [] := K0.ext E1
  have E_b1 := A1
  have F_granted_b1 : Fld Z h1 b1 "com/example/goby/goby/lock/AcquireResult" "granted" "Z" (.int (0 : Int32)) := D1 (Or.inr (hw _ (List.mem_of_getElem? (i := 18) rfl))) (ty := .boolean) (by decide)
  have F_fencingToken_b1 : Fld Z h1 b1 "com/example/goby/goby/lock/AcquireResult" "fencingToken" "J" (.long (0 : Int64)) := D1 (Or.inr (hw _ (List.mem_of_getElem? (i := 20) rfl))) (ty := .long) (by decide)
  have F_remainingMillis_b1 : Fld Z h1 b1 "com/example/goby/goby/lock/AcquireResult" "remainingMillis" "J" (.long (0 : Int64)) := D1 (Or.inr (hw _ (List.mem_of_getElem? (i := 22) rfl))) (ty := .long) (by decide)
  have F_backOffMillis_b1 : Fld Z h1 b1 "com/example/goby/goby/lock/AcquireResult" "backOffMillis" "J" (.long (0 : Int64)) := D1 (Or.inr (hw _ (List.mem_of_getElem? (i := 24) rfl))) (ty := .long) (by decide)
  refine own_go st1 ?_
  show OwnFin p e below s _ _ _ (T1.setTop (mkF m 3 #[.val (.long q1), .second, .val (.long q2), .second] [(.ref b1)]))
  refine own_go (fun t k => XS.dup X1.here hx rfl (hb hby d2_3) rfl rfl k) ?_
  show OwnFin p e below s _ _ _ (T1.setTop (mkF m 4 #[.val (.long q1), .second, .val (.long q2), .second] [(.ref b1), (.ref b1)]))
  refine own_go (fun t k => XS.iconst X1.here hx rfl (hb hby d2_4) k) ?_
  show OwnFin p e below s _ _ _ (T1.setTop (mkF m 5 #[.val (.long q1), .second, .val (.long q2), .second] [(.int (0 : Int32)), (.ref b1), (.ref b1)]))
  refine own_go (fun t k => XS.lconst X1.here hx rfl (hb hby d2_5) k) ?_
  show OwnFin p e below s _ _ _ (T1.setTop (mkF m 6 #[.val (.long q1), .second, .val (.long q2), .second] [(.long (0 : Int64)), (.int (0 : Int32)), (.ref b1), (.ref b1)]))
  refine own_go (fun t k => XS.lloadN X1.here hx rfl (hb hby d2_6) rfl k) ?_
  show OwnFin p e below s _ _ _ (T1.setTop (mkF m 7 #[.val (.long q1), .second, .val (.long q2), .second] [(.long q1), (.long (0 : Int64)), (.int (0 : Int32)), (.ref b1), (.ref b1)]))
  refine own_go (fun t k => XS.lloadN X1.here hx rfl (hb hby d2_7) rfl k) ?_
  show OwnFin p e below s _ _ _ (T1.setTop (mkF m 8 #[.val (.long q1), .second, .val (.long q2), .second] [(.long q2), (.long q1), (.long (0 : Int64)), (.int (0 : Int32)), (.ref b1), (.ref b1)]))
  obtain ⟨v2, T2, L2, X2, hQ2, st2⟩ := own_callI X1 hx hZ (y := (⟨"com/example/goby/goby/lock/AcquireResult", "<init>", "(ZJJJ)V"⟩ : MethodName)) rfl hown (hw _ (List.mem_of_getElem? (i := 11) rfl)) (hw _ (List.mem_of_getElem? (i := 12) rfl)) (hw _ (List.mem_of_getElem? (i := 7) rfl)) (hw _ (List.mem_of_getElem? (i := 13) rfl)) (by decide) (W := 1) (rm3 l Z a0 hw [] b1 (0 : Int32) (0 : Int64) q1 q2 h1 n0 Z1 E_b1 g_b1 F_granted_b1 F_fencingToken_b1 F_remainingMillis_b1 F_backOffMillis_b1) (by decide) (by decide) (g := (mkF m 8 #[.val (.long q1), .second, .val (.long q2), .second] [(.long q2), (.long q1), (.long (0 : Int64)), (.int (0 : Int32)), (.ref b1), (.ref b1)])) rfl (by rw [hml]; rfl) (a := b1) (argsL := [(.int (0 : Int32)), (.long (0 : Int64)), (.long q1), (.long q2)]) (rest := [(.ref b1)]) (lenOf pd_2_2 rfl) rfl (by show 2 * 0 + _ ≤ _; exact Nat.le_of_eq rfl) (hb hby d2_8) e1 rfl (by decide) (by decide)
  obtain ⟨rfl, Nq2, Kq2, Eq2, Fq2_0, Fq2_1, Fq2_2, Fq2_3⟩ := hQ2
  have N2 := Fr.app N0 Nq2
  have E_b1_2 := E_b1.keep Kq2
  have Z2 : n0 ≤ T2.heap.size := Nat.le_trans Z1 Kq2.1
  have K2 : Keep h0 T2.heap [] := K1.trans Kq2 (allS (Or.inr sz_b1) all0)
  refine own_go st2 ?_
  show OwnFin p e below s _ _ _ (T2.setTop (mkF m 11 #[.val (.long q1), .second, .val (.long q2), .second] [(.ref b1)]))
  refine own_ret X2 (v := some (.ref b1)) hlk (fun hh => by rw [hret] at hh; cases hh) (fun fs hr => own_retR X2 hx hret rfl rfl (hb hby d2_11) hr) (by decide) (by decide) ?_
  exact ⟨b1, rfl, N2, K2, sz_b1, Eq2, Fq2_0, Fq2_1, Fq2_2, Fq2_3⟩
theorem d5_0 : decode prog_2_method_5_code 0 = .ok (.aload_n 0, 1) := by decide +kernel
theorem d5_1 : decode prog_2_method_5_code 1 = .ok (.getfield 7, 3) := by decide +kernel
theorem d5_4 : decode prog_2_method_5_code 4 = .ok (.ireturn, 1) := by decide +kernel
theorem pn_5 : plainFor (⟨"com/example/goby/goby/lock/AcquireResult", "isGranted", "()Z"⟩ : MethodName) = true := plainFor_of_name (by first | (simp [plainName, overriddenIn]; done) | decide +kernel)
theorem ef_5 (m : MethodId) (a1 : Addr) : entryFrame m #[(.ref a1)] 1 = mkF m 0 #[.val (.ref a1)] [] := by first | (simp [entryFrame, mkF, argsToLocals, Value.category]; done) | rfl
set_option maxRecDepth 65536 in
set_option maxHeartbeats 40000000 in
theorem rm5 (l : Launch) (Z : State) (a0 : Array Value) (hw : ∀ d ∈ tables_1, d.before a0 Z = true) (ws : List Jvm.Cond) (a1 : Addr) {w : Int32} (h0 : Heap) (n0 : Nat) (Z0 : n0 ≤ h0.size) (F_a1 : Fld Z h0 a1 "com/example/goby/goby/lock/AcquireResult" "granted" "Z" (.int w)) :
    OwnCtr l Z (⟨"com/example/goby/goby/lock/AcquireResult", "isGranted", "()Z"⟩ : MethodName) ws prog_2_method_5_code 1 (some .boolean) ({ frames := 0, cells := 0, slots := 0, locals := 0 } : Room) #[(.ref a1)] h0 (fun v h L => v = some (.int (nar .boolean w)) ∧ Fr n0 L ∧ h = h0) := by
  refine own_body (g0 := fun m => mkF m 0 #[.val (.ref a1)] []) pn_5 (fun m => ef_5 m a1) ?_
  intro p e s m below meth c s₁ X0 hx hby hml hown hnm hZ e0 hret hlk
  have hml : c.maxLocals = 1 := hml
  have hown : s.vm.findClass "com/example/goby/goby/lock/AcquireResult" = some m.cls := hown
  have hnm : meth.name = "isGranted" := hnm
  have hret : meth.sig.returnType = (some .boolean) := hret
  have N0 := Fr.nil n0
  show OwnFin p e below s _ _ _ (s₁.setTop (mkF m 0 #[.val (.ref a1)] []))
  refine own_go (fun t k => XS.aloadN X0.here hx rfl (hb hby d5_0) rfl rfl k) ?_
  show OwnFin p e below s _ _ _ (s₁.setTop (mkF m 1 #[.val (.ref a1)] [(.ref a1)]))
  obtain ⟨T1, X1, e1, st1⟩ := getF X0 hx hZ hown (host := "") (Or.inl (hw _ (List.mem_of_getElem? (i := 17) rfl))) Via.refl e0 F_a1 (g := (mkF m 1 #[.val (.ref a1)] [(.ref a1)])) rfl rfl (hb hby d5_1)
  refine own_go st1 ?_
  show OwnFin p e below s _ _ _ (T1.setTop (mkF m 4 #[.val (.ref a1)] [(.int w)]))
  refine own_ret X1 (v := some (.int (nar .boolean w))) hlk (fun hh => by rw [hret] at hh; cases hh) (fun fs hr => retN X1 hx (t := .boolean) hret (by simp) (hb hby d5_4) hr) (by decide) (by decide) ?_
  rw [e1]
  exact ⟨rfl, N0, rfl⟩
theorem d6_0 : decode prog_2_method_6_code 0 = .ok (.aload_n 0, 1) := by decide +kernel
theorem d6_1 : decode prog_2_method_6_code 1 = .ok (.getfield 13, 3) := by decide +kernel
theorem d6_4 : decode prog_2_method_6_code 4 = .ok (.lreturn, 1) := by decide +kernel
theorem pn_6 : plainFor (⟨"com/example/goby/goby/lock/AcquireResult", "fencingToken", "()J"⟩ : MethodName) = true := plainFor_of_name (by first | (simp [plainName, overriddenIn]; done) | decide +kernel)
theorem ef_6 (m : MethodId) (a1 : Addr) : entryFrame m #[(.ref a1)] 1 = mkF m 0 #[.val (.ref a1)] [] := by first | (simp [entryFrame, mkF, argsToLocals, Value.category]; done) | rfl
set_option maxRecDepth 65536 in
set_option maxHeartbeats 40000000 in
theorem rm6 (l : Launch) (Z : State) (a0 : Array Value) (hw : ∀ d ∈ tables_1, d.before a0 Z = true) (ws : List Jvm.Cond) (a1 : Addr) {w : Int64} (h0 : Heap) (n0 : Nat) (Z0 : n0 ≤ h0.size) (F_a1 : Fld Z h0 a1 "com/example/goby/goby/lock/AcquireResult" "fencingToken" "J" (.long w)) :
    OwnCtr l Z (⟨"com/example/goby/goby/lock/AcquireResult", "fencingToken", "()J"⟩ : MethodName) ws prog_2_method_6_code 1 (some .long) ({ frames := 0, cells := 0, slots := 0, locals := 0 } : Room) #[(.ref a1)] h0 (fun v h L => v = some (.long w) ∧ Fr n0 L ∧ h = h0) := by
  refine own_body (g0 := fun m => mkF m 0 #[.val (.ref a1)] []) pn_6 (fun m => ef_6 m a1) ?_
  intro p e s m below meth c s₁ X0 hx hby hml hown hnm hZ e0 hret hlk
  have hml : c.maxLocals = 1 := hml
  have hown : s.vm.findClass "com/example/goby/goby/lock/AcquireResult" = some m.cls := hown
  have hnm : meth.name = "fencingToken" := hnm
  have hret : meth.sig.returnType = (some .long) := hret
  have N0 := Fr.nil n0
  show OwnFin p e below s _ _ _ (s₁.setTop (mkF m 0 #[.val (.ref a1)] []))
  refine own_go (fun t k => XS.aloadN X0.here hx rfl (hb hby d6_0) rfl rfl k) ?_
  show OwnFin p e below s _ _ _ (s₁.setTop (mkF m 1 #[.val (.ref a1)] [(.ref a1)]))
  obtain ⟨T1, X1, e1, st1⟩ := getF X0 hx hZ hown (host := "") (Or.inl (hw _ (List.mem_of_getElem? (i := 19) rfl))) Via.refl e0 F_a1 (g := (mkF m 1 #[.val (.ref a1)] [(.ref a1)])) rfl rfl (hb hby d6_1)
  refine own_go st1 ?_
  show OwnFin p e below s _ _ _ (T1.setTop (mkF m 4 #[.val (.ref a1)] [(.long w)]))
  refine own_ret X1 (v := some (.long w)) hlk (fun hh => by rw [hret] at hh; cases hh) (fun fs hr => own_retJ X1 hx hret (hb hby d6_4) hr) (by decide) (by decide) ?_
  rw [e1]
  exact ⟨rfl, N0, rfl⟩
theorem d7_0 : decode prog_2_method_7_code 0 = .ok (.aload_n 0, 1) := by decide +kernel
theorem d7_1 : decode prog_2_method_7_code 1 = .ok (.getfield 17, 3) := by decide +kernel
theorem d7_4 : decode prog_2_method_7_code 4 = .ok (.lreturn, 1) := by decide +kernel
theorem pn_7 : plainFor (⟨"com/example/goby/goby/lock/AcquireResult", "remainingMillis", "()J"⟩ : MethodName) = true := plainFor_of_name (by first | (simp [plainName, overriddenIn]; done) | decide +kernel)
theorem ef_7 (m : MethodId) (a1 : Addr) : entryFrame m #[(.ref a1)] 1 = mkF m 0 #[.val (.ref a1)] [] := by first | (simp [entryFrame, mkF, argsToLocals, Value.category]; done) | rfl
set_option maxRecDepth 65536 in
set_option maxHeartbeats 40000000 in
theorem rm7 (l : Launch) (Z : State) (a0 : Array Value) (hw : ∀ d ∈ tables_1, d.before a0 Z = true) (ws : List Jvm.Cond) (a1 : Addr) {w : Int64} (h0 : Heap) (n0 : Nat) (Z0 : n0 ≤ h0.size) (F_a1 : Fld Z h0 a1 "com/example/goby/goby/lock/AcquireResult" "remainingMillis" "J" (.long w)) :
    OwnCtr l Z (⟨"com/example/goby/goby/lock/AcquireResult", "remainingMillis", "()J"⟩ : MethodName) ws prog_2_method_7_code 1 (some .long) ({ frames := 0, cells := 0, slots := 0, locals := 0 } : Room) #[(.ref a1)] h0 (fun v h L => v = some (.long w) ∧ Fr n0 L ∧ h = h0) := by
  refine own_body (g0 := fun m => mkF m 0 #[.val (.ref a1)] []) pn_7 (fun m => ef_7 m a1) ?_
  intro p e s m below meth c s₁ X0 hx hby hml hown hnm hZ e0 hret hlk
  have hml : c.maxLocals = 1 := hml
  have hown : s.vm.findClass "com/example/goby/goby/lock/AcquireResult" = some m.cls := hown
  have hnm : meth.name = "remainingMillis" := hnm
  have hret : meth.sig.returnType = (some .long) := hret
  have N0 := Fr.nil n0
  show OwnFin p e below s _ _ _ (s₁.setTop (mkF m 0 #[.val (.ref a1)] []))
  refine own_go (fun t k => XS.aloadN X0.here hx rfl (hb hby d7_0) rfl rfl k) ?_
  show OwnFin p e below s _ _ _ (s₁.setTop (mkF m 1 #[.val (.ref a1)] [(.ref a1)]))
  obtain ⟨T1, X1, e1, st1⟩ := getF X0 hx hZ hown (host := "") (Or.inl (hw _ (List.mem_of_getElem? (i := 21) rfl))) Via.refl e0 F_a1 (g := (mkF m 1 #[.val (.ref a1)] [(.ref a1)])) rfl rfl (hb hby d7_1)
  refine own_go st1 ?_
  show OwnFin p e below s _ _ _ (T1.setTop (mkF m 4 #[.val (.ref a1)] [(.long w)]))
  refine own_ret X1 (v := some (.long w)) hlk (fun hh => by rw [hret] at hh; cases hh) (fun fs hr => own_retJ X1 hx hret (hb hby d7_4) hr) (by decide) (by decide) ?_
  rw [e1]
  exact ⟨rfl, N0, rfl⟩
theorem d8_0 : decode prog_2_method_8_code 0 = .ok (.aload_n 0, 1) := by decide +kernel
theorem d8_1 : decode prog_2_method_8_code 1 = .ok (.getfield 20, 3) := by decide +kernel
theorem d8_4 : decode prog_2_method_8_code 4 = .ok (.lreturn, 1) := by decide +kernel
theorem pn_8 : plainFor (⟨"com/example/goby/goby/lock/AcquireResult", "backOffMillis", "()J"⟩ : MethodName) = true := plainFor_of_name (by first | (simp [plainName, overriddenIn]; done) | decide +kernel)
theorem ef_8 (m : MethodId) (a1 : Addr) : entryFrame m #[(.ref a1)] 1 = mkF m 0 #[.val (.ref a1)] [] := by first | (simp [entryFrame, mkF, argsToLocals, Value.category]; done) | rfl
set_option maxRecDepth 65536 in
set_option maxHeartbeats 40000000 in
theorem rm8 (l : Launch) (Z : State) (a0 : Array Value) (hw : ∀ d ∈ tables_1, d.before a0 Z = true) (ws : List Jvm.Cond) (a1 : Addr) {w : Int64} (h0 : Heap) (n0 : Nat) (Z0 : n0 ≤ h0.size) (F_a1 : Fld Z h0 a1 "com/example/goby/goby/lock/AcquireResult" "backOffMillis" "J" (.long w)) :
    OwnCtr l Z (⟨"com/example/goby/goby/lock/AcquireResult", "backOffMillis", "()J"⟩ : MethodName) ws prog_2_method_8_code 1 (some .long) ({ frames := 0, cells := 0, slots := 0, locals := 0 } : Room) #[(.ref a1)] h0 (fun v h L => v = some (.long w) ∧ Fr n0 L ∧ h = h0) := by
  refine own_body (g0 := fun m => mkF m 0 #[.val (.ref a1)] []) pn_8 (fun m => ef_8 m a1) ?_
  intro p e s m below meth c s₁ X0 hx hby hml hown hnm hZ e0 hret hlk
  have hml : c.maxLocals = 1 := hml
  have hown : s.vm.findClass "com/example/goby/goby/lock/AcquireResult" = some m.cls := hown
  have hnm : meth.name = "backOffMillis" := hnm
  have hret : meth.sig.returnType = (some .long) := hret
  have N0 := Fr.nil n0
  show OwnFin p e below s _ _ _ (s₁.setTop (mkF m 0 #[.val (.ref a1)] []))
  refine own_go (fun t k => XS.aloadN X0.here hx rfl (hb hby d8_0) rfl rfl k) ?_
  show OwnFin p e below s _ _ _ (s₁.setTop (mkF m 1 #[.val (.ref a1)] [(.ref a1)]))
  obtain ⟨T1, X1, e1, st1⟩ := getF X0 hx hZ hown (host := "") (Or.inl (hw _ (List.mem_of_getElem? (i := 23) rfl))) Via.refl e0 F_a1 (g := (mkF m 1 #[.val (.ref a1)] [(.ref a1)])) rfl rfl (hb hby d8_1)
  refine own_go st1 ?_
  show OwnFin p e below s _ _ _ (T1.setTop (mkF m 4 #[.val (.ref a1)] [(.long w)]))
  refine own_ret X1 (v := some (.long w)) hlk (fun hh => by rw [hret] at hh; cases hh) (fun fs hr => own_retJ X1 hx hret (hb hby d8_4) hr) (by decide) (by decide) ?_
  rw [e1]
  exact ⟨rfl, N0, rfl⟩
theorem pn_0 : plainFor (⟨"com/example/goby/goby/lock/AcquireResultRefusedPinLaw", "law", "(JJ)Z"⟩ : MethodName) = true := plainFor_of_name (by first | (simp [plainName, overriddenIn]; done) | decide +kernel)
theorem pd_0_0 : parseMethodDescriptor "(JJ)J" = some ⟨[.long, .long], some .long⟩ := by decide +kernel
theorem pd_0_1 : parseMethodDescriptor "(JJ)Lcom/example/goby/goby/lock/AcquireResult;" = some ⟨[.long, .long], some (.object "com/example/goby/goby/lock/AcquireResult")⟩ := by decide +kernel
theorem pd_0_4 : parseMethodDescriptor "()Z" = some ⟨[], some .boolean⟩ := by decide +kernel
theorem pd_0_5 : parseMethodDescriptor "()J" = some ⟨[], some .long⟩ := by decide +kernel
theorem ef_0 (m : MethodId) (q1 : Int64) (q2 : Int64) : entryFrame m #[(.long q1), (.long q2)] maxLocals = mkF m 0 #[.val (.long q1), .second, .val (.long q2), .second, .unset, .unset, .unset, .unset, .unset] [] := by first | (simp [entryFrame, mkF, argsToLocals, Value.category, maxLocals]; done) | rfl
set_option maxRecDepth 65536 in
set_option maxHeartbeats 40000000 in
theorem rm0 (l : Launch) (Z : State) (a0 : Array Value) (hw : ∀ d ∈ tables_1, d.before a0 Z = true) (ws : List Jvm.Cond) (q1 : Int64) (q2 : Int64) (h0 : Heap) (n0 : Nat) (Z0 : n0 ≤ h0.size) :
    OwnCtr l Z x ws code maxLocals ret room_1 #[(.long q1), (.long q2)] h0 (fun v h L => v = some (.int 1) ∧ Fr n0 L) := by
  refine own_body (g0 := fun m => mkF m 0 #[.val (.long q1), .second, .val (.long q2), .second, .unset, .unset, .unset, .unset, .unset] []) pn_0 (fun m => ef_0 m q1 q2) ?_
  intro p e s m below meth c s₁ X0 hx hby hml hown hnm hZ e0 hret hlk
  have hml : c.maxLocals = 9 := hml
  have hown : s.vm.findClass "com/example/goby/goby/lock/AcquireResultRefusedPinLaw" = some m.cls := hown
  have hnm : meth.name = "law" := hnm
  have hret : meth.sig.returnType = (some .boolean) := hret
  have N0 := Fr.nil n0
  show OwnFin p e below s _ _ _ (s₁.setTop (mkF m 0 #[.val (.long q1), .second, .val (.long q2), .second, .unset, .unset, .unset, .unset, .unset] []))
  refine own_go (fun t k => XS.lconst X0.here hx rfl (hb hby at_0) k) ?_
  show OwnFin p e below s _ _ _ (s₁.setTop (mkF m 1 #[.val (.long q1), .second, .val (.long q2), .second, .unset, .unset, .unset, .unset, .unset] [(.long (1 : Int64))]))
  refine own_go (fun t k => XS.lloadN X0.here hx rfl (hb hby at_1) rfl k) ?_
  show OwnFin p e below s _ _ _ (s₁.setTop (mkF m 2 #[.val (.long q1), .second, .val (.long q2), .second, .unset, .unset, .unset, .unset, .unset] [(.long q1), (.long (1 : Int64))]))
  refine own_go (X0.ldc2Long hx hown (mvT hZ (hw _ (List.mem_of_getElem? (i := 0) rfl))) (g := (mkF m 2 #[.val (.long q1), .second, .val (.long q2), .second, .unset, .unset, .unset, .unset, .unset] [(.long q1), (.long (1 : Int64))])) rfl (hb hby at_2)) ?_
  show OwnFin p e below s _ _ _ (s₁.setTop (mkF m 5 #[.val (.long q1), .second, .val (.long q2), .second, .unset, .unset, .unset, .unset, .unset] [(.long (9223372036854775807 : Int64)), (.long q1), (.long (1 : Int64))]))
  refine own_go (fun t k => XS.land X0.here hx rfl (hb hby at_5) rfl k) ?_
  show OwnFin p e below s _ _ _ (s₁.setTop (mkF m 6 #[.val (.long q1), .second, .val (.long q2), .second, .unset, .unset, .unset, .unset, .unset] [(.long (q1 &&& (9223372036854775807 : Int64))), (.long (1 : Int64))]))
  obtain ⟨v1, T1, L1, X1, hQ1, st1⟩ := own_callS X0 hx hZ (y := (⟨"java/lang/Math", "max", "(JJ)J"⟩ : MethodName)) hown (hw _ (List.mem_of_getElem? (i := 1) rfl)) (hw _ (List.mem_of_getElem? (i := 2) rfl)) (hw _ (List.mem_of_getElem? (i := 3) rfl)) (hw _ (List.mem_of_getElem? (i := 4) rfl)) (by decide) (W := 0) (rm1 l Z a0 hw [] (1 : Int64) (q1 &&& (9223372036854775807 : Int64)) h0 n0 Z0) (by decide) (by decide) (g := (mkF m 6 #[.val (.long q1), .second, .val (.long q2), .second, .unset, .unset, .unset, .unset, .unset] [(.long (q1 &&& (9223372036854775807 : Int64))), (.long (1 : Int64))])) rfl (by rw [hml]; rfl) (argsL := [(.long (1 : Int64)), (.long (q1 &&& (9223372036854775807 : Int64)))]) (rest := []) (lenOf pd_0_0 rfl) rfl (by show 2 * 0 + _ ≤ _; exact Nat.le_of_eq rfl) (hb hby at_6) e0 rfl (by decide) (by decide)
  obtain ⟨rfl, Nq1, e1⟩ := hQ1
  have N1 := Fr.app N0 Nq1
  refine own_go st1 ?_
  show OwnFin p e below s _ _ _ (T1.setTop (mkF m 9 #[.val (.long q1), .second, .val (.long q2), .second, .unset, .unset, .unset, .unset, .unset] [(.long (own_maxL (1 : Int64) (q1 &&& (9223372036854775807 : Int64))))]))
  refine own_go (fun t k => XS.lstore X1.here hx rfl (hb hby at_9) rfl (l' := #[.val (.long q1), .second, .val (.long q2), .second, .val (.long (own_maxL (1 : Int64) (q1 &&& (9223372036854775807 : Int64)))), .second, .unset, .unset, .unset]) rfl k) ?_
  show OwnFin p e below s _ _ _ (T1.setTop (mkF m 11 #[.val (.long q1), .second, .val (.long q2), .second, .val (.long (own_maxL (1 : Int64) (q1 &&& (9223372036854775807 : Int64)))), .second, .unset, .unset, .unset] []))
  refine own_go (fun t k => XS.lloadN X1.here hx rfl (hb hby at_11) rfl k) ?_
  show OwnFin p e below s _ _ _ (T1.setTop (mkF m 12 #[.val (.long q1), .second, .val (.long q2), .second, .val (.long (own_maxL (1 : Int64) (q1 &&& (9223372036854775807 : Int64)))), .second, .unset, .unset, .unset] [(.long q2)]))
  refine own_go (X1.ldc2Long hx hown (mvT hZ (hw _ (List.mem_of_getElem? (i := 0) rfl))) (g := (mkF m 12 #[.val (.long q1), .second, .val (.long q2), .second, .val (.long (own_maxL (1 : Int64) (q1 &&& (9223372036854775807 : Int64)))), .second, .unset, .unset, .unset] [(.long q2)])) rfl (hb hby at_12)) ?_
  show OwnFin p e below s _ _ _ (T1.setTop (mkF m 15 #[.val (.long q1), .second, .val (.long q2), .second, .val (.long (own_maxL (1 : Int64) (q1 &&& (9223372036854775807 : Int64)))), .second, .unset, .unset, .unset] [(.long (9223372036854775807 : Int64)), (.long q2)]))
  refine own_go (fun t k => XS.land X1.here hx rfl (hb hby at_15) rfl k) ?_
  show OwnFin p e below s _ _ _ (T1.setTop (mkF m 16 #[.val (.long q1), .second, .val (.long q2), .second, .val (.long (own_maxL (1 : Int64) (q1 &&& (9223372036854775807 : Int64)))), .second, .unset, .unset, .unset] [(.long (q2 &&& (9223372036854775807 : Int64)))]))
  refine own_go (fun t k => XS.lstore X1.here hx rfl (hb hby at_16) rfl (l' := #[.val (.long q1), .second, .val (.long q2), .second, .val (.long (own_maxL (1 : Int64) (q1 &&& (9223372036854775807 : Int64)))), .second, .val (.long (q2 &&& (9223372036854775807 : Int64))), .second, .unset]) rfl k) ?_
  show OwnFin p e below s _ _ _ (T1.setTop (mkF m 18 #[.val (.long q1), .second, .val (.long q2), .second, .val (.long (own_maxL (1 : Int64) (q1 &&& (9223372036854775807 : Int64)))), .second, .val (.long (q2 &&& (9223372036854775807 : Int64))), .second, .unset] []))
  refine own_go (fun t k => XS.lload X1.here hx rfl (hb hby at_18) rfl k) ?_
  show OwnFin p e below s _ _ _ (T1.setTop (mkF m 20 #[.val (.long q1), .second, .val (.long q2), .second, .val (.long (own_maxL (1 : Int64) (q1 &&& (9223372036854775807 : Int64)))), .second, .val (.long (q2 &&& (9223372036854775807 : Int64))), .second, .unset] [(.long (own_maxL (1 : Int64) (q1 &&& (9223372036854775807 : Int64))))]))
  refine own_go (fun t k => XS.lload X1.here hx rfl (hb hby at_20) rfl k) ?_
  show OwnFin p e below s _ _ _ (T1.setTop (mkF m 22 #[.val (.long q1), .second, .val (.long q2), .second, .val (.long (own_maxL (1 : Int64) (q1 &&& (9223372036854775807 : Int64)))), .second, .val (.long (q2 &&& (9223372036854775807 : Int64))), .second, .unset] [(.long (q2 &&& (9223372036854775807 : Int64))), (.long (own_maxL (1 : Int64) (q1 &&& (9223372036854775807 : Int64))))]))
  obtain ⟨v2, T2, L2, X2, hQ2, st2⟩ := own_callS X1 hx hZ (y := (⟨"com/example/goby/goby/lock/AcquireResult", "refused", "(JJ)Lcom/example/goby/goby/lock/AcquireResult;"⟩ : MethodName)) hown (hw _ (List.mem_of_getElem? (i := 5) rfl)) (hw _ (List.mem_of_getElem? (i := 6) rfl)) (hw _ (List.mem_of_getElem? (i := 7) rfl)) (hw _ (List.mem_of_getElem? (i := 8) rfl)) (by decide) (W := 0) (rm2 l Z a0 hw [] (own_maxL (1 : Int64) (q1 &&& (9223372036854775807 : Int64))) (q2 &&& (9223372036854775807 : Int64)) h0 n0 Z0) (by decide) (by decide) (g := (mkF m 22 #[.val (.long q1), .second, .val (.long q2), .second, .val (.long (own_maxL (1 : Int64) (q1 &&& (9223372036854775807 : Int64)))), .second, .val (.long (q2 &&& (9223372036854775807 : Int64))), .second, .unset] [(.long (q2 &&& (9223372036854775807 : Int64))), (.long (own_maxL (1 : Int64) (q1 &&& (9223372036854775807 : Int64))))])) rfl (by rw [hml]; rfl) (argsL := [(.long (own_maxL (1 : Int64) (q1 &&& (9223372036854775807 : Int64)))), (.long (q2 &&& (9223372036854775807 : Int64)))]) (rest := []) (lenOf pd_0_1 rfl) rfl (by show 2 * 0 + _ ≤ _; exact Nat.le_of_eq rfl) (hb hby at_22) e1 rfl (by decide) (by decide)
  obtain ⟨r2, rfl, Nq2, Kq2, sq2, Eq2, Fq2_0, Fq2_1, Fq2_2, Fq2_3⟩ := hQ2
  have N2 := Fr.app N1 Nq2
  have g_r2 : n0 ≤ r2 := Nat.le_trans Z0 sq2
  have Z2 : n0 ≤ T2.heap.size := Nat.le_trans Z0 Kq2.1
  refine own_go st2 ?_
  show OwnFin p e below s _ _ _ (T2.setTop (mkF m 25 #[.val (.long q1), .second, .val (.long q2), .second, .val (.long (own_maxL (1 : Int64) (q1 &&& (9223372036854775807 : Int64)))), .second, .val (.long (q2 &&& (9223372036854775807 : Int64))), .second, .unset] [(.ref r2)]))
  refine own_go (fun t k => XS.astore X2.here hx rfl (hb hby at_25) rfl rfl (l' := #[.val (.long q1), .second, .val (.long q2), .second, .val (.long (own_maxL (1 : Int64) (q1 &&& (9223372036854775807 : Int64)))), .second, .val (.long (q2 &&& (9223372036854775807 : Int64))), .second, .val (.ref r2)]) rfl k) ?_
  show OwnFin p e below s _ _ _ (T2.setTop (mkF m 27 #[.val (.long q1), .second, .val (.long q2), .second, .val (.long (own_maxL (1 : Int64) (q1 &&& (9223372036854775807 : Int64)))), .second, .val (.long (q2 &&& (9223372036854775807 : Int64))), .second, .val (.ref r2)] []))
  refine own_go (fun t k => XS.aload X2.here hx rfl (hb hby at_27) rfl rfl k) ?_
  show OwnFin p e below s _ _ _ (T2.setTop (mkF m 29 #[.val (.long q1), .second, .val (.long q2), .second, .val (.long (own_maxL (1 : Int64) (q1 &&& (9223372036854775807 : Int64)))), .second, .val (.long (q2 &&& (9223372036854775807 : Int64))), .second, .val (.ref r2)] [(.ref r2)]))
  obtain ⟨v3, T3, L3, X3, hQ3, st3⟩ := own_callV X2 hx hZ (y := (⟨"com/example/goby/goby/lock/AcquireResult", "isGranted", "()Z"⟩ : MethodName)) (z := (⟨"com/example/goby/goby/lock/AcquireResult", "isGranted", "()Z"⟩ : MethodName)) hown (hw _ (List.mem_of_getElem? (i := 25) rfl)) (hw _ (List.mem_of_getElem? (i := 26) rfl)) (notFace_of_selects (args := #[]) (mvT hZ (hw _ (List.mem_of_getElem? (i := 28) rfl)))) (hw _ (List.mem_of_getElem? (i := 28) rfl)) (hw _ (List.mem_of_getElem? (i := 27) rfl)) (hw _ (List.mem_of_getElem? (i := 7) rfl)) (hw _ (List.mem_of_getElem? (i := 29) rfl)) (by decide) (W := 0) (rm5 l Z a0 hw [] r2 T2.heap n0 Z2 Fq2_0) (by decide) (by decide) Eq2 (g := (mkF m 29 #[.val (.long q1), .second, .val (.long q2), .second, .val (.long (own_maxL (1 : Int64) (q1 &&& (9223372036854775807 : Int64)))), .second, .val (.long (q2 &&& (9223372036854775807 : Int64))), .second, .val (.ref r2)] [(.ref r2)])) rfl (by rw [hml]; rfl) (argsL := []) (rest := []) (lenOf pd_0_4 rfl) rfl (by show 2 * 0 + _ ≤ _; exact Nat.le_of_eq rfl) (hb hby at_29) rfl rfl (by decide) (by decide)
  obtain ⟨rfl, Nq3, e3⟩ := hQ3
  have N3 := Fr.app N2 Nq3
  refine own_go st3 ?_
  show OwnFin p e below s _ _ _ (T3.setTop (mkF m 32 #[.val (.long q1), .second, .val (.long q2), .second, .val (.long (own_maxL (1 : Int64) (q1 &&& (9223372036854775807 : Int64)))), .second, .val (.long (q2 &&& (9223372036854775807 : Int64))), .second, .val (.ref r2)] [(.int (0 : Int32))]))
  refine own_go (fun t k => XS.ifNo X3.here hx rfl (hb hby at_32) rfl ((if0 _ _).trans (teq (by decide)).2) k) ?_
  show OwnFin p e below s _ _ _ (T3.setTop (mkF m 35 #[.val (.long q1), .second, .val (.long q2), .second, .val (.long (own_maxL (1 : Int64) (q1 &&& (9223372036854775807 : Int64)))), .second, .val (.long (q2 &&& (9223372036854775807 : Int64))), .second, .val (.ref r2)] []))
  refine own_go (fun t k => XS.aload X3.here hx rfl (hb hby at_35) rfl rfl k) ?_
  show OwnFin p e below s _ _ _ (T3.setTop (mkF m 37 #[.val (.long q1), .second, .val (.long q2), .second, .val (.long (own_maxL (1 : Int64) (q1 &&& (9223372036854775807 : Int64)))), .second, .val (.long (q2 &&& (9223372036854775807 : Int64))), .second, .val (.ref r2)] [(.ref r2)]))
  obtain ⟨v4, T4, L4, X4, hQ4, st4⟩ := own_callV X3 hx hZ (y := (⟨"com/example/goby/goby/lock/AcquireResult", "fencingToken", "()J"⟩ : MethodName)) (z := (⟨"com/example/goby/goby/lock/AcquireResult", "fencingToken", "()J"⟩ : MethodName)) hown (hw _ (List.mem_of_getElem? (i := 30) rfl)) (hw _ (List.mem_of_getElem? (i := 31) rfl)) (notFace_of_selects (args := #[]) (mvT hZ (hw _ (List.mem_of_getElem? (i := 33) rfl)))) (hw _ (List.mem_of_getElem? (i := 33) rfl)) (hw _ (List.mem_of_getElem? (i := 32) rfl)) (hw _ (List.mem_of_getElem? (i := 7) rfl)) (hw _ (List.mem_of_getElem? (i := 34) rfl)) (by decide) (W := 0) (rm6 l Z a0 hw [] r2 T2.heap n0 Z2 Fq2_1) (by decide) (by decide) Eq2 (g := (mkF m 37 #[.val (.long q1), .second, .val (.long q2), .second, .val (.long (own_maxL (1 : Int64) (q1 &&& (9223372036854775807 : Int64)))), .second, .val (.long (q2 &&& (9223372036854775807 : Int64))), .second, .val (.ref r2)] [(.ref r2)])) rfl (by rw [hml]; rfl) (argsL := []) (rest := []) (lenOf pd_0_5 rfl) rfl (by show 2 * 0 + _ ≤ _; exact Nat.le_of_eq rfl) (hb hby at_37) e3 rfl (by decide) (by decide)
  obtain ⟨rfl, Nq4, e4⟩ := hQ4
  have N4 := Fr.app N3 Nq4
  refine own_go st4 ?_
  show OwnFin p e below s _ _ _ (T4.setTop (mkF m 40 #[.val (.long q1), .second, .val (.long q2), .second, .val (.long (own_maxL (1 : Int64) (q1 &&& (9223372036854775807 : Int64)))), .second, .val (.long (q2 &&& (9223372036854775807 : Int64))), .second, .val (.ref r2)] [(.long (0 : Int64))]))
  refine own_go (fun t k => XS.lconst X4.here hx rfl (hb hby at_40) k) ?_
  show OwnFin p e below s _ _ _ (T4.setTop (mkF m 41 #[.val (.long q1), .second, .val (.long q2), .second, .val (.long (own_maxL (1 : Int64) (q1 &&& (9223372036854775807 : Int64)))), .second, .val (.long (q2 &&& (9223372036854775807 : Int64))), .second, .val (.ref r2)] [(.long (0 : Int64)), (.long (0 : Int64))]))
  refine own_go (fun t k => XS.lcmp X4.here hx rfl (hb hby at_41) rfl k) ?_
  show OwnFin p e below s _ _ _ (T4.setTop (mkF m 42 #[.val (.long q1), .second, .val (.long q2), .second, .val (.long (own_maxL (1 : Int64) (q1 &&& (9223372036854775807 : Int64)))), .second, .val (.long (q2 &&& (9223372036854775807 : Int64))), .second, .val (.ref r2)] [(.int (lcmpW (0 : Int64) (0 : Int64)))]))
  refine own_go (fun t k => XS.ifNo X4.here hx rfl (hb hby at_42) rfl ((if0 _ _).trans (teq ((lw_eq (0 : Int64) (0 : Int64)).mpr (by decide))).2) k) ?_
  show OwnFin p e below s _ _ _ (T4.setTop (mkF m 45 #[.val (.long q1), .second, .val (.long q2), .second, .val (.long (own_maxL (1 : Int64) (q1 &&& (9223372036854775807 : Int64)))), .second, .val (.long (q2 &&& (9223372036854775807 : Int64))), .second, .val (.ref r2)] []))
  refine own_go (fun t k => XS.aload X4.here hx rfl (hb hby at_45) rfl rfl k) ?_
  show OwnFin p e below s _ _ _ (T4.setTop (mkF m 47 #[.val (.long q1), .second, .val (.long q2), .second, .val (.long (own_maxL (1 : Int64) (q1 &&& (9223372036854775807 : Int64)))), .second, .val (.long (q2 &&& (9223372036854775807 : Int64))), .second, .val (.ref r2)] [(.ref r2)]))
  obtain ⟨v5, T5, L5, X5, hQ5, st5⟩ := own_callV X4 hx hZ (y := (⟨"com/example/goby/goby/lock/AcquireResult", "remainingMillis", "()J"⟩ : MethodName)) (z := (⟨"com/example/goby/goby/lock/AcquireResult", "remainingMillis", "()J"⟩ : MethodName)) hown (hw _ (List.mem_of_getElem? (i := 35) rfl)) (hw _ (List.mem_of_getElem? (i := 36) rfl)) (notFace_of_selects (args := #[]) (mvT hZ (hw _ (List.mem_of_getElem? (i := 38) rfl)))) (hw _ (List.mem_of_getElem? (i := 38) rfl)) (hw _ (List.mem_of_getElem? (i := 37) rfl)) (hw _ (List.mem_of_getElem? (i := 7) rfl)) (hw _ (List.mem_of_getElem? (i := 39) rfl)) (by decide) (W := 0) (rm7 l Z a0 hw [] r2 T2.heap n0 Z2 Fq2_2) (by decide) (by decide) Eq2 (g := (mkF m 47 #[.val (.long q1), .second, .val (.long q2), .second, .val (.long (own_maxL (1 : Int64) (q1 &&& (9223372036854775807 : Int64)))), .second, .val (.long (q2 &&& (9223372036854775807 : Int64))), .second, .val (.ref r2)] [(.ref r2)])) rfl (by rw [hml]; rfl) (argsL := []) (rest := []) (lenOf pd_0_5 rfl) rfl (by show 2 * 0 + _ ≤ _; exact Nat.le_of_eq rfl) (hb hby at_47) e4 rfl (by decide) (by decide)
  obtain ⟨rfl, Nq5, e5⟩ := hQ5
  have N5 := Fr.app N4 Nq5
  refine own_go st5 ?_
  show OwnFin p e below s _ _ _ (T5.setTop (mkF m 50 #[.val (.long q1), .second, .val (.long q2), .second, .val (.long (own_maxL (1 : Int64) (q1 &&& (9223372036854775807 : Int64)))), .second, .val (.long (q2 &&& (9223372036854775807 : Int64))), .second, .val (.ref r2)] [(.long (own_maxL (1 : Int64) (q1 &&& (9223372036854775807 : Int64))))]))
  refine own_go (fun t k => XS.lload X5.here hx rfl (hb hby at_50) rfl k) ?_
  show OwnFin p e below s _ _ _ (T5.setTop (mkF m 52 #[.val (.long q1), .second, .val (.long q2), .second, .val (.long (own_maxL (1 : Int64) (q1 &&& (9223372036854775807 : Int64)))), .second, .val (.long (q2 &&& (9223372036854775807 : Int64))), .second, .val (.ref r2)] [(.long (own_maxL (1 : Int64) (q1 &&& (9223372036854775807 : Int64)))), (.long (own_maxL (1 : Int64) (q1 &&& (9223372036854775807 : Int64))))]))
  refine own_go (fun t k => XS.lcmp X5.here hx rfl (hb hby at_52) rfl k) ?_
  show OwnFin p e below s _ _ _ (T5.setTop (mkF m 53 #[.val (.long q1), .second, .val (.long q2), .second, .val (.long (own_maxL (1 : Int64) (q1 &&& (9223372036854775807 : Int64)))), .second, .val (.long (q2 &&& (9223372036854775807 : Int64))), .second, .val (.ref r2)] [(.int (lcmpW (own_maxL (1 : Int64) (q1 &&& (9223372036854775807 : Int64))) (own_maxL (1 : Int64) (q1 &&& (9223372036854775807 : Int64)))))]))
  refine own_go (fun t k => XS.ifNo X5.here hx rfl (hb hby at_53) rfl ((if0 _ _).trans (teq ((lw_eq (own_maxL (1 : Int64) (q1 &&& (9223372036854775807 : Int64))) (own_maxL (1 : Int64) (q1 &&& (9223372036854775807 : Int64)))).mpr rfl)).2) k) ?_
  show OwnFin p e below s _ _ _ (T5.setTop (mkF m 56 #[.val (.long q1), .second, .val (.long q2), .second, .val (.long (own_maxL (1 : Int64) (q1 &&& (9223372036854775807 : Int64)))), .second, .val (.long (q2 &&& (9223372036854775807 : Int64))), .second, .val (.ref r2)] []))
  refine own_go (fun t k => XS.aload X5.here hx rfl (hb hby at_56) rfl rfl k) ?_
  show OwnFin p e below s _ _ _ (T5.setTop (mkF m 58 #[.val (.long q1), .second, .val (.long q2), .second, .val (.long (own_maxL (1 : Int64) (q1 &&& (9223372036854775807 : Int64)))), .second, .val (.long (q2 &&& (9223372036854775807 : Int64))), .second, .val (.ref r2)] [(.ref r2)]))
  obtain ⟨v6, T6, L6, X6, hQ6, st6⟩ := own_callV X5 hx hZ (y := (⟨"com/example/goby/goby/lock/AcquireResult", "backOffMillis", "()J"⟩ : MethodName)) (z := (⟨"com/example/goby/goby/lock/AcquireResult", "backOffMillis", "()J"⟩ : MethodName)) hown (hw _ (List.mem_of_getElem? (i := 40) rfl)) (hw _ (List.mem_of_getElem? (i := 41) rfl)) (notFace_of_selects (args := #[]) (mvT hZ (hw _ (List.mem_of_getElem? (i := 43) rfl)))) (hw _ (List.mem_of_getElem? (i := 43) rfl)) (hw _ (List.mem_of_getElem? (i := 42) rfl)) (hw _ (List.mem_of_getElem? (i := 7) rfl)) (hw _ (List.mem_of_getElem? (i := 44) rfl)) (by decide) (W := 0) (rm8 l Z a0 hw [] r2 T2.heap n0 Z2 Fq2_3) (by decide) (by decide) Eq2 (g := (mkF m 58 #[.val (.long q1), .second, .val (.long q2), .second, .val (.long (own_maxL (1 : Int64) (q1 &&& (9223372036854775807 : Int64)))), .second, .val (.long (q2 &&& (9223372036854775807 : Int64))), .second, .val (.ref r2)] [(.ref r2)])) rfl (by rw [hml]; rfl) (argsL := []) (rest := []) (lenOf pd_0_5 rfl) rfl (by show 2 * 0 + _ ≤ _; exact Nat.le_of_eq rfl) (hb hby at_58) e5 rfl (by decide) (by decide)
  obtain ⟨rfl, Nq6, e6⟩ := hQ6
  have N6 := Fr.app N5 Nq6
  refine own_go st6 ?_
  show OwnFin p e below s _ _ _ (T6.setTop (mkF m 61 #[.val (.long q1), .second, .val (.long q2), .second, .val (.long (own_maxL (1 : Int64) (q1 &&& (9223372036854775807 : Int64)))), .second, .val (.long (q2 &&& (9223372036854775807 : Int64))), .second, .val (.ref r2)] [(.long (q2 &&& (9223372036854775807 : Int64)))]))
  refine own_go (fun t k => XS.lload X6.here hx rfl (hb hby at_61) rfl k) ?_
  show OwnFin p e below s _ _ _ (T6.setTop (mkF m 63 #[.val (.long q1), .second, .val (.long q2), .second, .val (.long (own_maxL (1 : Int64) (q1 &&& (9223372036854775807 : Int64)))), .second, .val (.long (q2 &&& (9223372036854775807 : Int64))), .second, .val (.ref r2)] [(.long (q2 &&& (9223372036854775807 : Int64))), (.long (q2 &&& (9223372036854775807 : Int64)))]))
  refine own_go (fun t k => XS.lcmp X6.here hx rfl (hb hby at_63) rfl k) ?_
  show OwnFin p e below s _ _ _ (T6.setTop (mkF m 64 #[.val (.long q1), .second, .val (.long q2), .second, .val (.long (own_maxL (1 : Int64) (q1 &&& (9223372036854775807 : Int64)))), .second, .val (.long (q2 &&& (9223372036854775807 : Int64))), .second, .val (.ref r2)] [(.int (lcmpW (q2 &&& (9223372036854775807 : Int64)) (q2 &&& (9223372036854775807 : Int64))))]))
  refine own_go (fun t k => XS.ifNo X6.here hx rfl (hb hby at_64) rfl ((if0 _ _).trans (teq ((lw_eq (q2 &&& (9223372036854775807 : Int64)) (q2 &&& (9223372036854775807 : Int64))).mpr rfl)).2) k) ?_
  show OwnFin p e below s _ _ _ (T6.setTop (mkF m 67 #[.val (.long q1), .second, .val (.long q2), .second, .val (.long (own_maxL (1 : Int64) (q1 &&& (9223372036854775807 : Int64)))), .second, .val (.long (q2 &&& (9223372036854775807 : Int64))), .second, .val (.ref r2)] []))
  refine own_go (fun t k => XS.iconst X6.here hx rfl (hb hby at_67) k) ?_
  show OwnFin p e below s _ _ _ (T6.setTop (mkF m 68 #[.val (.long q1), .second, .val (.long q2), .second, .val (.long (own_maxL (1 : Int64) (q1 &&& (9223372036854775807 : Int64)))), .second, .val (.long (q2 &&& (9223372036854775807 : Int64))), .second, .val (.ref r2)] [(.int (1 : Int32))]))
  refine own_go (fun t k => XS.goto X6.here hx rfl (pc0 := 68) (pc' := 72) rfl (hb hby at_68) (by decide) (by decide) k) ?_
  show OwnFin p e below s _ _ _ (T6.setTop (mkF m 72 #[.val (.long q1), .second, .val (.long q2), .second, .val (.long (own_maxL (1 : Int64) (q1 &&& (9223372036854775807 : Int64)))), .second, .val (.long (q2 &&& (9223372036854775807 : Int64))), .second, .val (.ref r2)] [(.int (1 : Int32))]))
  refine own_ret X6 (v := some (.int (1 : Int32))) hlk (fun hh => by rw [hret] at hh; cases hh) (fun fs hr => retN X6 hx (t := .boolean) hret (by simp) (hb hby at_72) hr) (by decide) (by decide) ?_
  exact ⟨rfl, N6⟩
set_option maxRecDepth 65536 in
set_option maxHeartbeats 40000000 in
theorem comes_1 {Post : Tables → Env → Array Value → State → Outcome → State → Prop} (hpost : ∀ tb e args s v u, (limb_1_1.after args s (.returned v) u = true ∧ limb_1_2.after args s (.returned v) u = true ∧ True) → FrameEnd s (.returned v) u (Jvm.fieldLocs frame_1_writes args s ++ Jvm.arrayLocs frame_1_arrays args s ++ Jvm.staticLocs frame_1_statics s) 16 128 → Post tb e args s (.returned v) u) :
    ArmFor flags0 classFile x code maxLocals ret World_1 tables_1 room_1 Calls_1 rest_1 Pre_1 Post := by
  intro l hfl _ _ p e ha hc hk s m args below hf hA hF happ hP
  obtain ⟨hcalls, hrest, hpre⟩ := hP
  obtain ⟨-, -, -, hnamed, -, -, -, hat⟩ := (Spec.applies_iff hf).mp happ
  obtain ⟨hg, hn⟩ := and_e (Cond.before_iff.mp (show (Jvm.Cond.and given_1 narrow_1).before args s = true from hpre))
  obtain ⟨g1, g2⟩ := and_e hg
  obtain ⟨g3, g4⟩ := and_e g2
  obtain ⟨w0, w1, rfl⟩ : ∃ w0 w1 : Value, args = #[w0, w1] := by
    have hs : args.size = 2 := by simpa [Cond.value, given_1] using g1
    obtain ⟨L⟩ := args
    match L, hs with
    | [w0, w1], _ => exact ⟨w0, w1, rfl⟩
  have hw := fun d (hd : d ∈ tables_1) => atoms_spec (ws := Jvm.Cond.code x code maxLocals ret :: tables_1) hat d (List.mem_cons_of_mem _ hd)
  have hfit : Fit s := fun {y c} hc i hi => by
    obtain ⟨ha, rfl⟩ := Array.getElem?_eq_some_iff.mp hc
    have q := List.all_eq_true.mp ((Array.all_eq_true_iff_forall_mem.mp hF) _ (Array.getElem_mem ha)) i (List.mem_range.mpr hi)
    simpa [Array.getElem?_eq_getElem hi] using q
  obtain ⟨i0, ei0⟩ := isL_v g3
  obtain rfl : w0 = (.long i0) := Option.some.inj ei0
  obtain ⟨i1, ei1⟩ := isL_v g4
  obtain rfl : w1 = (.long i1) := Option.some.inj ei1
  obtain ⟨n, o, h1, h2, h3, _, L, rfl, ⟨rfl, N⟩, hq⟩ := rm0 l s _ hw tables_1 i0 i1 s.heap s.heap.size (Nat.le_refl _) p e ha hc hk s m _ below hf ((Spec.applies_iff_loose hf).mp happ).1 ⟨rfl, State.Warmed39.refl s, rfl⟩ trivial
  refine ⟨n, _, h1, h2, h3, hpost _ _ _ _ _ _ ⟨Cond.after_iff.mpr rfl, Cond.after_iff.mpr (eq_i res_at (Term.int_eval (1)) rfl), trivial⟩ ⟨hq.1, hq.2.1, (hq.2.2.sift fun y hy => Or.inr (N y hy)).mono (by decide) (by decide)⟩⟩
theorem main_1_1 : Claimed_1_1 := comes_1 fun _ _ _ _ _ _ h hF => ⟨h.1, hF⟩
theorem main_1_2 : Claimed_1_2 := comes_1 fun _ _ _ _ _ _ h hF => ⟨h.2.1, hF⟩
end Jvm.Pilot.@@N@@
namespace Jvm.Pilot.@@N@@
open Jvm Jvm.ClassFile Sem Op Lib Jvm.Free Jvm.Stand Jvm.Pilot.@@N@@.Jvm.D
/-! MADE BY PROGRAM (witnessworld.py) out of the Statement's table words and the real class files: 10 classes; the members and pool entries that the words name. The judged class is class 1, her method 1. -/
namespace start1
open Jvm.ClassFile
def u (s : String) : CpInfo := .utf8 (stringToUtf16 s)
/-- a pool by its gaps: so many unusable entries, then the entry; so many at the end -/
def gap : Nat → List CpInfo → List CpInfo
  | 0, r => r
  | n + 1, r => .unusable :: gap n r
def poolList (es : List (Nat × CpInfo)) (last : Nat) : List CpInfo := es.foldr (fun e r => gap e.1 (e.2 :: r)) (gap last [])
def pool (es : List (Nat × CpInfo)) (last : Nat) : Array CpInfo := ⟨poolList es last⟩
def fileOf (pool : Array CpInfo) (this : Nat) (attrs : Array Attribute := #[]) (ms : Array MethodInfo := #[]) (fl : Nat := 33) (sup : Nat := 0) (ifs : Array Nat := #[]) (fds : Array FieldInfo := #[]) : ClassFile where
  minorVersion := 0
  majorVersion := 65
  constantPool := pool
  accessFlags := fl
  thisClass := this
  superClass := sup
  interfaces := ifs
  fields := fds
  methods := ms
  attributes := attrs
def plain (name : String) (sup : Option ClassId) : Class where
  name := name
  kind := .ordinary
  loader := none
  accessFlags := 33
  super := sup
  interfaces := #[]
  cf := none
  fields := #[]
  methods := #[]
  instanceTypes := #[]
  staticTypes := #[]
  resolved := #[]
  callSites := []
  init := .initialized
  statics := none
  mirror := none

def pool0 : Array CpInfo := pool [(5, u "<init>"), (0, u "()V"), (1, .class_ 10), (1, u "java/lang/Object")] 113

def k0c0 : Code := { maxStack := 0, maxLocals := 1, code := object_method_1_code, exceptionTable := #[], attributes := #[] }
def k0m0 : Method := { name := "<init>", desc := "()V", sig := { parameters := [], returnType := none }, accessFlags := 1, code := some k0c0 }
/-- java/lang/Object -/
def k0 : Class := { plain "java/lang/Object" none with
  accessFlags := 33
  interfaces := #[]
  cf := some (fileOf pool0 8 #[] #[{ accessFlags := 1, nameIndex := 5, descriptorIndex := 6, attributes := #[] }] 33 0 #[] #[])
  fields := #[]
  methods := #[k0m0]
  instanceTypes := #[]
  staticTypes := #[]
  resolved := Array.replicate 124 none
  statics := none }

def pool1 : Array CpInfo := pool [(2, .class_ 4), (1, u "java/lang/Object"), (0, u "<init>"), (0, u "()V"), (2, .long 9223372036854775807), (1, .methodref 12 13), (0, .class_ 14), (0, .nameAndType 15 16), (0, u "java/lang/Math"), (0, u "max"), (0, u "(JJ)J"), (0, .methodref 18 19), (0, .class_ 20), (0, .nameAndType 21 22), (0, u "com/example/goby/goby/lock/AcquireResult"), (0, u "refused"), (0, u "(JJ)Lcom/example/goby/goby/lock/AcquireResult;"), (0, .methodref 18 24), (0, .nameAndType 25 26), (0, u "isGranted"), (0, u "()Z"), (0, .methodref 18 28), (0, .nameAndType 29 30), (0, u "fencingToken"), (0, u "()J"), (0, .methodref 18 32), (0, .nameAndType 33 30), (0, u "remainingMillis"), (0, .methodref 18 35), (0, .nameAndType 36 30), (0, u "backOffMillis"), (0, .class_ 38), (0, u "com/example/goby/goby/lock/AcquireResultRefusedPinLaw"), (2, u "law"), (0, u "(JJ)Z")] 3

def k1m0 : Method := { name := "<init>", desc := "()V", sig := { parameters := [], returnType := none }, accessFlags := 1, code := none }
def k1c1 : Code := { maxStack := 6, maxLocals := 9, code := code, exceptionTable := #[], attributes := #[] }
def k1m1 : Method := { name := "law", desc := "(JJ)Z", sig := { parameters := [.long, .long], returnType := some .boolean }, accessFlags := 9, code := some k1c1 }
/-- com/example/goby/goby/lock/AcquireResultRefusedPinLaw -/
def k1 : Class := { plain "com/example/goby/goby/lock/AcquireResultRefusedPinLaw" (some 0) with
  accessFlags := 49
  interfaces := #[]
  cf := some (fileOf pool1 37 #[] #[{ accessFlags := 1, nameIndex := 5, descriptorIndex := 6, attributes := #[] }, { accessFlags := 9, nameIndex := 41, descriptorIndex := 42, attributes := #[] }] 49 2 #[] #[])
  fields := #[]
  methods := #[k1m0, k1m1]
  instanceTypes := #[]
  staticTypes := #[]
  resolved := Array.replicate 46 none
  statics := none }

def pool2 : Array CpInfo := pool [(1, .class_ 2), (0, u "java/lang/Math"), (1, .class_ 6), (1, u "java/lang/Object"), (0, u "<init>"), (0, u "()V"), (89, .class_ 100), (1, u "java/lang/Math$RandomNumberGeneratorHolder"), (20, u "(JJ)J"), (50, u "negativeZeroFloatBits"), (0, u "J"), (2, u "negativeZeroDoubleBits"), (21, u "max"), (46, u "$assertionsDisabled"), (0, u "Z"), (91, u "twoToTheDoubleScaleDown"), (0, u "D"), (4, u "twoToTheDoubleScaleUp"), (9, u "E"), (3, u "PI"), (2, u "TAU"), (2, u "DEGREES_TO_RADIANS"), (0, u "RADIANS_TO_DEGREES")] 94

def k2m0 : Method := { name := "<init>", desc := "()V", sig := { parameters := [], returnType := none }, accessFlags := 2, code := none }
def k2c1 : Code := { maxStack := 4, maxLocals := 4, code := jdk_29_method_66_code, exceptionTable := #[], attributes := #[] }
def k2m1 : Method := { name := "max", desc := "(JJ)J", sig := { parameters := [.long, .long], returnType := some .long }, accessFlags := 9, code := some k2c1 }
/-- java/lang/Math -/
def k2 : Class := { plain "java/lang/Math" (some 0) with
  accessFlags := 49
  interfaces := #[]
  cf := some (fileOf pool2 1 #[.nestMembers #[98]] #[{ accessFlags := 2, nameIndex := 7, descriptorIndex := 8, attributes := #[] }, { accessFlags := 9, nameIndex := 198, descriptorIndex := 121, attributes := #[] }] 49 4 #[] #[{ accessFlags := 25, nameIndex := 354, descriptorIndex := 339, attributes := #[] }, { accessFlags := 25, nameIndex := 358, descriptorIndex := 339, attributes := #[] }, { accessFlags := 25, nameIndex := 361, descriptorIndex := 339, attributes := #[] }, { accessFlags := 26, nameIndex := 364, descriptorIndex := 339, attributes := #[] }, { accessFlags := 26, nameIndex := 365, descriptorIndex := 339, attributes := #[] }, { accessFlags := 26, nameIndex := 172, descriptorIndex := 173, attributes := #[] }, { accessFlags := 26, nameIndex := 176, descriptorIndex := 173, attributes := #[] }, { accessFlags := 8, nameIndex := 344, descriptorIndex := 339, attributes := #[] }, { accessFlags := 8, nameIndex := 338, descriptorIndex := 339, attributes := #[] }, { accessFlags := 4120, nameIndex := 245, descriptorIndex := 246, attributes := #[] }])
  fields := #[{ name := "E", type := .double, accessFlags := 25, slot := 0, constantValue := 0 }, { name := "PI", type := .double, accessFlags := 25, slot := 1, constantValue := 0 }, { name := "TAU", type := .double, accessFlags := 25, slot := 2, constantValue := 0 }, { name := "DEGREES_TO_RADIANS", type := .double, accessFlags := 26, slot := 3, constantValue := 0 }, { name := "RADIANS_TO_DEGREES", type := .double, accessFlags := 26, slot := 4, constantValue := 0 }, { name := "negativeZeroFloatBits", type := .long, accessFlags := 26, slot := 5, constantValue := 0 }, { name := "negativeZeroDoubleBits", type := .long, accessFlags := 26, slot := 6, constantValue := 0 }, { name := "twoToTheDoubleScaleUp", type := .double, accessFlags := 8, slot := 7, constantValue := 0 }, { name := "twoToTheDoubleScaleDown", type := .double, accessFlags := 8, slot := 8, constantValue := 0 }, { name := "$assertionsDisabled", type := .boolean, accessFlags := 4120, slot := 9, constantValue := 0 }]
  methods := #[k2m0, k2m1]
  instanceTypes := #[]
  staticTypes := #[.double, .double, .double, .double, .double, .long, .long, .double, .double, .boolean]
  resolved := Array.replicate 460 none
  statics := none }

def pool3 : Array CpInfo := pool [(1, .methodref 2 3), (0, .class_ 4), (0, .nameAndType 5 6), (0, u "java/lang/Object"), (0, u "<init>"), (0, u "()V"), (0, .fieldref 8 9), (0, .class_ 10), (0, .nameAndType 11 12), (0, u "com/example/goby/goby/lock/AcquireResult"), (0, u "granted"), (0, u "Z"), (0, .fieldref 8 14), (0, .nameAndType 15 16), (0, u "fencingToken"), (0, u "J"), (0, .fieldref 8 18), (0, .nameAndType 19 16), (0, u "remainingMillis"), (0, .fieldref 8 21), (0, .nameAndType 22 16), (0, u "backOffMillis"), (0, .methodref 8 24), (0, .nameAndType 5 25), (0, u "(ZJJJ)V"), (2, u "refused"), (0, u "(JJ)Lcom/example/goby/goby/lock/AcquireResult;"), (3, u "isGranted"), (0, u "()Z"), (0, u "()J")] 2

def k3c0 : Code := { maxStack := 3, maxLocals := 8, code := prog_2_method_1_code, exceptionTable := #[], attributes := #[] }
def k3m0 : Method := { name := "<init>", desc := "(ZJJJ)V", sig := { parameters := [.boolean, .long, .long, .long], returnType := none }, accessFlags := 2, code := some k3c0 }
def k3c1 : Code := { maxStack := 9, maxLocals := 4, code := prog_2_method_4_code, exceptionTable := #[], attributes := #[] }
def k3m1 : Method := { name := "refused", desc := "(JJ)Lcom/example/goby/goby/lock/AcquireResult;", sig := { parameters := [.long, .long], returnType := some (.object "com/example/goby/goby/lock/AcquireResult") }, accessFlags := 9, code := some k3c1 }
def k3c2 : Code := { maxStack := 1, maxLocals := 1, code := prog_2_method_5_code, exceptionTable := #[], attributes := #[] }
def k3m2 : Method := { name := "isGranted", desc := "()Z", sig := { parameters := [], returnType := some .boolean }, accessFlags := 1, code := some k3c2 }
def k3c3 : Code := { maxStack := 2, maxLocals := 1, code := prog_2_method_6_code, exceptionTable := #[], attributes := #[] }
def k3m3 : Method := { name := "fencingToken", desc := "()J", sig := { parameters := [], returnType := some .long }, accessFlags := 1, code := some k3c3 }
def k3c4 : Code := { maxStack := 2, maxLocals := 1, code := prog_2_method_7_code, exceptionTable := #[], attributes := #[] }
def k3m4 : Method := { name := "remainingMillis", desc := "()J", sig := { parameters := [], returnType := some .long }, accessFlags := 1, code := some k3c4 }
def k3c5 : Code := { maxStack := 2, maxLocals := 1, code := prog_2_method_8_code, exceptionTable := #[], attributes := #[] }
def k3m5 : Method := { name := "backOffMillis", desc := "()J", sig := { parameters := [], returnType := some .long }, accessFlags := 1, code := some k3c5 }
/-- com/example/goby/goby/lock/AcquireResult -/
def k3 : Class := { plain "com/example/goby/goby/lock/AcquireResult" (some 0) with
  accessFlags := 33
  interfaces := #[]
  cf := some (fileOf pool3 8 #[] #[{ accessFlags := 2, nameIndex := 5, descriptorIndex := 25, attributes := #[] }, { accessFlags := 9, nameIndex := 28, descriptorIndex := 29, attributes := #[] }, { accessFlags := 1, nameIndex := 33, descriptorIndex := 34, attributes := #[] }, { accessFlags := 1, nameIndex := 15, descriptorIndex := 35, attributes := #[] }, { accessFlags := 1, nameIndex := 19, descriptorIndex := 35, attributes := #[] }, { accessFlags := 1, nameIndex := 22, descriptorIndex := 35, attributes := #[] }] 33 2 #[] #[{ accessFlags := 18, nameIndex := 11, descriptorIndex := 12, attributes := #[] }, { accessFlags := 18, nameIndex := 15, descriptorIndex := 16, attributes := #[] }, { accessFlags := 18, nameIndex := 19, descriptorIndex := 16, attributes := #[] }, { accessFlags := 18, nameIndex := 22, descriptorIndex := 16, attributes := #[] }])
  fields := #[{ name := "granted", type := .boolean, accessFlags := 18, slot := 0, constantValue := 0 }, { name := "fencingToken", type := .long, accessFlags := 18, slot := 1, constantValue := 0 }, { name := "remainingMillis", type := .long, accessFlags := 18, slot := 2, constantValue := 0 }, { name := "backOffMillis", type := .long, accessFlags := 18, slot := 3, constantValue := 0 }]
  methods := #[k3m0, k3m1, k3m2, k3m3, k3m4, k3m5]
  instanceTypes := #[.boolean, .long, .long, .long]
  staticTypes := #[]
  resolved := Array.replicate 38 none
  statics := none }

def pool4 : Array CpInfo := pool [(1, u "java/lang/Cloneable"), (0, .class_ 1), (0, u "java/lang/Object"), (0, .class_ 3)] 3

/-- java/lang/Cloneable -/
def k4 : Class := { plain "java/lang/Cloneable" (some 0) with
  accessFlags := 1537
  interfaces := #[]
  cf := some (fileOf pool4 2 #[] #[] 1537 4 #[] #[])
  fields := #[]
  methods := #[]
  instanceTypes := #[]
  staticTypes := #[]
  resolved := Array.replicate 8 none
  statics := none }

def pool5 : Array CpInfo := pool [(1, u "java/io/Serializable"), (0, .class_ 1), (0, u "java/lang/Object"), (0, .class_ 3)] 3

/-- java/io/Serializable -/
def k5 : Class := { plain "java/io/Serializable" (some 0) with
  accessFlags := 1537
  interfaces := #[]
  cf := some (fileOf pool5 2 #[] #[] 1537 4 #[] #[])
  fields := #[]
  methods := #[]
  instanceTypes := #[]
  staticTypes := #[]
  resolved := Array.replicate 8 none
  statics := none }

/-- the primitive byte -/
def k6 : Class := { plain "byte" none with kind := .primitive 'B', accessFlags := 0x411 }
/-- [B -/
def k7 : Class := { plain "[B" (some 0) with kind := .array 6 .byte, interfaces := #[4, 5], accessFlags := 1041 }

/-- the primitive int -/
def k8 : Class := { plain "int" none with kind := .primitive 'I', accessFlags := 0x411 }
/-- [I -/
def k9 : Class := { plain "[I" (some 0) with kind := .array 8 .int, interfaces := #[4, 5], accessFlags := 1041 }

def heap : Heap := #[]
def classes : Array Class := #[k0, k1, k2, k3, k4, k5, k6, k7, k8, k9]
def interned : List (Array UInt16 × Addr) := []
def slotsUsed : Nat := 0
def theMethod : MethodId := ⟨1, 1⟩
def args0 : Array Value := #[.long 5, .long 5]
def aboutOver (below : List Frame) : State where
  vm := { classes := classes, interned := interned.toArray }
  heap := heap
  slotsUsed := slotsUsed
  threads := #[{ frames := .invoking theMethod args0 :: below }]
def below0 : List Frame := [.native { method := ⟨0, 0⟩, args := #[] }]
def about1 : State := aboutOver below0
def p0 : Program := .bare "" "" ""
def e0 : Env := launch0.env 0 0 0
theorem w_frames : about1.frames = Frame.invoking theMethod args0 :: below0 := rfl
set_option maxRecDepth 65536 in
theorem w_args : argsFit about1.vm theMethod args0 = true := by decide +kernel
set_option maxRecDepth 65536 in
theorem w_heap : heapFits about1 = true := by decide +kernel
set_option maxRecDepth 65536 in
theorem w_runnable : about1.curStatus? = some .runnable := by decide +kernel
set_option maxRecDepth 65536 in
theorem w_alone : about1.alone = true := by decide +kernel
set_option maxRecDepth 65536 in
theorem w_named : about1.methodNamed? x = some theMethod := by decide +kernel
set_option maxRecDepth 65536 in
theorem w_hears : about1.hears theMethod below0 = true := by decide +kernel
set_option maxRecDepth 65536 in
theorem w_ripe : about1.ripe theMethod args0 below0 = true := by decide +kernel
theorem w_running : about1.status = .running := rfl
set_option maxRecDepth 65536 in
theorem w_room : about1.hasRoom e0.platform room_1 = true :=
  launch0.hasRoom_least _ room_1 (by decide +kernel) (by decide +kernel) (by decide +kernel) (by decide +kernel) (by decide +kernel) (by decide +kernel)
theorem allAtoms_all (ts : List Jvm.Cond) (a : Array Jvm.Value) (st : Jvm.State) : (allAtoms ts).before a st = ts.all (fun c => c.before a st) := by
  induction ts with
  | nil => rfl
  | cons c t ih =>
    show (Jvm.Cond.and c (allAtoms t)).before a st = _
    rw [Jvm.Cond.before_and, ih, List.all_cons]
def words1 : List Jvm.Cond := Jvm.Cond.code x code maxLocals ret :: tables_1
/-- a 'code' word, met by the world's own term for the bytes: nothing is compared byte by byte -/
theorem code_word {y : MethodName} {bytes : ByteArray} {mx : Nat} {rt : Option FieldType} {a : Array Value} {s : State} {m : MethodId} {meth : Method} {c : Code} (h1 : s.methodNamed? y = some m) (h2 : s.vm.method? m = some meth) (h3 : meth.code = some c) (h4 : c.code = bytes)
    (h5 : (c.maxLocals == mx && c.exceptionTable.isEmpty && decide (c.maxStack ≤ mostOperands) && decide (meth.sig.returnType = rt) && !meth.locks && decide (parseMethodDescriptor y.desc = some meth.sig)) = true) : (Jvm.Cond.code y bytes mx rt).before a s = true := by
  simp only [Bool.and_eq_true, beq_iff_eq, Bool.not_eq_true', decide_eq_true_eq] at h5
  obtain ⟨⟨⟨⟨⟨g1, g2⟩, g3⟩, g4⟩, g5⟩, g6⟩ := h5
  simp [Cond.before, Cond.holds, Cond.value, h1, h2, h3, h4, g1, g2, g3, g4, g5, g6]
def isCode : Jvm.Cond → Bool
  | .code _ _ _ _ => true
  | _ => false
theorem all_split {L : List Jvm.Cond} {P : Jvm.Cond → Bool} (h1 : L.all (fun c => isCode c || P c) = true) (h2 : ∀ c ∈ L.filter isCode, P c = true) : L.all P = true := by
  refine List.all_eq_true.mpr fun c hc => ?_
  have h := List.all_eq_true.mp h1 c hc
  rcases Bool.eq_false_or_eq_true (isCode c) with hi | hi
  · exact h2 c (List.mem_filter.mpr ⟨hc, hi⟩)
  · simpa [hi] using h
set_option maxRecDepth 65536 in
theorem w_c0 : (Jvm.Cond.code x code maxLocals ret).before args0 about1 = true := code_word (m := ⟨1, 1⟩) (meth := k1m1) (c := k1c1) (by decide +kernel) rfl rfl rfl (by decide +kernel)
set_option maxRecDepth 65536 in
theorem w_c1 : (Jvm.Cond.code ({ cls := "java/lang/Math", name := "max", desc := "(JJ)J" } : Jvm.MethodName) jdk_29_method_66_code (4 : Nat) (Option.some Jvm.ClassFile.FieldType.long)).before args0 about1 = true := code_word (m := ⟨2, 1⟩) (meth := k2m1) (c := k2c1) (by decide +kernel) rfl rfl rfl (by decide +kernel)
set_option maxRecDepth 65536 in
theorem w_c2 : (Jvm.Cond.code ({ cls := "com/example/goby/goby/lock/AcquireResult", name := "refused", desc := "(JJ)Lcom/example/goby/goby/lock/AcquireResult;" } : Jvm.MethodName) prog_2_method_4_code (4 : Nat) (Option.some (Jvm.ClassFile.FieldType.object "com/example/goby/goby/lock/AcquireResult"))).before args0 about1 = true := code_word (m := ⟨3, 1⟩) (meth := k3m1) (c := k3c1) (by decide +kernel) rfl rfl rfl (by decide +kernel)
set_option maxRecDepth 65536 in
theorem w_c3 : (Jvm.Cond.code ({ cls := "com/example/goby/goby/lock/AcquireResult", name := "<init>", desc := "(ZJJJ)V" } : Jvm.MethodName) prog_2_method_1_code (8 : Nat) (Option.none : Option Jvm.ClassFile.FieldType)).before args0 about1 = true := code_word (m := ⟨3, 0⟩) (meth := k3m0) (c := k3c0) (by decide +kernel) rfl rfl rfl (by decide +kernel)
set_option maxRecDepth 65536 in
theorem w_c4 : (Jvm.Cond.code ({ cls := "java/lang/Object", name := "<init>", desc := "()V" } : Jvm.MethodName) object_method_1_code (1 : Nat) (Option.none : Option Jvm.ClassFile.FieldType)).before args0 about1 = true := code_word (m := ⟨0, 0⟩) (meth := k0m0) (c := k0c0) (by decide +kernel) rfl rfl rfl (by decide +kernel)
set_option maxRecDepth 65536 in
theorem w_c5 : (Jvm.Cond.code ({ cls := "com/example/goby/goby/lock/AcquireResult", name := "isGranted", desc := "()Z" } : Jvm.MethodName) prog_2_method_5_code (1 : Nat) (Option.some Jvm.ClassFile.FieldType.boolean)).before args0 about1 = true := code_word (m := ⟨3, 2⟩) (meth := k3m2) (c := k3c2) (by decide +kernel) rfl rfl rfl (by decide +kernel)
set_option maxRecDepth 65536 in
theorem w_c6 : (Jvm.Cond.code ({ cls := "com/example/goby/goby/lock/AcquireResult", name := "fencingToken", desc := "()J" } : Jvm.MethodName) prog_2_method_6_code (1 : Nat) (Option.some Jvm.ClassFile.FieldType.long)).before args0 about1 = true := code_word (m := ⟨3, 3⟩) (meth := k3m3) (c := k3c3) (by decide +kernel) rfl rfl rfl (by decide +kernel)
set_option maxRecDepth 65536 in
theorem w_c7 : (Jvm.Cond.code ({ cls := "com/example/goby/goby/lock/AcquireResult", name := "remainingMillis", desc := "()J" } : Jvm.MethodName) prog_2_method_7_code (1 : Nat) (Option.some Jvm.ClassFile.FieldType.long)).before args0 about1 = true := code_word (m := ⟨3, 4⟩) (meth := k3m4) (c := k3c4) (by decide +kernel) rfl rfl rfl (by decide +kernel)
set_option maxRecDepth 65536 in
theorem w_c8 : (Jvm.Cond.code ({ cls := "com/example/goby/goby/lock/AcquireResult", name := "backOffMillis", desc := "()J" } : Jvm.MethodName) prog_2_method_8_code (1 : Nat) (Option.some Jvm.ClassFile.FieldType.long)).before args0 about1 = true := code_word (m := ⟨3, 5⟩) (meth := k3m5) (c := k3c5) (by decide +kernel) rfl rfl rfl (by decide +kernel)
def codes1 : List Jvm.Cond := [Jvm.Cond.code x code maxLocals ret, Jvm.Cond.code ({ cls := "java/lang/Math", name := "max", desc := "(JJ)J" } : Jvm.MethodName) jdk_29_method_66_code (4 : Nat) (Option.some Jvm.ClassFile.FieldType.long), Jvm.Cond.code ({ cls := "com/example/goby/goby/lock/AcquireResult", name := "refused", desc := "(JJ)Lcom/example/goby/goby/lock/AcquireResult;" } : Jvm.MethodName) prog_2_method_4_code (4 : Nat) (Option.some (Jvm.ClassFile.FieldType.object "com/example/goby/goby/lock/AcquireResult")), Jvm.Cond.code ({ cls := "com/example/goby/goby/lock/AcquireResult", name := "<init>", desc := "(ZJJJ)V" } : Jvm.MethodName) prog_2_method_1_code (8 : Nat) (Option.none : Option Jvm.ClassFile.FieldType), Jvm.Cond.code ({ cls := "java/lang/Object", name := "<init>", desc := "()V" } : Jvm.MethodName) object_method_1_code (1 : Nat) (Option.none : Option Jvm.ClassFile.FieldType), Jvm.Cond.code ({ cls := "com/example/goby/goby/lock/AcquireResult", name := "isGranted", desc := "()Z" } : Jvm.MethodName) prog_2_method_5_code (1 : Nat) (Option.some Jvm.ClassFile.FieldType.boolean), Jvm.Cond.code ({ cls := "com/example/goby/goby/lock/AcquireResult", name := "fencingToken", desc := "()J" } : Jvm.MethodName) prog_2_method_6_code (1 : Nat) (Option.some Jvm.ClassFile.FieldType.long), Jvm.Cond.code ({ cls := "com/example/goby/goby/lock/AcquireResult", name := "remainingMillis", desc := "()J" } : Jvm.MethodName) prog_2_method_7_code (1 : Nat) (Option.some Jvm.ClassFile.FieldType.long), Jvm.Cond.code ({ cls := "com/example/goby/goby/lock/AcquireResult", name := "backOffMillis", desc := "()J" } : Jvm.MethodName) prog_2_method_8_code (1 : Nat) (Option.some Jvm.ClassFile.FieldType.long)]
set_option maxRecDepth 65536 in
theorem codes_eq : words1.filter isCode = codes1 := rfl
theorem w_codes : ∀ c ∈ words1.filter isCode, c.before args0 about1 = true := by
  rw [codes_eq]
  intro c hc
  simp only [codes1, List.mem_cons, List.not_mem_nil, or_false] at hc
  rcases hc with rfl | rfl | rfl | rfl | rfl | rfl | rfl | rfl | rfl
  · exact w_c0
  · exact w_c1
  · exact w_c2
  · exact w_c3
  · exact w_c4
  · exact w_c5
  · exact w_c6
  · exact w_c7
  · exact w_c8
set_option maxRecDepth 65536 in
theorem w_t1 : (words1.take 24).all (fun c => isCode c || c.before args0 about1) = true := by decide +kernel
set_option maxRecDepth 65536 in
theorem w_t2 : (words1.drop 24).all (fun c => isCode c || c.before args0 about1) = true := by decide +kernel
theorem w_tables : (allAtoms (Jvm.Cond.code x code maxLocals ret :: tables_1)).before args0 about1 = true := by
  rw [allAtoms_all]
  show words1.all (fun c => c.before args0 about1) = true
  refine all_split ?_ w_codes
  rw [← List.take_append_drop 24 words1, List.all_append, w_t1, w_t2]
  rfl
set_option maxRecDepth 65536 in
theorem w_case : (Jvm.Cond.and given_1 narrow_1).before args0 about1 = true := by decide +kernel
theorem w_applies : (headSpec (Jvm.Cond.code x code maxLocals ret :: tables_1) room_1).applies x e0.platform about1 = true :=
  (Spec.applies_iff w_frames).mpr ⟨w_running, w_runnable, w_alone, w_named, w_hears, w_ripe, w_room, w_tables⟩
theorem atStart : AtStart classFile x code maxLocals ret World_1 tables_1 room_1 Calls_1 rest_1 Pre_1 launch0 p0 e0 about1 theMethod args0 below0 :=
  ⟨lists_1, trivial, launch0.admits_env _ _ _, launch0.least_env, fairChoices_fair.cas, fairChoices_fair.clock, w_frames, w_args, w_heap, w_applies, trivial, trivial, w_case⟩
end start1
theorem witness_1 : WitnessClaimed_1 := ⟨start1.p0, start1.e0, start1.about1, start1.theMethod, start1.args0, start1.below0, start1.atStart⟩
end Jvm.Pilot.@@N@@
