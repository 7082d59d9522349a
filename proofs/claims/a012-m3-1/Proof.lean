import JvmDerived
import JvmDerived.Pilot.@@N@@Statement
import JvmDerived.Pilot.@@N@@Code
set_option linter.unusedVariables false
set_option linter.unusedSimpArgs false
@@BLOCK:NumsL.lean.txt@@
namespace Jvm.Pilot.@@N@@
open Jvm Jvm.ClassFile Sem Op Lib Jvm.Free Jvm.Stand Jvm.LawKit Jvm.RoadKit Bundle Jvm.Pilot.@@N@@.Jvm.D
section Own
variable {p : Program} {l : Launch} {e : Env} {R : Room} {s : State} {m : MethodId} {args : Array Value} {below : List Frame} {meth : Method} {c : Code} {T : State} {locs : List Loc} {cells slots : Nat} {Z : State} {a0 : Array Value} {h : Heap}
/-- from the state A the run comes to the method's end, and Q says what it leaves -/
def OwnFin (p : Program) (e : Env) (below : List Frame) (s : State) (Q : Option Value → Heap → List Loc → Prop) (C S : Nat) (A : State) : Prop :=
  ∃ s₂ o, Steps p.tables e below A s₂ ∧ s₂.status = .running ∧ Ended s₂ below o ∧ ∃ v L, o = .returned v ∧ Q v s₂.heap L ∧ FrameEnd s o s₂ L C S
variable {Q : Option Value → Heap → List Loc → Prop} {C S : Nat}
theorem own_go {A B : State} (h : ∀ t, Steps p.tables e below B t → Steps p.tables e below A t) (k : OwnFin p e below s Q C S B) : OwnFin p e below s Q C S A := by
  obtain ⟨s₂, o, h1, r⟩ := k
  exact ⟨s₂, o, h _ h1, r⟩
theorem own_ret (X : Stand p l e R s m args below meth c T locs cells slots) {v : Option Value} (hlk : meth.locks = false) (hv : meth.sig.returnType = none → v = none) {g : JFrame}
    (hstep : ∀ fs, (∀ (f : JFrame) (acts : List Action), f.method = m → f.locked = none → f.entered = [] → (doReturn e (T.setTop f) acts v).1 = T.setFrames fs) → Steps p.tables e below (T.setTop g) (T.setFrames fs))
    (hc : cells ≤ C) (hs : slots ≤ S) (hQ : Q v T.heap locs) : OwnFin p e below s Q C S (T.setTop g) := by
  obtain ⟨fs, hr, hrun, hended, hW, hsame⟩ := X.leave hv hlk
  exact ⟨_, _, hstep fs hr, hrun, hended, _, _, rfl, hQ, ⟨_, rfl⟩, hW, hsame.mono hc hs⟩
/-- a method's contract, in the form that backOf takes -/
abbrev OwnCtr (l : Launch) (Z : State) (y : MethodName) (ws : List Jvm.Cond) (bytes : ByteArray) (maxL : Nat) (ret : Option FieldType) (rm : Room) (as' : Array Value) (h0 : Heap) (Q : Option Value → Heap → List Loc → Prop) : Prop :=
  MetFree l y (head1 (Jvm.Cond.code y bytes maxL ret :: ws) rm) (fun a U => a = as' ∧ Z.Warmed39 U.vm ∧ U.heap = h0) (fun _ _ _ _ _ => True) (fun _ U o U' => ∃ v L, o = .returned v ∧ Q v U'.heap L ∧ FrameEnd U o U' L rm.cells rm.slots)
theorem own_body {l : Launch} {Z : State} {y : MethodName} {ws : List Jvm.Cond} {bytes : ByteArray} {maxL : Nat} {ret : Option FieldType} {rm : Room} {as' : Array Value} {h0 : Heap} {g0 : MethodId → JFrame}
    (hpl : plainFor y = true) (hef : ∀ m, entryFrame m as' maxL = g0 m)
    (body : ∀ (p : Program) (e : Env) (s : State) (m : MethodId) (below : List Frame) (meth : Method) (c : Code) (s₁ : State), Stand p l e rm s m as' below meth c s₁ [] 0 0 → p.tables.exec = Jvm.exec → c.code = bytes → c.maxLocals = maxL →
      s.vm.findClass y.cls = some m.cls → meth.name = y.name → Z.Warmed39 s.vm → s₁.heap = h0 → meth.sig.returnType = ret → meth.locks = false → OwnFin p e below s Q rm.cells rm.slots (s₁.setTop (g0 m))) :
    OwnCtr l Z y ws bytes maxL ret rm as' h0 Q := by
  refine MetFree.of_bodySF hpl hisR ?_
  intro p e s m args below meth c s₁ Bd hml0 hP hK
  obtain ⟨rfl, hZ, hh⟩ := hP
  have e0 : s₁.heap = h0 := by rw [← hh, Bd.state]; rfl
  have k := body p e s m below meth c s₁ (Stand.of_body Bd) Bd.exec Bd.bytes hml0 (findClass_of_methodNamed Bd.named) (name_of_methodNamed Bd.named Bd.method).1 hZ e0 Bd.returns Bd.notSynchronized
  rw [← hef m] at k
  exact k
/-- a static call by its contract -/
theorem own_callS (X : Stand p l e R s m args below meth c T locs cells slots) (hx : p.tables.exec = Jvm.exec) (hZ : Z.Warmed39 s.vm) {own : String} {index : Nat} {y : MethodName} {bytes : ByteArray} {maxL : Nat} {ret : Option FieldType} {rm : Room} {as' : Array Value} {Q : Option Value → Heap → List Loc → Prop}
    (hown : s.vm.findClass own = some m.cls) (hlink : (Cond.methodLink own index y).before a0 Z = true) (hstat : (Cond.static y).before a0 Z = true) (hinit : (Cond.initialized y.cls).before a0 Z = true) (hcode : (Cond.code y bytes maxL ret).before a0 Z = true)
    (hy : y.cls ≠ "java/lang/invoke/MethodHandle" ∧ y.cls ≠ "java/lang/invoke/VarHandle") {W : Nat} (hM : OwnCtr l Z y [] bytes maxL ret rm as' h Q) (hf : rm.frames + 1 ≤ R.frames) (hl : W + (maxL + 11) + rm.locals ≤ R.locals)
    {g : JFrame} (hg : g.method = m) (hsize : g.locals.size = c.maxLocals) {argsL rest : List Value} (hlen : ∀ sig, parseMethodDescriptor y.desc = some sig → argsL.length = sig.parameters.length)
    (hstack : g.stack = argsL.reverse ++ rest) (hW : 2 * g.monitorRoom + (rest.map fun v => v.category).sum ≤ W) (hdg : decode c.code g.pc = .ok (.invokestatic index, 3)) (eT : T.heap = h) (ha : argsL.toArray = as') (hc : cells + rm.cells ≤ R.cells) (hs : slots + rm.slots ≤ R.slots) :
    ∃ (v : Option Value) (T' : State) (L : List Loc), Stand p l e R s m args below meth c T' (locs ++ L) (cells + rm.cells) (slots + rm.slots) ∧ Q v T'.heap L ∧ ∀ target, Steps p.tables e below (T'.setTop { g with pc := g.pc + 3, stack := v.toList ++ rest }) target → Steps p.tables e below (T.setTop g) target := by
  obtain ⟨v, _, ⟨T', L', k, n⟩, -, X', ⟨L, hQ, l1, y1, z1⟩, st⟩ := Jvm.LawKit.callS X hx (y := y) hown (mvT hZ hlink) (mvT hZ hstat) (mvT hZ hinit) (mvT hZ hcode) hy (backOf (W := W) hM hZ hcode hinit hf hl) hg hsize hlen hstack hW hdg (fun _ _ => ⟨ha, eT, hc, hs⟩)
  dsimp only [Pt.U, Pt.locs, Pt.cells, Pt.slots] at X' l1 y1 z1 st hQ
  subst l1 y1 z1
  exact ⟨v, T', L, X', hQ, st⟩
/-- a constructor by its contract -/
theorem own_callI (X : Stand p l e R s m args below meth c T locs cells slots) (hx : p.tables.exec = Jvm.exec) (hZ : Z.Warmed39 s.vm) {own : String} {index : Nat} {y : MethodName} {bytes : ByteArray} {maxL : Nat} {rm : Room} {as' : Array Value} {Q : Option Value → Heap → List Loc → Prop}
    (hy1 : y.name = "<init>") (hown : s.vm.findClass own = some m.cls) (hlink : (Cond.methodLink own index y).before a0 Z = true) (hinst : (Cond.instanceMethod y).before a0 Z = true) (hinit : (Cond.initialized y.cls).before a0 Z = true) (hcode : (Cond.code y bytes maxL none).before a0 Z = true)
    (hy : y.cls ≠ "java/lang/invoke/MethodHandle" ∧ y.cls ≠ "java/lang/invoke/VarHandle") {W : Nat} (hM : OwnCtr l Z y [] bytes maxL none rm as' h Q) (hf : rm.frames + 1 ≤ R.frames) (hl : W + (maxL + 11) + rm.locals ≤ R.locals)
    {g : JFrame} (hg : g.method = m) (hsize : g.locals.size = c.maxLocals) {a : Addr} {argsL rest : List Value} (hlen : ∀ sig, parseMethodDescriptor y.desc = some sig → argsL.length = sig.parameters.length)
    (hstack : g.stack = argsL.reverse ++ .ref a :: rest) (hW : 2 * g.monitorRoom + (rest.map fun v => v.category).sum ≤ W) (hdg : decode c.code g.pc = .ok (.invokespecial index, 3)) (eT : T.heap = h) (ha : (.ref a :: argsL).toArray = as') (hc : cells + rm.cells ≤ R.cells) (hs : slots + rm.slots ≤ R.slots) :
    ∃ (v : Option Value) (T' : State) (L : List Loc), Stand p l e R s m args below meth c T' (locs ++ L) (cells + rm.cells) (slots + rm.slots) ∧ Q v T'.heap L ∧ ∀ target, Steps p.tables e below (T'.setTop { g with pc := g.pc + 3, stack := v.toList ++ rest }) target → Steps p.tables e below (T.setTop g) target := by
  obtain ⟨v, _, ⟨T', L', k, n⟩, -, X', ⟨L, hQ, l1, y1, z1⟩, st⟩ := X.specialBack hx (y := y) hy1 hown (mvT hZ hlink) (mvT hZ hinst) (mvT hZ hcode) hy (backOf (W := W) hM hZ hcode hinit hf hl) hg hsize (Steps.refl _) hlen hstack hW hdg (fun _ _ => ⟨ha, eT, hc, hs⟩)
  dsimp only [Pt.U, Pt.locs, Pt.cells, Pt.slots] at X' l1 y1 z1 st hQ
  subst l1 y1 z1
  exact ⟨v, T', L, X', hQ, fun t k => st.trans k⟩
/-- an instance method by its contract -/
theorem own_callV (X : Stand p l e R s m args below meth c T locs cells slots) (hx : p.tables.exec = Jvm.exec) (hZ : Z.Warmed39 s.vm) {own K : String} {index : Nat} {y z : MethodName} {bytes : ByteArray} {maxL : Nat} {ret : Option FieldType} {rm : Room} {as' : Array Value} {Q : Option Value → Heap → List Loc → Prop}
    (hown : s.vm.findClass own = some m.cls) (hlink : (Cond.methodLink own index y).before a0 Z = true) (hdecl : (Cond.declares y).before a0 Z = true) (hnf : NotFace s y) (hsel : (Cond.selects K y z).before a0 Z = true) (hinst : (Cond.instanceMethod z).before a0 Z = true) (hinit : (Cond.initialized z.cls).before a0 Z = true) (hcode : (Cond.code z bytes maxL ret).before a0 Z = true)
    (hy : y.cls ≠ "java/lang/invoke/MethodHandle" ∧ y.cls ≠ "java/lang/invoke/VarHandle") {W : Nat} (hM : OwnCtr l Z z [] bytes maxL ret rm as' h Q) (hf : rm.frames + 1 ≤ R.frames) (hl : W + (maxL + 11) + rm.locals ≤ R.locals)
    {b : Addr} (E : Exa Z h b K) {g : JFrame} (hg : g.method = m) (hsize : g.locals.size = c.maxLocals) {argsL rest : List Value} (hlen : ∀ sig, parseMethodDescriptor y.desc = some sig → argsL.length = sig.parameters.length)
    (hstack : g.stack = argsL.reverse ++ .ref b :: rest) (hW : 2 * g.monitorRoom + (rest.map fun v => v.category).sum ≤ W) (hdg : decode c.code g.pc = .ok (.invokevirtual index, 3)) (eT : T.heap = h) (ha : (.ref b :: argsL).toArray = as') (hc : cells + rm.cells ≤ R.cells) (hs : slots + rm.slots ≤ R.slots) :
    ∃ (v : Option Value) (T' : State) (L : List Loc), Stand p l e R s m args below meth c T' (locs ++ L) (cells + rm.cells) (slots + rm.slots) ∧ Q v T'.heap L ∧ ∀ target, Steps p.tables e below (T'.setTop { g with pc := g.pc + 3, stack := v.toList ++ rest }) target → Steps p.tables e below (T.setTop g) target := by
  obtain ⟨cq, kq, qa, qb, qc⟩ := isOf hZ eT E
  obtain ⟨v, _, ⟨T', L', k, n⟩, -, X', ⟨L, hQ, l1, y1, z1⟩, st⟩ := X.virtualBack hx (y := y) (z := z) hown (mvT hZ hlink) (mvT hZ hdecl) hnf (mvT hZ hsel) (mvT hZ hinst) hy (backOf (W := W) hM hZ hcode hinit hf hl) qa qc hg hsize (Steps.refl _) hlen hstack hW hdg (fun _ _ => ⟨ha, eT, hc, hs⟩)
  dsimp only [Pt.U, Pt.locs, Pt.cells, Pt.slots] at X' l1 y1 z1 st hQ
  subst l1 y1 z1
  exact ⟨v, T', L, X', hQ, fun t k => st.trans k⟩
/-- a private instance method, called by invokevirtual, by its contract -/
theorem own_callP (X : Stand p l e R s m args below meth c T locs cells slots) (hx : p.tables.exec = Jvm.exec) (hZ : Z.Warmed39 s.vm) {own : String} {index : Nat} {y : MethodName} {bytes : ByteArray} {maxL : Nat} {ret : Option FieldType} {rm : Room} {as' : Array Value} {Q : Option Value → Heap → List Loc → Prop}
    (hown : s.vm.findClass own = some m.cls) (hlink : (Cond.methodLink own index y).before a0 Z = true) (hinst : (Cond.instanceMethod y).before a0 Z = true) (hsel : (Cond.selects y.cls y y).before a0 Z = true) (hpriv : (Cond.privateMethod y).before a0 Z = true) (hinit : (Cond.initialized y.cls).before a0 Z = true) (hcode : (Cond.code y bytes maxL ret).before a0 Z = true)
    (hy : y.cls ≠ "java/lang/invoke/MethodHandle" ∧ y.cls ≠ "java/lang/invoke/VarHandle") {W : Nat} (hM : OwnCtr l Z y [] bytes maxL ret rm as' h Q) (hf : rm.frames + 1 ≤ R.frames) (hl : W + (maxL + 11) + rm.locals ≤ R.locals)
    {b : Addr} {K : String} (E : Exa Z h b K) {g : JFrame} (hg : g.method = m) (hsize : g.locals.size = c.maxLocals) {argsL rest : List Value} (hlen : ∀ sig, parseMethodDescriptor y.desc = some sig → argsL.length = sig.parameters.length)
    (hstack : g.stack = argsL.reverse ++ .ref b :: rest) (hW : 2 * g.monitorRoom + (rest.map fun v => v.category).sum ≤ W) (hdg : decode c.code g.pc = .ok (.invokevirtual index, 3)) (eT : T.heap = h) (ha : (.ref b :: argsL).toArray = as') (hc : cells + rm.cells ≤ R.cells) (hs : slots + rm.slots ≤ R.slots) :
    ∃ (v : Option Value) (T' : State) (L : List Loc), Stand p l e R s m args below meth c T' (locs ++ L) (cells + rm.cells) (slots + rm.slots) ∧ Q v T'.heap L ∧ ∀ target, Steps p.tables e below (T'.setTop { g with pc := g.pc + 3, stack := v.toList ++ rest }) target → Steps p.tables e below (T.setTop g) target := by
  obtain ⟨cq, q1, q2⟩ := E.cell
  obtain ⟨v, _, ⟨T', L', k, n⟩, -, X', ⟨L, hQ, l1, y1, z1⟩, st⟩ := X.privateBack hx (y := y) hown (mvT hZ hlink) (mvT hZ hinst) (mvT hZ hsel) (Cond.privateMethod_at (mvP hZ hpriv (args := #[]))) (mvT hZ hcode) hy (backOf (W := W) hM hZ hcode hinit hf hl) hg hsize (Steps.refl _) (by rw [eT]; exact q1) q2 hlen hstack hW hdg (fun _ _ => ⟨ha, eT, hc, hs⟩)
  dsimp only [Pt.U, Pt.locs, Pt.cells, Pt.slots] at X' l1 y1 z1 st hQ
  subst l1 y1 z1
  exact ⟨v, T', L, X', hQ, fun t k => st.trans k⟩
theorem own_retI (X : Stand p l e R s m args below meth c T locs cells slots) (hx : p.tables.exec = Jvm.exec) {pc : Nat} {Ls : Array Slot} {z : Int32} {rest : List Value} (hret : meth.sig.returnType = some .int) (hd : decode c.code pc = .ok (.ireturn, 1)) {fs : List Frame}
    (hl : ∀ (f : JFrame) (acts : List Action), f.method = m → f.locked = none → f.entered = [] → (doReturn e (T.setTop f) acts (some (.int z))).1 = T.setFrames fs) : Steps p.tables e below (T.setTop (mkF m pc Ls (.int z :: rest))) (T.setFrames fs) :=
  retOut X hx hret rfl (Or.inl ⟨rfl, Or.inl rfl, _, rfl⟩) hd hl
theorem own_retJ (X : Stand p l e R s m args below meth c T locs cells slots) (hx : p.tables.exec = Jvm.exec) {pc : Nat} {Ls : Array Slot} {z : Int64} {rest : List Value} (hret : meth.sig.returnType = some .long) (hd : decode c.code pc = .ok (.lreturn, 1)) {fs : List Frame}
    (hl : ∀ (f : JFrame) (acts : List Action), f.method = m → f.locked = none → f.entered = [] → (doReturn e (T.setTop f) acts (some (.long z))).1 = T.setFrames fs) : Steps p.tables e below (T.setTop (mkF m pc Ls (.long z :: rest))) (T.setFrames fs) :=
  retOut X hx hret rfl (Or.inr (Or.inl ⟨rfl, rfl, _, rfl⟩)) hd hl
theorem own_retR (X : Stand p l e R s m args below meth c T locs cells slots) (hx : p.tables.exec = Jvm.exec) {pc : Nat} {Ls : Array Slot} {w : Value} {t : FieldType} {rest : List Value} (hret : meth.sig.returnType = some t) (ht : t.isReference = true) (hw : w.isRef = true) (hd : decode c.code pc = .ok (.areturn, 1)) {fs : List Frame}
    (hl : ∀ (f : JFrame) (acts : List Action), f.method = m → f.locked = none → f.entered = [] → (doReturn e (T.setTop f) acts (some w)).1 = T.setFrames fs) : Steps p.tables e below (T.setTop (mkF m pc Ls (w :: rest))) (T.setFrames fs) :=
  retOut X hx hret (by cases t <;> simp [FieldType.isReference] at ht <;> cases w <;> simp [Value.isRef] at hw <;> rfl) (Or.inr (Or.inr (Or.inr (Or.inr ⟨rfl, ht, hw⟩)))) hd hl
theorem own_stakeep {h' : Heap} {O n d : String} {v : Value} (F : Sta Z h O n d v) (K : Keep h h' []) : Sta Z h' O n d v := by
  obtain ⟨cf, i, k, f, st, cell, h1, h2, h3, h4, h5, r⟩ := F
  exact ⟨cf, i, k, f, st, cell, h1, h2, h3, h4, K.2.1 _ _ h5 nin0, r⟩
end Own

theorem own_neg : (-(9223372036854 : Int64)).toInt = -9223372036854 := by decide
theorem own_m1 : (1 : Int64).toInt = 1 := by decide
theorem own_mx : (4611686018427 : Int64).toInt = 4611686018427 := by decide
theorem own_mn : (9223372036854 : Int64).toInt = 9223372036854 := by decide
theorem own_mod (x : Int64) : 1 ≤ (((x &&& (9223372036854775807 : Int64)) - ((x &&& (9223372036854775807 : Int64)) / (4611686018427 : Int64)) * (4611686018427 : Int64)) + (1 : Int64)).toInt ∧ (((x &&& (9223372036854775807 : Int64)) - ((x &&& (9223372036854775807 : Int64)) / (4611686018427 : Int64)) * (4611686018427 : Int64)) + (1 : Int64)).toInt ≤ 4611686018427 := by
  have h := c_maskL x 9223372036854775807 63 (by decide) (by decide)
  have h1 := Jvm.Kit.i64_rem_nonneg (x := x &&& (9223372036854775807 : Int64)) (y := 4611686018427) (by rw [h]; exact Int.emod_nonneg _ (by decide))
  rw [own_mx] at h1
  have h2 := Int.emod_nonneg (x &&& (9223372036854775807 : Int64)).toInt (show (4611686018427 : Int) ≠ 0 by decide)
  have h3 := Int.emod_lt_of_pos (x &&& (9223372036854775807 : Int64)).toInt (show (0 : Int) < 4611686018427 by decide)
  rw [← h1] at h2 h3
  generalize ((x &&& (9223372036854775807 : Int64)) - ((x &&& (9223372036854775807 : Int64)) / (4611686018427 : Int64)) * (4611686018427 : Int64)) = y at *
  rw [Jvm.Kit.i64_add (by rw [own_m1]; omega) (by rw [own_m1]; omega), own_m1]
  omega
theorem d2_0 : decode prog_7_method_1_code 0 = .ok (.aload_n 0, 1) := by decide +kernel
theorem d2_1 : decode prog_7_method_1_code 1 = .ok (.invokespecial 1, 3) := by decide +kernel
theorem d2_4 : decode prog_7_method_1_code 4 = .ok (.aload_n 0, 1) := by decide +kernel
theorem d2_5 : decode prog_7_method_1_code 5 = .ok (.lload_n 1, 1) := by decide +kernel
theorem d2_6 : decode prog_7_method_1_code 6 = .ok (.putfield 7, 3) := by decide +kernel
theorem d2_9 : decode prog_7_method_1_code 9 = .ok (.aload_n 0, 1) := by decide +kernel
theorem d2_10 : decode prog_7_method_1_code 10 = .ok (.iload_n 3, 1) := by decide +kernel
theorem d2_11 : decode prog_7_method_1_code 11 = .ok (.putfield 13, 3) := by decide +kernel
theorem d2_14 : decode prog_7_method_1_code 14 = .ok (.return_, 1) := by decide +kernel
theorem pn_2 : plainFor (⟨"com/example/goby/goby/lock/Lease", "<init>", "(JZ)V"⟩ : MethodName) = true := plainFor_of_name (by first | (simp [plainName, overriddenIn]; done) | decide +kernel)
theorem ef_2 (m : MethodId) (a1 : Addr) (q2 : Int64) (p3 : Int32) : entryFrame m #[(.ref a1), (.long q2), (.int p3)] 4 = mkF m 0 #[.val (.ref a1), .val (.long q2), .second, .val (.int p3)] [] := by first | (simp [entryFrame, mkF, argsToLocals, Value.category]; done) | rfl
set_option maxRecDepth 65536 in
set_option maxHeartbeats 40000000 in
theorem rm2 (l : Launch) (Z : State) (a0 : Array Value) (hw : ∀ d ∈ tables_1, d.before a0 Z = true) (ws : List Jvm.Cond) (a1 : Addr) (q2 : Int64) (p3 : Int32) {u_millis : Value} {u_renewed : Value} (h0 : Heap) (n0 : Nat) (Z0 : n0 ≤ h0.size) (E_a1 : Exa Z h0 a1 "com/example/goby/goby/lock/Lease") (g_a1 : n0 ≤ a1) (F_millis_a1 : Fld Z h0 a1 "com/example/goby/goby/lock/Lease" "millis" "J" u_millis) (F_renewed_a1 : Fld Z h0 a1 "com/example/goby/goby/lock/Lease" "renewed" "Z" u_renewed) :
    OwnCtr l Z (⟨"com/example/goby/goby/lock/Lease", "<init>", "(JZ)V"⟩ : MethodName) ws prog_7_method_1_code 4 none ({ frames := 1, cells := 0, slots := 0, locals := 12 } : Room) #[(.ref a1), (.long q2), (.int p3)] h0 (fun v h L => v = none ∧ Fr n0 L ∧ Keep h0 h [a1] ∧ Exa Z h a1 "com/example/goby/goby/lock/Lease" ∧ Fld Z h a1 "com/example/goby/goby/lock/Lease" "millis" "J" (.long q2) ∧ Fld Z h a1 "com/example/goby/goby/lock/Lease" "renewed" "Z" (.int (nar .boolean p3))) := by
  refine own_body (g0 := fun m => mkF m 0 #[.val (.ref a1), .val (.long q2), .second, .val (.int p3)] []) pn_2 (fun m => ef_2 m a1 q2 p3) ?_
  intro p e s m below meth c s₁ X0 hx hby hml hown hnm hZ e0 hret hlk
  have hml : c.maxLocals = 4 := hml
  have hown : s.vm.findClass "com/example/goby/goby/lock/Lease" = some m.cls := hown
  have hnm : meth.name = "<init>" := hnm
  have hret : meth.sig.returnType = none := hret
  have N0 := Fr.nil n0
  have K0 := Keep.refl h0 [a1]
  show OwnFin p e below s _ _ _ (s₁.setTop (mkF m 0 #[.val (.ref a1), .val (.long q2), .second, .val (.int p3)] []))
  refine own_go (fun t_ k_ => XS.aloadN X0.here hx rfl (hb hby d2_0) rfl rfl k_) ?_
  show OwnFin p e below s _ _ _ (s₁.setTop (mkF m 1 #[.val (.ref a1), .val (.long q2), .second, .val (.int p3)] [(.ref a1)]))
  obtain ⟨T1, X1, e1, st1⟩ := initO X0 hx hZ hown (hw _ (List.mem_of_getElem? (i := 13) rfl)) (hw _ (List.mem_of_getElem? (i := 14) rfl)) (hw _ (List.mem_of_getElem? (i := 15) rfl)) e0 (g := (mkF m 1 #[.val (.ref a1), .val (.long q2), .second, .val (.int p3)] [(.ref a1)])) rfl (by rw [hml]; rfl) rfl (hb hby d2_1) (by decide) (W := 0) (by show 2 * 0 + _ ≤ _; exact Nat.le_of_eq rfl) (by decide)
  refine own_go st1 ?_
  show OwnFin p e below s _ _ _ (T1.setTop (mkF m 4 #[.val (.ref a1), .val (.long q2), .second, .val (.int p3)] []))
  refine own_go (fun t_ k_ => XS.aloadN X1.here hx rfl (hb hby d2_4) rfl rfl k_) ?_
  show OwnFin p e below s _ _ _ (T1.setTop (mkF m 5 #[.val (.ref a1), .val (.long q2), .second, .val (.int p3)] [(.ref a1)]))
  refine own_go (fun t_ k_ => XS.lloadN X1.here hx rfl (hb hby d2_5) rfl k_) ?_
  show OwnFin p e below s _ _ _ (T1.setTop (mkF m 6 #[.val (.ref a1), .val (.long q2), .second, .val (.int p3)] [(.long q2), (.ref a1)]))
  obtain ⟨T2, h2, X2, e2, W2, st2⟩ := putF X1 hx hZ hown (host := "") (Or.inl (hw _ (List.mem_of_getElem? (i := 16) rfl))) Via.refl e1 F_millis_a1 E_a1 (Or.inr ⟨(hw _ (List.mem_of_getElem? (i := 17) rfl)), rfl, hnm⟩) (hw _ (List.mem_of_getElem? (i := 9) rfl)) (ty := .long) (by decide) rfl rfl (g := (mkF m 6 #[.val (.ref a1), .val (.long q2), .second, .val (.int p3)] [(.long q2), (.ref a1)])) rfl rfl (hb hby d2_6)
  have E_a1_2 := E_a1.wr W2
  have F_millis_a1_2 := F_millis_a1.same W2
  have F_renewed_a1_2 := F_renewed_a1.other W2 (Or.inr (slot_ne (Or.inr (hw _ (List.mem_of_getElem? (i := 19) rfl))) (Or.inr (hw _ (List.mem_of_getElem? (i := 17) rfl))) (by decide) (t := .boolean) (t' := .long) (by decide) (by decide)))
  have Z2 : n0 ≤ h2.size := Nat.le_trans Z0 (Keep.of_wr W2).1
  have K2 : Keep h0 h2 [a1] := K0.wr W2 (Or.inl (List.mem_of_getElem? (i := 0) rfl))
  have N2 := Fr.snoc X2 N0 g_a1
  refine own_go st2 ?_
  show OwnFin p e below s _ _ _ (T2.setTop (mkF m 9 #[.val (.ref a1), .val (.long q2), .second, .val (.int p3)] []))
  refine own_go (fun t_ k_ => XS.aloadN X2.here hx rfl (hb hby d2_9) rfl rfl k_) ?_
  show OwnFin p e below s _ _ _ (T2.setTop (mkF m 10 #[.val (.ref a1), .val (.long q2), .second, .val (.int p3)] [(.ref a1)]))
  refine own_go (fun t_ k_ => XS.iloadN X2.here hx rfl (hb hby d2_10) rfl k_) ?_
  show OwnFin p e below s _ _ _ (T2.setTop (mkF m 11 #[.val (.ref a1), .val (.long q2), .second, .val (.int p3)] [(.int p3), (.ref a1)]))
  obtain ⟨T3, h3, X3, e3, W3, st3⟩ := putFN X2 hx hZ hown (hw _ (List.mem_of_getElem? (i := 18) rfl)) Via.refl e2 F_renewed_a1_2 E_a1_2 (Or.inr ⟨(hw _ (List.mem_of_getElem? (i := 19) rfl)), rfl, hnm⟩) (hw _ (List.mem_of_getElem? (i := 9) rfl)) (ty := .boolean) (v' := (.int (nar .boolean p3))) (by decide) rfl (fits_nar_bool _) (g := (mkF m 11 #[.val (.ref a1), .val (.long q2), .second, .val (.int p3)] [(.int p3), (.ref a1)])) rfl rfl (hb hby d2_11)
  have E_a1_3 := E_a1_2.wr W3
  have F_millis_a1_3 := F_millis_a1_2.other W3 (Or.inr (slot_ne (Or.inr (hw _ (List.mem_of_getElem? (i := 17) rfl))) (Or.inr (hw _ (List.mem_of_getElem? (i := 19) rfl))) (by decide) (t := .long) (t' := .boolean) (by decide) (by decide)))
  have F_renewed_a1_3 := F_renewed_a1_2.same W3
  have Z3 : n0 ≤ h3.size := Nat.le_trans Z2 (Keep.of_wr W3).1
  have K3 : Keep h0 h3 [a1] := K2.wr W3 (Or.inl (List.mem_of_getElem? (i := 0) rfl))
  have N3 := Fr.snoc X3 N2 g_a1
  refine own_go st3 ?_
  show OwnFin p e below s _ _ _ (T3.setTop (mkF m 14 #[.val (.ref a1), .val (.long q2), .second, .val (.int p3)] []))
  refine own_ret X3 (v := none) hlk (fun _ => rfl) (fun fs hr => X3.returnOut hx hret (hb hby d2_14) hr) (by decide) (by decide) ?_
  rw [e3]
  exact ⟨rfl, N3, K3, E_a1_3, F_millis_a1_3, F_renewed_a1_3⟩
theorem d1_0 : decode prog_7_method_2_code 0 = .ok (.lload_n 0, 1) := by decide +kernel
theorem d1_1 : decode prog_7_method_2_code 1 = .ok (.lconst 1, 1) := by decide +kernel
theorem d1_2 : decode prog_7_method_2_code 2 = .ok (.lcmp, 1) := by decide +kernel
theorem d1_3 : decode prog_7_method_2_code 3 = .ok (.ifCond .lt 11, 3) := by decide +kernel
theorem d1_6 : decode prog_7_method_2_code 6 = .ok (.lload_n 0, 1) := by decide +kernel
theorem d1_7 : decode prog_7_method_2_code 7 = .ok (.getstatic 17, 3) := by decide +kernel
theorem d1_10 : decode prog_7_method_2_code 10 = .ok (.lcmp, 1) := by decide +kernel
theorem d1_11 : decode prog_7_method_2_code 11 = .ok (.ifCond .le 13, 3) := by decide +kernel
theorem d1_24 : decode prog_7_method_2_code 24 = .ok (.new 8, 3) := by decide +kernel
theorem d1_27 : decode prog_7_method_2_code 27 = .ok (.dup, 1) := by decide +kernel
theorem d1_28 : decode prog_7_method_2_code 28 = .ok (.lload_n 0, 1) := by decide +kernel
theorem d1_29 : decode prog_7_method_2_code 29 = .ok (.iconst 0, 1) := by decide +kernel
theorem d1_30 : decode prog_7_method_2_code 30 = .ok (.invokespecial 28, 3) := by decide +kernel
theorem d1_33 : decode prog_7_method_2_code 33 = .ok (.areturn, 1) := by decide +kernel
theorem pn_1 : plainFor (⟨"com/example/goby/goby/lock/Lease", "of", "(J)Lcom/example/goby/goby/lock/Lease;"⟩ : MethodName) = true := plainFor_of_name (by first | (simp [plainName, overriddenIn]; done) | decide +kernel)
theorem pd_1_1 : parseMethodDescriptor "(JZ)V" = some ⟨[.long, .boolean], none⟩ := by decide +kernel
theorem ef_1 (m : MethodId) (q1 : Int64) : entryFrame m #[(.long q1)] 2 = mkF m 0 #[.val (.long q1), .second] [] := by first | (simp [entryFrame, mkF, argsToLocals, Value.category]; done) | rfl
set_option maxRecDepth 65536 in
set_option maxHeartbeats 40000000 in
theorem rm1 (l : Launch) (Z : State) (a0 : Array Value) (hw : ∀ d ∈ tables_1, d.before a0 Z = true) (ws : List Jvm.Cond) (q1 : Int64) (h0 : Heap) (n0 : Nat) (Z0 : n0 ≤ h0.size) (S_max : Sta Z h0 "com/example/goby/goby/lock/Lease" "MAX_MILLIS" "J" (.long (4611686018427 : Int64))) (h1 : ¬ (q1 < (1 : Int64))) (h2 : ¬ ((4611686018427 : Int64) < q1)) :
    OwnCtr l Z (⟨"com/example/goby/goby/lock/Lease", "of", "(J)Lcom/example/goby/goby/lock/Lease;"⟩ : MethodName) ws prog_7_method_2_code 2 (some (.object "com/example/goby/goby/lock/Lease")) ({ frames := 2, cells := 1, slots := 2, locals := 28 } : Room) #[(.long q1)] h0 (fun v h L => ∃ b : Addr, v = some (.ref b) ∧ Fr n0 L ∧ Keep h0 h [] ∧ h0.size ≤ b ∧ Exa Z h b "com/example/goby/goby/lock/Lease" ∧ Fld Z h b "com/example/goby/goby/lock/Lease" "millis" "J" (.long q1) ∧ Fld Z h b "com/example/goby/goby/lock/Lease" "renewed" "Z" (.int (0 : Int32))) := by
  refine own_body (g0 := fun m => mkF m 0 #[.val (.long q1), .second] []) pn_1 (fun m => ef_1 m q1) ?_
  intro p e s m below meth c s₁ X0 hx hby hml hown hnm hZ e0 hret hlk
  have hml : c.maxLocals = 2 := hml
  have hown : s.vm.findClass "com/example/goby/goby/lock/Lease" = some m.cls := hown
  have hnm : meth.name = "of" := hnm
  have hret : meth.sig.returnType = (some (.object "com/example/goby/goby/lock/Lease")) := hret
  have N0 := Fr.nil n0
  have K0 := Keep.refl h0 []
  show OwnFin p e below s _ _ _ (s₁.setTop (mkF m 0 #[.val (.long q1), .second] []))
  refine own_go (fun t_ k_ => XS.lloadN X0.here hx rfl (hb hby d1_0) rfl k_) ?_
  show OwnFin p e below s _ _ _ (s₁.setTop (mkF m 1 #[.val (.long q1), .second] [(.long q1)]))
  refine own_go (fun t_ k_ => XS.lconst X0.here hx rfl (hb hby d1_1) k_) ?_
  show OwnFin p e below s _ _ _ (s₁.setTop (mkF m 2 #[.val (.long q1), .second] [(.long (1 : Int64)), (.long q1)]))
  refine own_go (fun t_ k_ => XS.lcmp X0.here hx rfl (hb hby d1_2) rfl k_) ?_
  show OwnFin p e below s _ _ _ (s₁.setTop (mkF m 3 #[.val (.long q1), .second] [(.int (lcmpW q1 (1 : Int64)))]))
  have hc3 : ¬ (q1 < (1 : Int64)) := h1
  refine own_go (fun t_ k_ => XS.ifNo X0.here hx rfl (hb hby d1_3) rfl ((if0 _ _).trans (flt (mt (lw_lt q1 (1 : Int64)).mp hc3)).1) k_) ?_
  show OwnFin p e below s _ _ _ (s₁.setTop (mkF m 6 #[.val (.long q1), .second] []))
  refine own_go (fun t_ k_ => XS.lloadN X0.here hx rfl (hb hby d1_6) rfl k_) ?_
  show OwnFin p e below s _ _ _ (s₁.setTop (mkF m 7 #[.val (.long q1), .second] [(.long q1)]))
  obtain ⟨T1, X1, e1, st1⟩ := getS2 X0 hx hZ hown (host := "") (Or.inl (hw _ (List.mem_of_getElem? (i := 7) rfl))) Via.refl e0 S_max (g := (mkF m 7 #[.val (.long q1), .second] [(.long q1)])) rfl (hb hby d1_7)
  refine own_go st1 ?_
  show OwnFin p e below s _ _ _ (T1.setTop (mkF m 10 #[.val (.long q1), .second] [(.long (4611686018427 : Int64)), (.long q1)]))
  refine own_go (fun t_ k_ => XS.lcmp X1.here hx rfl (hb hby d1_10) rfl k_) ?_
  show OwnFin p e below s _ _ _ (T1.setTop (mkF m 11 #[.val (.long q1), .second] [(.int (lcmpW q1 (4611686018427 : Int64)))]))
  have hc11 : ¬ ((4611686018427 : Int64) < q1) := h2
  refine own_go (fun t_ k_ => XS.ifYes X1.here hx rfl (pc0 := 11) (pc' := 24) rfl (hb hby d1_11) rfl ((if0 _ _).trans (flt (mt (lw_gt q1 (4611686018427 : Int64)).mp hc11)).2.2.2) (by decide) (by decide) k_) ?_
  show OwnFin p e below s _ _ _ (T1.setTop (mkF m 24 #[.val (.long q1), .second] []))
  obtain ⟨T2, h2, X2, e2, E2, A2, D2, -, st2⟩ := newO X1 hx hZ hown (hw _ (List.mem_of_getElem? (i := 8) rfl)) (hw _ (List.mem_of_getElem? (i := 9) rfl)) (hw _ (List.mem_of_getElem? (i := 1) rfl)) e1 (g := (mkF m 24 #[.val (.long q1), .second] [])) rfl (hb hby d1_24) (by decide) (by decide)
  obtain ⟨b2, g2⟩ : ∃ z, z = h0.size := ⟨_, rfl⟩
  rw [← g2] at A2 D2 st2
  have g_b2 : n0 ≤ b2 := Nat.le_trans Z0 (Nat.le_of_eq g2.symm)
  have sz_b2 : h0.size ≤ b2 := Nat.le_trans K0.1 (Nat.le_of_eq g2.symm)
  have S_max_2 := S_max.ext E2
  have Z2 : n0 ≤ h2.size := Nat.le_trans Z0 E2.1
  have K2 : Keep h0 h2 [] := K0.ext E2
  have E_b2 := A2
  have F_millis_b2 : Fld Z h2 b2 "com/example/goby/goby/lock/Lease" "millis" "J" (.long (0 : Int64)) := D2 (Or.inr (hw _ (List.mem_of_getElem? (i := 17) rfl))) (ty := .long) (by decide)
  have F_renewed_b2 : Fld Z h2 b2 "com/example/goby/goby/lock/Lease" "renewed" "Z" (.int (0 : Int32)) := D2 (Or.inr (hw _ (List.mem_of_getElem? (i := 19) rfl))) (ty := .boolean) (by decide)
  refine own_go st2 ?_
  show OwnFin p e below s _ _ _ (T2.setTop (mkF m 27 #[.val (.long q1), .second] [(.ref b2)]))
  refine own_go (fun t_ k_ => XS.dup X2.here hx rfl (hb hby d1_27) rfl rfl k_) ?_
  show OwnFin p e below s _ _ _ (T2.setTop (mkF m 28 #[.val (.long q1), .second] [(.ref b2), (.ref b2)]))
  refine own_go (fun t_ k_ => XS.lloadN X2.here hx rfl (hb hby d1_28) rfl k_) ?_
  show OwnFin p e below s _ _ _ (T2.setTop (mkF m 29 #[.val (.long q1), .second] [(.long q1), (.ref b2), (.ref b2)]))
  refine own_go (fun t_ k_ => XS.iconst X2.here hx rfl (hb hby d1_29) k_) ?_
  show OwnFin p e below s _ _ _ (T2.setTop (mkF m 30 #[.val (.long q1), .second] [(.int (0 : Int32)), (.long q1), (.ref b2), (.ref b2)]))
  obtain ⟨v3, T3, L3, X3, hQ3, st3⟩ := own_callI X2 hx hZ (y := (⟨"com/example/goby/goby/lock/Lease", "<init>", "(JZ)V"⟩ : MethodName)) rfl hown (hw _ (List.mem_of_getElem? (i := 10) rfl)) (hw _ (List.mem_of_getElem? (i := 11) rfl)) (hw _ (List.mem_of_getElem? (i := 1) rfl)) (hw _ (List.mem_of_getElem? (i := 12) rfl)) (by decide) (W := 1) (rm2 l Z a0 hw [] b2 q1 (0 : Int32) h2 n0 Z2 E_b2 g_b2 F_millis_b2 F_renewed_b2) (by decide) (by decide) (g := (mkF m 30 #[.val (.long q1), .second] [(.int (0 : Int32)), (.long q1), (.ref b2), (.ref b2)])) rfl (by rw [hml]; rfl) (a := b2) (argsL := [(.long q1), (.int (0 : Int32))]) (rest := [(.ref b2)]) (lenOf pd_1_1 rfl) rfl (by show 2 * 0 + _ ≤ _; exact Nat.le_of_eq rfl) (hb hby d1_30) e2 rfl (by decide) (by decide)
  obtain ⟨rfl, Nq3, Kq3, Eq3, Fq3_0, Fq3_1⟩ := hQ3
  have N3 := Fr.app N0 Nq3
  have E_b2_3 := E_b2.keep Kq3
  have Z3 : n0 ≤ T3.heap.size := Nat.le_trans Z2 Kq3.1
  have K3 : Keep h0 T3.heap [] := K2.trans Kq3 (allS (Or.inr sz_b2) all0)
  refine own_go st3 ?_
  show OwnFin p e below s _ _ _ (T3.setTop (mkF m 33 #[.val (.long q1), .second] [(.ref b2)]))
  refine own_ret X3 (v := some (.ref b2)) hlk (fun hh => by rw [hret] at hh; cases hh) (fun fs hr => own_retR X3 hx hret rfl rfl (hb hby d1_33) hr) (by decide) (by decide) ?_
  exact ⟨b2, rfl, N3, K3, sz_b2, Eq3, Fq3_0, Fq3_1⟩
theorem d4_0 : decode prog_7_method_5_code 0 = .ok (.aload_n 0, 1) := by decide +kernel
theorem d4_1 : decode prog_7_method_5_code 1 = .ok (.getfield 7, 3) := by decide +kernel
theorem d4_4 : decode prog_7_method_5_code 4 = .ok (.lreturn, 1) := by decide +kernel
theorem pn_4 : plainFor (⟨"com/example/goby/goby/lock/Lease", "millis", "()J"⟩ : MethodName) = true := plainFor_of_name (by first | (simp [plainName, overriddenIn]; done) | decide +kernel)
theorem ef_4 (m : MethodId) (a1 : Addr) : entryFrame m #[(.ref a1)] 1 = mkF m 0 #[.val (.ref a1)] [] := by first | (simp [entryFrame, mkF, argsToLocals, Value.category]; done) | rfl
set_option maxRecDepth 65536 in
set_option maxHeartbeats 40000000 in
theorem rm4 (l : Launch) (Z : State) (a0 : Array Value) (hw : ∀ d ∈ tables_1, d.before a0 Z = true) (ws : List Jvm.Cond) (a1 : Addr) {w : Int64} (h0 : Heap) (n0 : Nat) (Z0 : n0 ≤ h0.size) (F_a1 : Fld Z h0 a1 "com/example/goby/goby/lock/Lease" "millis" "J" (.long w)) :
    OwnCtr l Z (⟨"com/example/goby/goby/lock/Lease", "millis", "()J"⟩ : MethodName) ws prog_7_method_5_code 1 (some .long) ({ frames := 0, cells := 0, slots := 0, locals := 0 } : Room) #[(.ref a1)] h0 (fun v h L => v = some (.long w) ∧ Fr n0 L ∧ h = h0) := by
  refine own_body (g0 := fun m => mkF m 0 #[.val (.ref a1)] []) pn_4 (fun m => ef_4 m a1) ?_
  intro p e s m below meth c s₁ X0 hx hby hml hown hnm hZ e0 hret hlk
  have hml : c.maxLocals = 1 := hml
  have hown : s.vm.findClass "com/example/goby/goby/lock/Lease" = some m.cls := hown
  have hnm : meth.name = "millis" := hnm
  have hret : meth.sig.returnType = (some .long) := hret
  have N0 := Fr.nil n0
  show OwnFin p e below s _ _ _ (s₁.setTop (mkF m 0 #[.val (.ref a1)] []))
  refine own_go (fun t_ k_ => XS.aloadN X0.here hx rfl (hb hby d4_0) rfl rfl k_) ?_
  show OwnFin p e below s _ _ _ (s₁.setTop (mkF m 1 #[.val (.ref a1)] [(.ref a1)]))
  obtain ⟨T1, X1, e1, st1⟩ := getF X0 hx hZ hown (host := "") (Or.inl (hw _ (List.mem_of_getElem? (i := 16) rfl))) Via.refl e0 F_a1 (g := (mkF m 1 #[.val (.ref a1)] [(.ref a1)])) rfl rfl (hb hby d4_1)
  refine own_go st1 ?_
  show OwnFin p e below s _ _ _ (T1.setTop (mkF m 4 #[.val (.ref a1)] [(.long w)]))
  refine own_ret X1 (v := some (.long w)) hlk (fun hh => by rw [hret] at hh; cases hh) (fun fs hr => own_retJ X1 hx hret (hb hby d4_4) hr) (by decide) (by decide) ?_
  rw [e1]
  exact ⟨rfl, N0, rfl⟩
theorem d5_0 : decode prog_7_method_7_code 0 = .ok (.aload_n 0, 1) := by decide +kernel
theorem d5_1 : decode prog_7_method_7_code 1 = .ok (.getfield 13, 3) := by decide +kernel
theorem d5_4 : decode prog_7_method_7_code 4 = .ok (.ireturn, 1) := by decide +kernel
theorem pn_5 : plainFor (⟨"com/example/goby/goby/lock/Lease", "isRenewed", "()Z"⟩ : MethodName) = true := plainFor_of_name (by first | (simp [plainName, overriddenIn]; done) | decide +kernel)
theorem ef_5 (m : MethodId) (a1 : Addr) : entryFrame m #[(.ref a1)] 1 = mkF m 0 #[.val (.ref a1)] [] := by first | (simp [entryFrame, mkF, argsToLocals, Value.category]; done) | rfl
set_option maxRecDepth 65536 in
set_option maxHeartbeats 40000000 in
theorem rm5 (l : Launch) (Z : State) (a0 : Array Value) (hw : ∀ d ∈ tables_1, d.before a0 Z = true) (ws : List Jvm.Cond) (a1 : Addr) {w : Int32} (h0 : Heap) (n0 : Nat) (Z0 : n0 ≤ h0.size) (F_a1 : Fld Z h0 a1 "com/example/goby/goby/lock/Lease" "renewed" "Z" (.int w)) :
    OwnCtr l Z (⟨"com/example/goby/goby/lock/Lease", "isRenewed", "()Z"⟩ : MethodName) ws prog_7_method_7_code 1 (some .boolean) ({ frames := 0, cells := 0, slots := 0, locals := 0 } : Room) #[(.ref a1)] h0 (fun v h L => v = some (.int (nar .boolean w)) ∧ Fr n0 L ∧ h = h0) := by
  refine own_body (g0 := fun m => mkF m 0 #[.val (.ref a1)] []) pn_5 (fun m => ef_5 m a1) ?_
  intro p e s m below meth c s₁ X0 hx hby hml hown hnm hZ e0 hret hlk
  have hml : c.maxLocals = 1 := hml
  have hown : s.vm.findClass "com/example/goby/goby/lock/Lease" = some m.cls := hown
  have hnm : meth.name = "isRenewed" := hnm
  have hret : meth.sig.returnType = (some .boolean) := hret
  have N0 := Fr.nil n0
  show OwnFin p e below s _ _ _ (s₁.setTop (mkF m 0 #[.val (.ref a1)] []))
  refine own_go (fun t_ k_ => XS.aloadN X0.here hx rfl (hb hby d5_0) rfl rfl k_) ?_
  show OwnFin p e below s _ _ _ (s₁.setTop (mkF m 1 #[.val (.ref a1)] [(.ref a1)]))
  obtain ⟨T1, X1, e1, st1⟩ := getF X0 hx hZ hown (host := "") (Or.inl (hw _ (List.mem_of_getElem? (i := 18) rfl))) Via.refl e0 F_a1 (g := (mkF m 1 #[.val (.ref a1)] [(.ref a1)])) rfl rfl (hb hby d5_1)
  refine own_go st1 ?_
  show OwnFin p e below s _ _ _ (T1.setTop (mkF m 4 #[.val (.ref a1)] [(.int w)]))
  refine own_ret X1 (v := some (.int (nar .boolean w))) hlk (fun hh => by rw [hret] at hh; cases hh) (fun fs hr => retN X1 hx (t := .boolean) hret (by simp) (hb hby d5_4) hr) (by decide) (by decide) ?_
  rw [e1]
  exact ⟨rfl, N0, rfl⟩
theorem d7_0 : decode jdk_2799_method_7_code 0 = .ok (.aload_n 0, 1) := by decide +kernel
theorem d7_1 : decode jdk_2799_method_7_code 1 = .ok (.getfield 44, 3) := by decide +kernel
theorem d7_4 : decode jdk_2799_method_7_code 4 = .ok (.dup2, 1) := by decide +kernel
theorem d7_5 : decode jdk_2799_method_7_code 5 = .ok (.lstore_n 3, 1) := by decide +kernel
theorem d7_6 : decode jdk_2799_method_7_code 6 = .ok (.lconst 1, 1) := by decide +kernel
theorem d7_7 : decode jdk_2799_method_7_code 7 = .ok (.lcmp, 1) := by decide +kernel
theorem d7_8 : decode jdk_2799_method_7_code 8 = .ok (.ifCond .ne 5, 3) := by decide +kernel
theorem d7_13 : decode jdk_2799_method_7_code 13 = .ok (.lload_n 1, 1) := by decide +kernel
theorem d7_14 : decode jdk_2799_method_7_code 14 = .ok (.aload_n 0, 1) := by decide +kernel
theorem d7_15 : decode jdk_2799_method_7_code 15 = .ok (.getfield 52, 3) := by decide +kernel
theorem d7_18 : decode jdk_2799_method_7_code 18 = .ok (.dup2, 1) := by decide +kernel
theorem d7_19 : decode jdk_2799_method_7_code 19 = .ok (.lstore 5, 2) := by decide +kernel
theorem d7_21 : decode jdk_2799_method_7_code 21 = .ok (.lcmp, 1) := by decide +kernel
theorem d7_22 : decode jdk_2799_method_7_code 22 = .ok (.ifCond .le 7, 3) := by decide +kernel
theorem d7_29 : decode jdk_2799_method_7_code 29 = .ok (.lload_n 1, 1) := by decide +kernel
theorem d7_30 : decode jdk_2799_method_7_code 30 = .ok (.lload 5, 2) := by decide +kernel
theorem d7_32 : decode jdk_2799_method_7_code 32 = .ok (.lneg, 1) := by decide +kernel
theorem d7_33 : decode jdk_2799_method_7_code 33 = .ok (.lcmp, 1) := by decide +kernel
theorem d7_34 : decode jdk_2799_method_7_code 34 = .ok (.ifCond .ge 7, 3) := by decide +kernel
theorem d7_41 : decode jdk_2799_method_7_code 41 = .ok (.lload_n 1, 1) := by decide +kernel
theorem d7_42 : decode jdk_2799_method_7_code 42 = .ok (.lload_n 3, 1) := by decide +kernel
theorem d7_43 : decode jdk_2799_method_7_code 43 = .ok (.lmul, 1) := by decide +kernel
theorem d7_44 : decode jdk_2799_method_7_code 44 = .ok (.lreturn, 1) := by decide +kernel
theorem pn_7 : plainFor (⟨"java/util/concurrent/TimeUnit", "toNanos", "(J)J"⟩ : MethodName) = true := plainFor_of_name (by first | (simp [plainName, overriddenIn]; done) | decide +kernel)
theorem ef_7 (m : MethodId) (tu : Addr) (qq : Int64) : entryFrame m #[(.ref tu), (.long qq)] 7 = mkF m 0 #[.val (.ref tu), .val (.long qq), .second, .unset, .unset, .unset, .unset] [] := by first | (simp [entryFrame, mkF, argsToLocals, Value.category]; done) | rfl
set_option maxRecDepth 65536 in
set_option maxHeartbeats 40000000 in
theorem rm7 (l : Launch) (Z : State) (a0 : Array Value) (hw : ∀ d ∈ tables_1, d.before a0 Z = true) (ws : List Jvm.Cond) (tu : Addr) (qq : Int64) (h0 : Heap) (n0 : Nat) (Z0 : n0 ≤ h0.size) (F_scale : Fld Z h0 tu "java/util/concurrent/TimeUnit" "scale" "J" (.long (1000000 : Int64))) (F_maxNanos : Fld Z h0 tu "java/util/concurrent/TimeUnit" "maxNanos" "J" (.long (9223372036854 : Int64))) (h1 : ¬ ((9223372036854 : Int64) < qq)) (h2 : ¬ (qq < (-(9223372036854 : Int64)))) :
    OwnCtr l Z (⟨"java/util/concurrent/TimeUnit", "toNanos", "(J)J"⟩ : MethodName) ws jdk_2799_method_7_code 7 (some .long) ({ frames := 0, cells := 0, slots := 0, locals := 0 } : Room) #[(.ref tu), (.long qq)] h0 (fun v h L => v = some (.long (qq * (1000000 : Int64))) ∧ Fr n0 L ∧ h = h0) := by
  refine own_body (g0 := fun m => mkF m 0 #[.val (.ref tu), .val (.long qq), .second, .unset, .unset, .unset, .unset] []) pn_7 (fun m => ef_7 m tu qq) ?_
  intro p e s m below meth c s₁ X0 hx hby hml hown hnm hZ e0 hret hlk
  have hml : c.maxLocals = 7 := hml
  have hown : s.vm.findClass "java/util/concurrent/TimeUnit" = some m.cls := hown
  have hnm : meth.name = "toNanos" := hnm
  have hret : meth.sig.returnType = (some .long) := hret
  have N0 := Fr.nil n0
  show OwnFin p e below s _ _ _ (s₁.setTop (mkF m 0 #[.val (.ref tu), .val (.long qq), .second, .unset, .unset, .unset, .unset] []))
  refine own_go (fun t_ k_ => XS.aloadN X0.here hx rfl (hb hby d7_0) rfl rfl k_) ?_
  show OwnFin p e below s _ _ _ (s₁.setTop (mkF m 1 #[.val (.ref tu), .val (.long qq), .second, .unset, .unset, .unset, .unset] [(.ref tu)]))
  obtain ⟨T1, X1, e1, st1⟩ := getF X0 hx hZ hown (host := "") (Or.inl (hw _ (List.mem_of_getElem? (i := 42) rfl))) Via.refl e0 F_scale (g := (mkF m 1 #[.val (.ref tu), .val (.long qq), .second, .unset, .unset, .unset, .unset] [(.ref tu)])) rfl rfl (hb hby d7_1)
  refine own_go st1 ?_
  show OwnFin p e below s _ _ _ (T1.setTop (mkF m 4 #[.val (.ref tu), .val (.long qq), .second, .unset, .unset, .unset, .unset] [(.long (1000000 : Int64))]))
  refine own_go (B := T1.setTop (mkF m 5 #[.val (.ref tu), .val (.long qq), .second, .unset, .unset, .unset, .unset] [(.long (1000000 : Int64)), (.long (1000000 : Int64))])) (fun t_ k_ => ?_) ?_
  · jvm_step X1.here [X1.here.top, hx, (hb hby d7_4), Value.category]
    exact k_
  show OwnFin p e below s _ _ _ (T1.setTop (mkF m 5 #[.val (.ref tu), .val (.long qq), .second, .unset, .unset, .unset, .unset] [(.long (1000000 : Int64)), (.long (1000000 : Int64))]))
  refine own_go (fun t_ k_ => XS.lstoreN X1.here hx rfl (hb hby d7_5) rfl (l' := #[.val (.ref tu), .val (.long qq), .second, .val (.long (1000000 : Int64)), .second, .unset, .unset]) rfl k_) ?_
  show OwnFin p e below s _ _ _ (T1.setTop (mkF m 6 #[.val (.ref tu), .val (.long qq), .second, .val (.long (1000000 : Int64)), .second, .unset, .unset] [(.long (1000000 : Int64))]))
  refine own_go (fun t_ k_ => XS.lconst X1.here hx rfl (hb hby d7_6) k_) ?_
  show OwnFin p e below s _ _ _ (T1.setTop (mkF m 7 #[.val (.ref tu), .val (.long qq), .second, .val (.long (1000000 : Int64)), .second, .unset, .unset] [(.long (1 : Int64)), (.long (1000000 : Int64))]))
  refine own_go (fun t_ k_ => XS.lcmp X1.here hx rfl (hb hby d7_7) rfl k_) ?_
  show OwnFin p e below s _ _ _ (T1.setTop (mkF m 8 #[.val (.ref tu), .val (.long qq), .second, .val (.long (1000000 : Int64)), .second, .unset, .unset] [(.int (lcmpW (1000000 : Int64) (1 : Int64)))]))
  refine own_go (fun t_ k_ => XS.ifYes X1.here hx rfl (pc0 := 8) (pc' := 13) rfl (hb hby d7_8) rfl ((if0 _ _).trans (feq (mt (lw_eq (1000000 : Int64) (1 : Int64)).mp (by decide))).2) (by decide) (by decide) k_) ?_
  show OwnFin p e below s _ _ _ (T1.setTop (mkF m 13 #[.val (.ref tu), .val (.long qq), .second, .val (.long (1000000 : Int64)), .second, .unset, .unset] []))
  refine own_go (fun t_ k_ => XS.lloadN X1.here hx rfl (hb hby d7_13) rfl k_) ?_
  show OwnFin p e below s _ _ _ (T1.setTop (mkF m 14 #[.val (.ref tu), .val (.long qq), .second, .val (.long (1000000 : Int64)), .second, .unset, .unset] [(.long qq)]))
  refine own_go (fun t_ k_ => XS.aloadN X1.here hx rfl (hb hby d7_14) rfl rfl k_) ?_
  show OwnFin p e below s _ _ _ (T1.setTop (mkF m 15 #[.val (.ref tu), .val (.long qq), .second, .val (.long (1000000 : Int64)), .second, .unset, .unset] [(.ref tu), (.long qq)]))
  obtain ⟨T2, X2, e2, st2⟩ := getF X1 hx hZ hown (host := "") (Or.inl (hw _ (List.mem_of_getElem? (i := 44) rfl))) Via.refl e1 F_maxNanos (g := (mkF m 15 #[.val (.ref tu), .val (.long qq), .second, .val (.long (1000000 : Int64)), .second, .unset, .unset] [(.ref tu), (.long qq)])) rfl rfl (hb hby d7_15)
  refine own_go st2 ?_
  show OwnFin p e below s _ _ _ (T2.setTop (mkF m 18 #[.val (.ref tu), .val (.long qq), .second, .val (.long (1000000 : Int64)), .second, .unset, .unset] [(.long (9223372036854 : Int64)), (.long qq)]))
  refine own_go (B := T2.setTop (mkF m 19 #[.val (.ref tu), .val (.long qq), .second, .val (.long (1000000 : Int64)), .second, .unset, .unset] [(.long (9223372036854 : Int64)), (.long (9223372036854 : Int64)), (.long qq)])) (fun t_ k_ => ?_) ?_
  · jvm_step X2.here [X2.here.top, hx, (hb hby d7_18), Value.category]
    exact k_
  show OwnFin p e below s _ _ _ (T2.setTop (mkF m 19 #[.val (.ref tu), .val (.long qq), .second, .val (.long (1000000 : Int64)), .second, .unset, .unset] [(.long (9223372036854 : Int64)), (.long (9223372036854 : Int64)), (.long qq)]))
  refine own_go (fun t_ k_ => XS.lstore X2.here hx rfl (hb hby d7_19) rfl (l' := #[.val (.ref tu), .val (.long qq), .second, .val (.long (1000000 : Int64)), .second, .val (.long (9223372036854 : Int64)), .second]) rfl k_) ?_
  show OwnFin p e below s _ _ _ (T2.setTop (mkF m 21 #[.val (.ref tu), .val (.long qq), .second, .val (.long (1000000 : Int64)), .second, .val (.long (9223372036854 : Int64)), .second] [(.long (9223372036854 : Int64)), (.long qq)]))
  refine own_go (fun t_ k_ => XS.lcmp X2.here hx rfl (hb hby d7_21) rfl k_) ?_
  show OwnFin p e below s _ _ _ (T2.setTop (mkF m 22 #[.val (.ref tu), .val (.long qq), .second, .val (.long (1000000 : Int64)), .second, .val (.long (9223372036854 : Int64)), .second] [(.int (lcmpW qq (9223372036854 : Int64)))]))
  have hc22 : ¬ ((9223372036854 : Int64) < qq) := h1
  refine own_go (fun t_ k_ => XS.ifYes X2.here hx rfl (pc0 := 22) (pc' := 29) rfl (hb hby d7_22) rfl ((if0 _ _).trans (flt (mt (lw_gt qq (9223372036854 : Int64)).mp hc22)).2.2.2) (by decide) (by decide) k_) ?_
  show OwnFin p e below s _ _ _ (T2.setTop (mkF m 29 #[.val (.ref tu), .val (.long qq), .second, .val (.long (1000000 : Int64)), .second, .val (.long (9223372036854 : Int64)), .second] []))
  refine own_go (fun t_ k_ => XS.lloadN X2.here hx rfl (hb hby d7_29) rfl k_) ?_
  show OwnFin p e below s _ _ _ (T2.setTop (mkF m 30 #[.val (.ref tu), .val (.long qq), .second, .val (.long (1000000 : Int64)), .second, .val (.long (9223372036854 : Int64)), .second] [(.long qq)]))
  refine own_go (fun t_ k_ => XS.lload X2.here hx rfl (hb hby d7_30) rfl k_) ?_
  show OwnFin p e below s _ _ _ (T2.setTop (mkF m 32 #[.val (.ref tu), .val (.long qq), .second, .val (.long (1000000 : Int64)), .second, .val (.long (9223372036854 : Int64)), .second] [(.long (9223372036854 : Int64)), (.long qq)]))
  refine own_go (fun t_ k_ => XS.lneg X2.here hx rfl (hb hby d7_32) rfl k_) ?_
  show OwnFin p e below s _ _ _ (T2.setTop (mkF m 33 #[.val (.ref tu), .val (.long qq), .second, .val (.long (1000000 : Int64)), .second, .val (.long (9223372036854 : Int64)), .second] [(.long ((-(9223372036854 : Int64)))), (.long qq)]))
  refine own_go (fun t_ k_ => XS.lcmp X2.here hx rfl (hb hby d7_33) rfl k_) ?_
  show OwnFin p e below s _ _ _ (T2.setTop (mkF m 34 #[.val (.ref tu), .val (.long qq), .second, .val (.long (1000000 : Int64)), .second, .val (.long (9223372036854 : Int64)), .second] [(.int (lcmpW qq ((-(9223372036854 : Int64)))))]))
  have hc34 : ¬ (qq < ((-(9223372036854 : Int64)))) := h2
  refine own_go (fun t_ k_ => XS.ifYes X2.here hx rfl (pc0 := 34) (pc' := 41) rfl (hb hby d7_34) rfl ((if0 _ _).trans (flt (mt (lw_lt qq ((-(9223372036854 : Int64)))).mp hc34)).2.1) (by decide) (by decide) k_) ?_
  show OwnFin p e below s _ _ _ (T2.setTop (mkF m 41 #[.val (.ref tu), .val (.long qq), .second, .val (.long (1000000 : Int64)), .second, .val (.long (9223372036854 : Int64)), .second] []))
  refine own_go (fun t_ k_ => XS.lloadN X2.here hx rfl (hb hby d7_41) rfl k_) ?_
  show OwnFin p e below s _ _ _ (T2.setTop (mkF m 42 #[.val (.ref tu), .val (.long qq), .second, .val (.long (1000000 : Int64)), .second, .val (.long (9223372036854 : Int64)), .second] [(.long qq)]))
  refine own_go (fun t_ k_ => XS.lloadN X2.here hx rfl (hb hby d7_42) rfl k_) ?_
  show OwnFin p e below s _ _ _ (T2.setTop (mkF m 43 #[.val (.ref tu), .val (.long qq), .second, .val (.long (1000000 : Int64)), .second, .val (.long (9223372036854 : Int64)), .second] [(.long (1000000 : Int64)), (.long qq)]))
  refine own_go (fun t_ k_ => XS.lmul X2.here hx rfl (hb hby d7_43) rfl k_) ?_
  show OwnFin p e below s _ _ _ (T2.setTop (mkF m 44 #[.val (.ref tu), .val (.long qq), .second, .val (.long (1000000 : Int64)), .second, .val (.long (9223372036854 : Int64)), .second] [(.long (qq * (1000000 : Int64)))]))
  refine own_ret X2 (v := some (.long (qq * (1000000 : Int64)))) hlk (fun hh => by rw [hret] at hh; cases hh) (fun fs hr => own_retJ X2 hx hret (hb hby d7_44) hr) (by decide) (by decide) ?_
  rw [e2]
  exact ⟨rfl, N0, rfl⟩
theorem d6_0 : decode prog_7_method_6_code 0 = .ok (.getstatic 60, 3) := by decide +kernel
theorem d6_3 : decode prog_7_method_6_code 3 = .ok (.aload_n 0, 1) := by decide +kernel
theorem d6_4 : decode prog_7_method_6_code 4 = .ok (.getfield 7, 3) := by decide +kernel
theorem d6_7 : decode prog_7_method_6_code 7 = .ok (.invokevirtual 66, 3) := by decide +kernel
theorem d6_10 : decode prog_7_method_6_code 10 = .ok (.lreturn, 1) := by decide +kernel
theorem pn_6 : plainFor (⟨"com/example/goby/goby/lock/Lease", "nanos", "()J"⟩ : MethodName) = true := plainFor_of_name (by first | (simp [plainName, overriddenIn]; done) | decide +kernel)
theorem pd_6_5 : parseMethodDescriptor "(J)J" = some ⟨[.long], some .long⟩ := by decide +kernel
theorem ef_6 (m : MethodId) (le : Addr) : entryFrame m #[(.ref le)] 1 = mkF m 0 #[.val (.ref le)] [] := by first | (simp [entryFrame, mkF, argsToLocals, Value.category]; done) | rfl
set_option maxRecDepth 65536 in
set_option maxHeartbeats 40000000 in
theorem rm6 (l : Launch) (Z : State) (a0 : Array Value) (hw : ∀ d ∈ tables_1, d.before a0 Z = true) (ws : List Jvm.Cond) (le : Addr) {tu : Addr} {qq : Int64} (h0 : Heap) (n0 : Nat) (Z0 : n0 ≤ h0.size) (S_tu : Sta Z h0 "java/util/concurrent/TimeUnit" "MILLISECONDS" "Ljava/util/concurrent/TimeUnit;" (.ref tu)) (E_tu : Exa Z h0 tu "java/util/concurrent/TimeUnit") (F_scale : Fld Z h0 tu "java/util/concurrent/TimeUnit" "scale" "J" (.long (1000000 : Int64))) (F_maxNanos : Fld Z h0 tu "java/util/concurrent/TimeUnit" "maxNanos" "J" (.long (9223372036854 : Int64))) (F_millis : Fld Z h0 le "com/example/goby/goby/lock/Lease" "millis" "J" (.long qq)) (hn1 : ¬ ((9223372036854 : Int64) < qq)) (hn2 : ¬ (qq < (-(9223372036854 : Int64)))) :
    OwnCtr l Z (⟨"com/example/goby/goby/lock/Lease", "nanos", "()J"⟩ : MethodName) ws prog_7_method_6_code 1 (some .long) ({ frames := 1, cells := 0, slots := 0, locals := 18 } : Room) #[(.ref le)] h0 (fun v h L => v = some (.long (qq * (1000000 : Int64))) ∧ Fr n0 L ∧ h = h0) := by
  refine own_body (g0 := fun m => mkF m 0 #[.val (.ref le)] []) pn_6 (fun m => ef_6 m le) ?_
  intro p e s m below meth c s₁ X0 hx hby hml hown hnm hZ e0 hret hlk
  have hml : c.maxLocals = 1 := hml
  have hown : s.vm.findClass "com/example/goby/goby/lock/Lease" = some m.cls := hown
  have hnm : meth.name = "nanos" := hnm
  have hret : meth.sig.returnType = (some .long) := hret
  have N0 := Fr.nil n0
  show OwnFin p e below s _ _ _ (s₁.setTop (mkF m 0 #[.val (.ref le)] []))
  obtain ⟨T1, X1, e1, st1⟩ := getS2 X0 hx hZ hown (host := "") (Or.inl (hw _ (List.mem_of_getElem? (i := 35) rfl))) Via.refl e0 S_tu (g := (mkF m 0 #[.val (.ref le)] [])) rfl (hb hby d6_0)
  refine own_go st1 ?_
  show OwnFin p e below s _ _ _ (T1.setTop (mkF m 3 #[.val (.ref le)] [(.ref tu)]))
  refine own_go (fun t_ k_ => XS.aloadN X1.here hx rfl (hb hby d6_3) rfl rfl k_) ?_
  show OwnFin p e below s _ _ _ (T1.setTop (mkF m 4 #[.val (.ref le)] [(.ref le), (.ref tu)]))
  obtain ⟨T2, X2, e2, st2⟩ := getF X1 hx hZ hown (host := "") (Or.inl (hw _ (List.mem_of_getElem? (i := 16) rfl))) Via.refl e1 F_millis (g := (mkF m 4 #[.val (.ref le)] [(.ref le), (.ref tu)])) rfl rfl (hb hby d6_4)
  refine own_go st2 ?_
  show OwnFin p e below s _ _ _ (T2.setTop (mkF m 7 #[.val (.ref le)] [(.long qq), (.ref tu)]))
  obtain ⟨v3, T3, L3, X3, hQ3, st3⟩ := own_callV X2 hx hZ (y := (⟨"java/util/concurrent/TimeUnit", "toNanos", "(J)J"⟩ : MethodName)) (z := (⟨"java/util/concurrent/TimeUnit", "toNanos", "(J)J"⟩ : MethodName)) hown (hw _ (List.mem_of_getElem? (i := 37) rfl)) (hw _ (List.mem_of_getElem? (i := 38) rfl)) (notFace_of_selects (args := #[]) (mvT hZ (hw _ (List.mem_of_getElem? (i := 40) rfl)))) (hw _ (List.mem_of_getElem? (i := 40) rfl)) (hw _ (List.mem_of_getElem? (i := 39) rfl)) (hw _ (List.mem_of_getElem? (i := 36) rfl)) (hw _ (List.mem_of_getElem? (i := 41) rfl)) (by decide) (W := 0) (rm7 l Z a0 hw [] tu qq h0 n0 Z0 F_scale F_maxNanos hn1 hn2) (by decide) (by decide) E_tu (g := (mkF m 7 #[.val (.ref le)] [(.long qq), (.ref tu)])) rfl (by rw [hml]; rfl) (argsL := [(.long qq)]) (rest := []) (lenOf pd_6_5 rfl) rfl (by show 2 * 0 + _ ≤ _; exact Nat.le_of_eq rfl) (hb hby d6_7) e2 rfl (by decide) (by decide)
  obtain ⟨rfl, Nq3, e3⟩ := hQ3
  have N3 := Fr.app N0 Nq3
  refine own_go st3 ?_
  show OwnFin p e below s _ _ _ (T3.setTop (mkF m 10 #[.val (.ref le)] [(.long (qq * (1000000 : Int64)))]))
  refine own_ret X3 (v := some (.long (qq * (1000000 : Int64)))) hlk (fun hh => by rw [hret] at hh; cases hh) (fun fs hr => own_retJ X3 hx hret (hb hby d6_10) hr) (by decide) (by decide) ?_
  rw [e3]
  exact ⟨rfl, N3, rfl⟩
theorem pn_0 : plainFor (⟨"com/example/goby/goby/lock/LeaseOfPinLaw", "law", "(J)Z"⟩ : MethodName) = true := plainFor_of_name (by first | (simp [plainName, overriddenIn]; done) | decide +kernel)
theorem pd_0_0 : parseMethodDescriptor "(J)Lcom/example/goby/goby/lock/Lease;" = some ⟨[.long], some (.object "com/example/goby/goby/lock/Lease")⟩ := by decide +kernel
theorem pd_0_3 : parseMethodDescriptor "()J" = some ⟨[], some .long⟩ := by decide +kernel
theorem pd_0_4 : parseMethodDescriptor "()Z" = some ⟨[], some .boolean⟩ := by decide +kernel
theorem ef_0 (m : MethodId) (xx : Int64) : entryFrame m #[(.long xx)] maxLocals = mkF m 0 #[.val (.long xx), .second, .unset, .unset, .unset] [] := by first | (simp [entryFrame, mkF, argsToLocals, Value.category, maxLocals]; done) | rfl
set_option maxRecDepth 65536 in
set_option maxHeartbeats 40000000 in
theorem rm0 (l : Launch) (Z : State) (a0 : Array Value) (hw : ∀ d ∈ tables_1, d.before a0 Z = true) (ws : List Jvm.Cond) (xx : Int64) (tu : Addr) (h0 : Heap) (n0 : Nat) (Z0 : n0 ≤ h0.size) (S_max : Sta Z h0 "com/example/goby/goby/lock/Lease" "MAX_MILLIS" "J" (.long (4611686018427 : Int64))) (S_tu : Sta Z h0 "java/util/concurrent/TimeUnit" "MILLISECONDS" "Ljava/util/concurrent/TimeUnit;" (.ref tu)) (E_tu : Exa Z h0 tu "java/util/concurrent/TimeUnit") (F_scale : Fld Z h0 tu "java/util/concurrent/TimeUnit" "scale" "J" (.long (1000000 : Int64))) (F_maxNanos : Fld Z h0 tu "java/util/concurrent/TimeUnit" "maxNanos" "J" (.long (9223372036854 : Int64))) :
    OwnCtr l Z x ws code maxLocals ret room_1 #[(.long xx)] h0 (fun v h L => v = some (.int 1) ∧ Fr n0 L) := by
  refine own_body (g0 := fun m => mkF m 0 #[.val (.long xx), .second, .unset, .unset, .unset] []) pn_0 (fun m => ef_0 m xx) ?_
  intro p e s m below meth c s₁ X0 hx hby hml hown hnm hZ e0 hret hlk
  have hml : c.maxLocals = 5 := hml
  have hown : s.vm.findClass "com/example/goby/goby/lock/LeaseOfPinLaw" = some m.cls := hown
  have hnm : meth.name = "law" := hnm
  have hret : meth.sig.returnType = (some .boolean) := hret
  have N0 := Fr.nil n0
  show OwnFin p e below s _ _ _ (s₁.setTop (mkF m 0 #[.val (.long xx), .second, .unset, .unset, .unset] []))
  obtain ⟨T1, X1, e1, st1⟩ := getS2 X0 hx hZ hown (host := "") (Or.inl (hw _ (List.mem_of_getElem? (i := 0) rfl))) Via.refl e0 S_max (g := (mkF m 0 #[.val (.long xx), .second, .unset, .unset, .unset] [])) rfl (hb hby at_0)
  refine own_go st1 ?_
  show OwnFin p e below s _ _ _ (T1.setTop (mkF m 3 #[.val (.long xx), .second, .unset, .unset, .unset] [(.long (4611686018427 : Int64))]))
  refine own_go (X1.ldc2Long hx hown (mvT hZ (hw _ (List.mem_of_getElem? (i := 3) rfl))) (g := (mkF m 3 #[.val (.long xx), .second, .unset, .unset, .unset] [(.long (4611686018427 : Int64))])) rfl (hb hby at_3)) ?_
  show OwnFin p e below s _ _ _ (T1.setTop (mkF m 6 #[.val (.long xx), .second, .unset, .unset, .unset] [(.long (4611686018427 : Int64)), (.long (4611686018427 : Int64))]))
  refine own_go (fun t_ k_ => XS.lcmp X1.here hx rfl (hb hby at_6) rfl k_) ?_
  show OwnFin p e below s _ _ _ (T1.setTop (mkF m 7 #[.val (.long xx), .second, .unset, .unset, .unset] [(.int (lcmpW (4611686018427 : Int64) (4611686018427 : Int64)))]))
  refine own_go (fun t_ k_ => XS.ifYes X1.here hx rfl (pc0 := 7) (pc' := 12) rfl (hb hby at_7) rfl ((if0 _ _).trans (teq ((lw_eq (4611686018427 : Int64) (4611686018427 : Int64)).mpr (by decide))).1) (by decide) (by decide) k_) ?_
  show OwnFin p e below s _ _ _ (T1.setTop (mkF m 12 #[.val (.long xx), .second, .unset, .unset, .unset] []))
  refine own_go (fun t_ k_ => XS.lloadN X1.here hx rfl (hb hby at_12) rfl k_) ?_
  show OwnFin p e below s _ _ _ (T1.setTop (mkF m 13 #[.val (.long xx), .second, .unset, .unset, .unset] [(.long xx)]))
  refine own_go (fun t_ k_ => XS.lconst X1.here hx rfl (hb hby at_13) k_) ?_
  show OwnFin p e below s _ _ _ (T1.setTop (mkF m 14 #[.val (.long xx), .second, .unset, .unset, .unset] [(.long (1 : Int64)), (.long xx)]))
  refine own_go (fun t_ k_ => XS.lcmp X1.here hx rfl (hb hby at_14) rfl k_) ?_
  show OwnFin p e below s _ _ _ (T1.setTop (mkF m 15 #[.val (.long xx), .second, .unset, .unset, .unset] [(.int (lcmpW xx (1 : Int64)))]))
  by_cases hc15 : xx < (1 : Int64)
  · refine own_go (fun t_ k_ => XS.ifYes X1.here hx rfl (pc0 := 15) (pc' := 31) rfl (hb hby at_15) rfl ((if0 _ _).trans (tlt ((lw_lt xx (1 : Int64)).mpr hc15)).1) (by decide) (by decide) k_) ?_
    show OwnFin p e below s _ _ _ (T1.setTop (mkF m 31 #[.val (.long xx), .second, .unset, .unset, .unset] []))
    refine own_go (fun t_ k_ => XS.lloadN X1.here hx rfl (hb hby at_31) rfl k_) ?_
    show OwnFin p e below s _ _ _ (T1.setTop (mkF m 32 #[.val (.long xx), .second, .unset, .unset, .unset] [(.long xx)]))
    refine own_go (X1.ldc2Long hx hown (mvT hZ (hw _ (List.mem_of_getElem? (i := 47) rfl))) (g := (mkF m 32 #[.val (.long xx), .second, .unset, .unset, .unset] [(.long xx)])) rfl (hb hby at_32)) ?_
    show OwnFin p e below s _ _ _ (T1.setTop (mkF m 35 #[.val (.long xx), .second, .unset, .unset, .unset] [(.long (9223372036854775807 : Int64)), (.long xx)]))
    refine own_go (fun t_ k_ => XS.land X1.here hx rfl (hb hby at_35) rfl k_) ?_
    show OwnFin p e below s _ _ _ (T1.setTop (mkF m 36 #[.val (.long xx), .second, .unset, .unset, .unset] [(.long (xx &&& (9223372036854775807 : Int64)))]))
    refine own_go (X1.ldc2Long hx hown (mvT hZ (hw _ (List.mem_of_getElem? (i := 3) rfl))) (g := (mkF m 36 #[.val (.long xx), .second, .unset, .unset, .unset] [(.long (xx &&& (9223372036854775807 : Int64)))])) rfl (hb hby at_36)) ?_
    show OwnFin p e below s _ _ _ (T1.setTop (mkF m 39 #[.val (.long xx), .second, .unset, .unset, .unset] [(.long (4611686018427 : Int64)), (.long (xx &&& (9223372036854775807 : Int64)))]))
    refine own_go (fun t_ k_ => XS.lrem X1.here hx rfl (hb hby at_39) rfl (by decide) k_) ?_
    show OwnFin p e below s _ _ _ (T1.setTop (mkF m 40 #[.val (.long xx), .second, .unset, .unset, .unset] [(.long ((xx &&& (9223372036854775807 : Int64)) - ((xx &&& (9223372036854775807 : Int64)) / (4611686018427 : Int64)) * (4611686018427 : Int64)))]))
    refine own_go (fun t_ k_ => XS.lconst X1.here hx rfl (hb hby at_40) k_) ?_
    show OwnFin p e below s _ _ _ (T1.setTop (mkF m 41 #[.val (.long xx), .second, .unset, .unset, .unset] [(.long (1 : Int64)), (.long ((xx &&& (9223372036854775807 : Int64)) - ((xx &&& (9223372036854775807 : Int64)) / (4611686018427 : Int64)) * (4611686018427 : Int64)))]))
    refine own_go (fun t_ k_ => XS.ladd X1.here hx rfl (hb hby at_41) rfl k_) ?_
    show OwnFin p e below s _ _ _ (T1.setTop (mkF m 42 #[.val (.long xx), .second, .unset, .unset, .unset] [(.long (((xx &&& (9223372036854775807 : Int64)) - ((xx &&& (9223372036854775807 : Int64)) / (4611686018427 : Int64)) * (4611686018427 : Int64)) + (1 : Int64)))]))
    refine own_go (fun t_ k_ => XS.lstoreN X1.here hx rfl (hb hby at_42) rfl (l' := #[.val (.long xx), .second, .val (.long (((xx &&& (9223372036854775807 : Int64)) - ((xx &&& (9223372036854775807 : Int64)) / (4611686018427 : Int64)) * (4611686018427 : Int64)) + (1 : Int64))), .second, .unset]) rfl k_) ?_
    show OwnFin p e below s _ _ _ (T1.setTop (mkF m 43 #[.val (.long xx), .second, .val (.long (((xx &&& (9223372036854775807 : Int64)) - ((xx &&& (9223372036854775807 : Int64)) / (4611686018427 : Int64)) * (4611686018427 : Int64)) + (1 : Int64))), .second, .unset] []))
    have hm : 1 ≤ (((xx &&& (9223372036854775807 : Int64)) - ((xx &&& (9223372036854775807 : Int64)) / (4611686018427 : Int64)) * (4611686018427 : Int64)) + (1 : Int64)).toInt ∧ (((xx &&& (9223372036854775807 : Int64)) - ((xx &&& (9223372036854775807 : Int64)) / (4611686018427 : Int64)) * (4611686018427 : Int64)) + (1 : Int64)).toInt ≤ 4611686018427 := own_mod xx
    generalize (((xx &&& (9223372036854775807 : Int64)) - ((xx &&& (9223372036854775807 : Int64)) / (4611686018427 : Int64)) * (4611686018427 : Int64)) + (1 : Int64)) = mm at hm ⊢
    show OwnFin p e below s _ _ _ (T1.setTop (mkF m 43 #[.val (.long xx), .second, .val (.long mm), .second, .unset] []))
    have hlo : ¬ (mm < (1 : Int64)) := by rw [Int64.lt_iff_toInt_lt, own_m1]; omega
    have hhi : ¬ ((4611686018427 : Int64) < mm) := by rw [Int64.lt_iff_toInt_lt, own_mx]; omega
    have hn1 : ¬ ((9223372036854 : Int64) < mm) := by rw [Int64.lt_iff_toInt_lt, own_mn]; omega
    have hn2 : ¬ (mm < (-(9223372036854 : Int64))) := by rw [Int64.lt_iff_toInt_lt, own_neg]; omega
    refine own_go (fun t_ k_ => XS.lloadN X1.here hx rfl (hb hby at_43) rfl k_) ?_
    show OwnFin p e below s _ _ _ (T1.setTop (mkF m 44 #[.val (.long xx), .second, .val (.long mm), .second, .unset] [(.long mm)]))
    obtain ⟨v2, T2, L2, X2, hQ2, st2⟩ := own_callS X1 hx hZ (y := (⟨"com/example/goby/goby/lock/Lease", "of", "(J)Lcom/example/goby/goby/lock/Lease;"⟩ : MethodName)) hown (hw _ (List.mem_of_getElem? (i := 4) rfl)) (hw _ (List.mem_of_getElem? (i := 5) rfl)) (hw _ (List.mem_of_getElem? (i := 1) rfl)) (hw _ (List.mem_of_getElem? (i := 6) rfl)) (by decide) (W := 0) (rm1 l Z a0 hw [] mm h0 n0 Z0 S_max hlo hhi) (by decide) (by decide) (g := (mkF m 44 #[.val (.long xx), .second, .val (.long mm), .second, .unset] [(.long mm)])) rfl (by rw [hml]; rfl) (argsL := [(.long mm)]) (rest := []) (lenOf pd_0_0 rfl) rfl (by show 2 * 0 + _ ≤ _; exact Nat.le_of_eq rfl) (hb hby at_44) e1 rfl (by decide) (by decide)
    obtain ⟨r2, rfl, Nq2, Kq2, sq2, Eq2, Fq2_0, Fq2_1⟩ := hQ2
    have N2 := Fr.app N0 Nq2
    have g_r2 : n0 ≤ r2 := Nat.le_trans Z0 sq2
    have ne_tu_r2 : tu ≠ r2 := Nat.ne_of_lt (Nat.lt_of_lt_of_le E_tu.lt sq2)
    have S_max_2 := own_stakeep S_max Kq2
    have S_tu_2 := own_stakeep S_tu Kq2
    have E_tu_2 := E_tu.keep Kq2
    have F_scale_2 := F_scale.keep Kq2 nin0
    have F_maxNanos_2 := F_maxNanos.keep Kq2 nin0
    have Z2 : n0 ≤ T2.heap.size := Nat.le_trans Z0 Kq2.1
    refine own_go st2 ?_
    show OwnFin p e below s _ _ _ (T2.setTop (mkF m 47 #[.val (.long xx), .second, .val (.long mm), .second, .unset] [(.ref r2)]))
    refine own_go (fun t_ k_ => XS.astore X2.here hx rfl (hb hby at_47) rfl rfl (l' := #[.val (.long xx), .second, .val (.long mm), .second, .val (.ref r2)]) rfl k_) ?_
    show OwnFin p e below s _ _ _ (T2.setTop (mkF m 49 #[.val (.long xx), .second, .val (.long mm), .second, .val (.ref r2)] []))
    refine own_go (fun t_ k_ => XS.aload X2.here hx rfl (hb hby at_49) rfl rfl k_) ?_
    show OwnFin p e below s _ _ _ (T2.setTop (mkF m 51 #[.val (.long xx), .second, .val (.long mm), .second, .val (.ref r2)] [(.ref r2)]))
    refine own_go (fun t_ k_ => XS.ifnonnullYes X2.here hx rfl (pc0 := 51) (pc' := 56) rfl (hb hby at_51) rfl (by decide) (by decide) k_) ?_
    show OwnFin p e below s _ _ _ (T2.setTop (mkF m 56 #[.val (.long xx), .second, .val (.long mm), .second, .val (.ref r2)] []))
    refine own_go (fun t_ k_ => XS.aload X2.here hx rfl (hb hby at_56) rfl rfl k_) ?_
    show OwnFin p e below s _ _ _ (T2.setTop (mkF m 58 #[.val (.long xx), .second, .val (.long mm), .second, .val (.ref r2)] [(.ref r2)]))
    obtain ⟨v3, T3, L3, X3, hQ3, st3⟩ := own_callV X2 hx hZ (y := (⟨"com/example/goby/goby/lock/Lease", "millis", "()J"⟩ : MethodName)) (z := (⟨"com/example/goby/goby/lock/Lease", "millis", "()J"⟩ : MethodName)) hown (hw _ (List.mem_of_getElem? (i := 20) rfl)) (hw _ (List.mem_of_getElem? (i := 21) rfl)) (notFace_of_selects (args := #[]) (mvT hZ (hw _ (List.mem_of_getElem? (i := 23) rfl)))) (hw _ (List.mem_of_getElem? (i := 23) rfl)) (hw _ (List.mem_of_getElem? (i := 22) rfl)) (hw _ (List.mem_of_getElem? (i := 1) rfl)) (hw _ (List.mem_of_getElem? (i := 24) rfl)) (by decide) (W := 0) (rm4 l Z a0 hw [] r2 T2.heap n0 Z2 Fq2_0) (by decide) (by decide) Eq2 (g := (mkF m 58 #[.val (.long xx), .second, .val (.long mm), .second, .val (.ref r2)] [(.ref r2)])) rfl (by rw [hml]; rfl) (argsL := []) (rest := []) (lenOf pd_0_3 rfl) rfl (by show 2 * 0 + _ ≤ _; exact Nat.le_of_eq rfl) (hb hby at_58) rfl rfl (by decide) (by decide)
    obtain ⟨rfl, Nq3, e3⟩ := hQ3
    have N3 := Fr.app N2 Nq3
    refine own_go st3 ?_
    show OwnFin p e below s _ _ _ (T3.setTop (mkF m 61 #[.val (.long xx), .second, .val (.long mm), .second, .val (.ref r2)] [(.long mm)]))
    refine own_go (fun t_ k_ => XS.lloadN X3.here hx rfl (hb hby at_61) rfl k_) ?_
    show OwnFin p e below s _ _ _ (T3.setTop (mkF m 62 #[.val (.long xx), .second, .val (.long mm), .second, .val (.ref r2)] [(.long mm), (.long mm)]))
    refine own_go (fun t_ k_ => XS.lcmp X3.here hx rfl (hb hby at_62) rfl k_) ?_
    show OwnFin p e below s _ _ _ (T3.setTop (mkF m 63 #[.val (.long xx), .second, .val (.long mm), .second, .val (.ref r2)] [(.int (lcmpW mm mm))]))
    refine own_go (fun t_ k_ => XS.ifYes X3.here hx rfl (pc0 := 63) (pc' := 68) rfl (hb hby at_63) rfl ((if0 _ _).trans (teq ((lw_eq mm mm).mpr rfl)).1) (by decide) (by decide) k_) ?_
    show OwnFin p e below s _ _ _ (T3.setTop (mkF m 68 #[.val (.long xx), .second, .val (.long mm), .second, .val (.ref r2)] []))
    refine own_go (fun t_ k_ => XS.aload X3.here hx rfl (hb hby at_68) rfl rfl k_) ?_
    show OwnFin p e below s _ _ _ (T3.setTop (mkF m 70 #[.val (.long xx), .second, .val (.long mm), .second, .val (.ref r2)] [(.ref r2)]))
    obtain ⟨v4, T4, L4, X4, hQ4, st4⟩ := own_callV X3 hx hZ (y := (⟨"com/example/goby/goby/lock/Lease", "isRenewed", "()Z"⟩ : MethodName)) (z := (⟨"com/example/goby/goby/lock/Lease", "isRenewed", "()Z"⟩ : MethodName)) hown (hw _ (List.mem_of_getElem? (i := 25) rfl)) (hw _ (List.mem_of_getElem? (i := 26) rfl)) (notFace_of_selects (args := #[]) (mvT hZ (hw _ (List.mem_of_getElem? (i := 28) rfl)))) (hw _ (List.mem_of_getElem? (i := 28) rfl)) (hw _ (List.mem_of_getElem? (i := 27) rfl)) (hw _ (List.mem_of_getElem? (i := 1) rfl)) (hw _ (List.mem_of_getElem? (i := 29) rfl)) (by decide) (W := 0) (rm5 l Z a0 hw [] r2 T2.heap n0 Z2 Fq2_1) (by decide) (by decide) Eq2 (g := (mkF m 70 #[.val (.long xx), .second, .val (.long mm), .second, .val (.ref r2)] [(.ref r2)])) rfl (by rw [hml]; rfl) (argsL := []) (rest := []) (lenOf pd_0_4 rfl) rfl (by show 2 * 0 + _ ≤ _; exact Nat.le_of_eq rfl) (hb hby at_70) e3 rfl (by decide) (by decide)
    obtain ⟨rfl, Nq4, e4⟩ := hQ4
    have N4 := Fr.app N3 Nq4
    refine own_go st4 ?_
    show OwnFin p e below s _ _ _ (T4.setTop (mkF m 73 #[.val (.long xx), .second, .val (.long mm), .second, .val (.ref r2)] [(.int (0 : Int32))]))
    refine own_go (fun t_ k_ => XS.ifYes X4.here hx rfl (pc0 := 73) (pc' := 78) rfl (hb hby at_73) rfl ((if0 _ _).trans (teq (by decide)).1) (by decide) (by decide) k_) ?_
    show OwnFin p e below s _ _ _ (T4.setTop (mkF m 78 #[.val (.long xx), .second, .val (.long mm), .second, .val (.ref r2)] []))
    refine own_go (fun t_ k_ => XS.aload X4.here hx rfl (hb hby at_78) rfl rfl k_) ?_
    show OwnFin p e below s _ _ _ (T4.setTop (mkF m 80 #[.val (.long xx), .second, .val (.long mm), .second, .val (.ref r2)] [(.ref r2)]))
    obtain ⟨v5, T5, L5, X5, hQ5, st5⟩ := own_callV X4 hx hZ (y := (⟨"com/example/goby/goby/lock/Lease", "nanos", "()J"⟩ : MethodName)) (z := (⟨"com/example/goby/goby/lock/Lease", "nanos", "()J"⟩ : MethodName)) hown (hw _ (List.mem_of_getElem? (i := 30) rfl)) (hw _ (List.mem_of_getElem? (i := 31) rfl)) (notFace_of_selects (args := #[]) (mvT hZ (hw _ (List.mem_of_getElem? (i := 33) rfl)))) (hw _ (List.mem_of_getElem? (i := 33) rfl)) (hw _ (List.mem_of_getElem? (i := 32) rfl)) (hw _ (List.mem_of_getElem? (i := 1) rfl)) (hw _ (List.mem_of_getElem? (i := 34) rfl)) (by decide) (W := 0) (rm6 l Z a0 hw [] r2 T2.heap n0 Z2 S_tu_2 E_tu_2 F_scale_2 F_maxNanos_2 Fq2_0 hn1 hn2) (by decide) (by decide) Eq2 (g := (mkF m 80 #[.val (.long xx), .second, .val (.long mm), .second, .val (.ref r2)] [(.ref r2)])) rfl (by rw [hml]; rfl) (argsL := []) (rest := []) (lenOf pd_0_3 rfl) rfl (by show 2 * 0 + _ ≤ _; exact Nat.le_of_eq rfl) (hb hby at_80) e4 rfl (by decide) (by decide)
    obtain ⟨rfl, Nq5, e5⟩ := hQ5
    have N5 := Fr.app N4 Nq5
    refine own_go st5 ?_
    show OwnFin p e below s _ _ _ (T5.setTop (mkF m 83 #[.val (.long xx), .second, .val (.long mm), .second, .val (.ref r2)] [(.long (mm * (1000000 : Int64)))]))
    refine own_go (fun t_ k_ => XS.lloadN X5.here hx rfl (hb hby at_83) rfl k_) ?_
    show OwnFin p e below s _ _ _ (T5.setTop (mkF m 84 #[.val (.long xx), .second, .val (.long mm), .second, .val (.ref r2)] [(.long mm), (.long (mm * (1000000 : Int64)))]))
    refine own_go (X5.ldc2Long hx hown (mvT hZ (hw _ (List.mem_of_getElem? (i := 46) rfl))) (g := (mkF m 84 #[.val (.long xx), .second, .val (.long mm), .second, .val (.ref r2)] [(.long mm), (.long (mm * (1000000 : Int64)))])) rfl (hb hby at_84)) ?_
    show OwnFin p e below s _ _ _ (T5.setTop (mkF m 87 #[.val (.long xx), .second, .val (.long mm), .second, .val (.ref r2)] [(.long (1000000 : Int64)), (.long mm), (.long (mm * (1000000 : Int64)))]))
    refine own_go (fun t_ k_ => XS.lmul X5.here hx rfl (hb hby at_87) rfl k_) ?_
    show OwnFin p e below s _ _ _ (T5.setTop (mkF m 88 #[.val (.long xx), .second, .val (.long mm), .second, .val (.ref r2)] [(.long (mm * (1000000 : Int64))), (.long (mm * (1000000 : Int64)))]))
    refine own_go (fun t_ k_ => XS.lcmp X5.here hx rfl (hb hby at_88) rfl k_) ?_
    show OwnFin p e below s _ _ _ (T5.setTop (mkF m 89 #[.val (.long xx), .second, .val (.long mm), .second, .val (.ref r2)] [(.int (lcmpW (mm * (1000000 : Int64)) (mm * (1000000 : Int64))))]))
    refine own_go (fun t_ k_ => XS.ifNo X5.here hx rfl (hb hby at_89) rfl ((if0 _ _).trans (teq ((lw_eq (mm * (1000000 : Int64)) (mm * (1000000 : Int64))).mpr rfl)).2) k_) ?_
    show OwnFin p e below s _ _ _ (T5.setTop (mkF m 92 #[.val (.long xx), .second, .val (.long mm), .second, .val (.ref r2)] []))
    refine own_go (fun t_ k_ => XS.iconst X5.here hx rfl (hb hby at_92) k_) ?_
    show OwnFin p e below s _ _ _ (T5.setTop (mkF m 93 #[.val (.long xx), .second, .val (.long mm), .second, .val (.ref r2)] [(.int (1 : Int32))]))
    refine own_go (fun t_ k_ => XS.goto X5.here hx rfl (pc0 := 93) (pc' := 97) rfl (hb hby at_93) (by decide) (by decide) k_) ?_
    show OwnFin p e below s _ _ _ (T5.setTop (mkF m 97 #[.val (.long xx), .second, .val (.long mm), .second, .val (.ref r2)] [(.int (1 : Int32))]))
    refine own_ret X5 (v := some (.int (1 : Int32))) hlk (fun hh => by rw [hret] at hh; cases hh) (fun fs hr => retN X5 hx (t := .boolean) hret (by simp) (hb hby at_97) hr) (by decide) (by decide) ?_
    exact ⟨rfl, N5⟩
  · refine own_go (fun t_ k_ => XS.ifNo X1.here hx rfl (hb hby at_15) rfl ((if0 _ _).trans (flt (mt (lw_lt xx (1 : Int64)).mp hc15)).1) k_) ?_
    show OwnFin p e below s _ _ _ (T1.setTop (mkF m 18 #[.val (.long xx), .second, .unset, .unset, .unset] []))
    refine own_go (fun t_ k_ => XS.lloadN X1.here hx rfl (hb hby at_18) rfl k_) ?_
    show OwnFin p e below s _ _ _ (T1.setTop (mkF m 19 #[.val (.long xx), .second, .unset, .unset, .unset] [(.long xx)]))
    refine own_go (X1.ldc2Long hx hown (mvT hZ (hw _ (List.mem_of_getElem? (i := 3) rfl))) (g := (mkF m 19 #[.val (.long xx), .second, .unset, .unset, .unset] [(.long xx)])) rfl (hb hby at_19)) ?_
    show OwnFin p e below s _ _ _ (T1.setTop (mkF m 22 #[.val (.long xx), .second, .unset, .unset, .unset] [(.long (4611686018427 : Int64)), (.long xx)]))
    refine own_go (fun t_ k_ => XS.lcmp X1.here hx rfl (hb hby at_22) rfl k_) ?_
    show OwnFin p e below s _ _ _ (T1.setTop (mkF m 23 #[.val (.long xx), .second, .unset, .unset, .unset] [(.int (lcmpW xx (4611686018427 : Int64)))]))
    by_cases hc23 : (4611686018427 : Int64) < xx
    · refine own_go (fun t_ k_ => XS.ifYes X1.here hx rfl (pc0 := 23) (pc' := 31) rfl (hb hby at_23) rfl ((if0 _ _).trans (tlt ((lw_gt xx (4611686018427 : Int64)).mpr hc23)).2.2.1) (by decide) (by decide) k_) ?_
      show OwnFin p e below s _ _ _ (T1.setTop (mkF m 31 #[.val (.long xx), .second, .unset, .unset, .unset] []))
      refine own_go (fun t_ k_ => XS.lloadN X1.here hx rfl (hb hby at_31) rfl k_) ?_
      show OwnFin p e below s _ _ _ (T1.setTop (mkF m 32 #[.val (.long xx), .second, .unset, .unset, .unset] [(.long xx)]))
      refine own_go (X1.ldc2Long hx hown (mvT hZ (hw _ (List.mem_of_getElem? (i := 47) rfl))) (g := (mkF m 32 #[.val (.long xx), .second, .unset, .unset, .unset] [(.long xx)])) rfl (hb hby at_32)) ?_
      show OwnFin p e below s _ _ _ (T1.setTop (mkF m 35 #[.val (.long xx), .second, .unset, .unset, .unset] [(.long (9223372036854775807 : Int64)), (.long xx)]))
      refine own_go (fun t_ k_ => XS.land X1.here hx rfl (hb hby at_35) rfl k_) ?_
      show OwnFin p e below s _ _ _ (T1.setTop (mkF m 36 #[.val (.long xx), .second, .unset, .unset, .unset] [(.long (xx &&& (9223372036854775807 : Int64)))]))
      refine own_go (X1.ldc2Long hx hown (mvT hZ (hw _ (List.mem_of_getElem? (i := 3) rfl))) (g := (mkF m 36 #[.val (.long xx), .second, .unset, .unset, .unset] [(.long (xx &&& (9223372036854775807 : Int64)))])) rfl (hb hby at_36)) ?_
      show OwnFin p e below s _ _ _ (T1.setTop (mkF m 39 #[.val (.long xx), .second, .unset, .unset, .unset] [(.long (4611686018427 : Int64)), (.long (xx &&& (9223372036854775807 : Int64)))]))
      refine own_go (fun t_ k_ => XS.lrem X1.here hx rfl (hb hby at_39) rfl (by decide) k_) ?_
      show OwnFin p e below s _ _ _ (T1.setTop (mkF m 40 #[.val (.long xx), .second, .unset, .unset, .unset] [(.long ((xx &&& (9223372036854775807 : Int64)) - ((xx &&& (9223372036854775807 : Int64)) / (4611686018427 : Int64)) * (4611686018427 : Int64)))]))
      refine own_go (fun t_ k_ => XS.lconst X1.here hx rfl (hb hby at_40) k_) ?_
      show OwnFin p e below s _ _ _ (T1.setTop (mkF m 41 #[.val (.long xx), .second, .unset, .unset, .unset] [(.long (1 : Int64)), (.long ((xx &&& (9223372036854775807 : Int64)) - ((xx &&& (9223372036854775807 : Int64)) / (4611686018427 : Int64)) * (4611686018427 : Int64)))]))
      refine own_go (fun t_ k_ => XS.ladd X1.here hx rfl (hb hby at_41) rfl k_) ?_
      show OwnFin p e below s _ _ _ (T1.setTop (mkF m 42 #[.val (.long xx), .second, .unset, .unset, .unset] [(.long (((xx &&& (9223372036854775807 : Int64)) - ((xx &&& (9223372036854775807 : Int64)) / (4611686018427 : Int64)) * (4611686018427 : Int64)) + (1 : Int64)))]))
      refine own_go (fun t_ k_ => XS.lstoreN X1.here hx rfl (hb hby at_42) rfl (l' := #[.val (.long xx), .second, .val (.long (((xx &&& (9223372036854775807 : Int64)) - ((xx &&& (9223372036854775807 : Int64)) / (4611686018427 : Int64)) * (4611686018427 : Int64)) + (1 : Int64))), .second, .unset]) rfl k_) ?_
      show OwnFin p e below s _ _ _ (T1.setTop (mkF m 43 #[.val (.long xx), .second, .val (.long (((xx &&& (9223372036854775807 : Int64)) - ((xx &&& (9223372036854775807 : Int64)) / (4611686018427 : Int64)) * (4611686018427 : Int64)) + (1 : Int64))), .second, .unset] []))
      have hm : 1 ≤ (((xx &&& (9223372036854775807 : Int64)) - ((xx &&& (9223372036854775807 : Int64)) / (4611686018427 : Int64)) * (4611686018427 : Int64)) + (1 : Int64)).toInt ∧ (((xx &&& (9223372036854775807 : Int64)) - ((xx &&& (9223372036854775807 : Int64)) / (4611686018427 : Int64)) * (4611686018427 : Int64)) + (1 : Int64)).toInt ≤ 4611686018427 := own_mod xx
      generalize (((xx &&& (9223372036854775807 : Int64)) - ((xx &&& (9223372036854775807 : Int64)) / (4611686018427 : Int64)) * (4611686018427 : Int64)) + (1 : Int64)) = mm at hm ⊢
      show OwnFin p e below s _ _ _ (T1.setTop (mkF m 43 #[.val (.long xx), .second, .val (.long mm), .second, .unset] []))
      have hlo : ¬ (mm < (1 : Int64)) := by rw [Int64.lt_iff_toInt_lt, own_m1]; omega
      have hhi : ¬ ((4611686018427 : Int64) < mm) := by rw [Int64.lt_iff_toInt_lt, own_mx]; omega
      have hn1 : ¬ ((9223372036854 : Int64) < mm) := by rw [Int64.lt_iff_toInt_lt, own_mn]; omega
      have hn2 : ¬ (mm < (-(9223372036854 : Int64))) := by rw [Int64.lt_iff_toInt_lt, own_neg]; omega
      refine own_go (fun t_ k_ => XS.lloadN X1.here hx rfl (hb hby at_43) rfl k_) ?_
      show OwnFin p e below s _ _ _ (T1.setTop (mkF m 44 #[.val (.long xx), .second, .val (.long mm), .second, .unset] [(.long mm)]))
      obtain ⟨v6, T6, L6, X6, hQ6, st6⟩ := own_callS X1 hx hZ (y := (⟨"com/example/goby/goby/lock/Lease", "of", "(J)Lcom/example/goby/goby/lock/Lease;"⟩ : MethodName)) hown (hw _ (List.mem_of_getElem? (i := 4) rfl)) (hw _ (List.mem_of_getElem? (i := 5) rfl)) (hw _ (List.mem_of_getElem? (i := 1) rfl)) (hw _ (List.mem_of_getElem? (i := 6) rfl)) (by decide) (W := 0) (rm1 l Z a0 hw [] mm h0 n0 Z0 S_max hlo hhi) (by decide) (by decide) (g := (mkF m 44 #[.val (.long xx), .second, .val (.long mm), .second, .unset] [(.long mm)])) rfl (by rw [hml]; rfl) (argsL := [(.long mm)]) (rest := []) (lenOf pd_0_0 rfl) rfl (by show 2 * 0 + _ ≤ _; exact Nat.le_of_eq rfl) (hb hby at_44) e1 rfl (by decide) (by decide)
      obtain ⟨r6, rfl, Nq6, Kq6, sq6, Eq6, Fq6_0, Fq6_1⟩ := hQ6
      have N6 := Fr.app N0 Nq6
      have g_r6 : n0 ≤ r6 := Nat.le_trans Z0 sq6
      have ne_tu_r6 : tu ≠ r6 := Nat.ne_of_lt (Nat.lt_of_lt_of_le E_tu.lt sq6)
      have S_max_6 := own_stakeep S_max Kq6
      have S_tu_6 := own_stakeep S_tu Kq6
      have E_tu_6 := E_tu.keep Kq6
      have F_scale_6 := F_scale.keep Kq6 nin0
      have F_maxNanos_6 := F_maxNanos.keep Kq6 nin0
      have Z6 : n0 ≤ T6.heap.size := Nat.le_trans Z0 Kq6.1
      refine own_go st6 ?_
      show OwnFin p e below s _ _ _ (T6.setTop (mkF m 47 #[.val (.long xx), .second, .val (.long mm), .second, .unset] [(.ref r6)]))
      refine own_go (fun t_ k_ => XS.astore X6.here hx rfl (hb hby at_47) rfl rfl (l' := #[.val (.long xx), .second, .val (.long mm), .second, .val (.ref r6)]) rfl k_) ?_
      show OwnFin p e below s _ _ _ (T6.setTop (mkF m 49 #[.val (.long xx), .second, .val (.long mm), .second, .val (.ref r6)] []))
      refine own_go (fun t_ k_ => XS.aload X6.here hx rfl (hb hby at_49) rfl rfl k_) ?_
      show OwnFin p e below s _ _ _ (T6.setTop (mkF m 51 #[.val (.long xx), .second, .val (.long mm), .second, .val (.ref r6)] [(.ref r6)]))
      refine own_go (fun t_ k_ => XS.ifnonnullYes X6.here hx rfl (pc0 := 51) (pc' := 56) rfl (hb hby at_51) rfl (by decide) (by decide) k_) ?_
      show OwnFin p e below s _ _ _ (T6.setTop (mkF m 56 #[.val (.long xx), .second, .val (.long mm), .second, .val (.ref r6)] []))
      refine own_go (fun t_ k_ => XS.aload X6.here hx rfl (hb hby at_56) rfl rfl k_) ?_
      show OwnFin p e below s _ _ _ (T6.setTop (mkF m 58 #[.val (.long xx), .second, .val (.long mm), .second, .val (.ref r6)] [(.ref r6)]))
      obtain ⟨v7, T7, L7, X7, hQ7, st7⟩ := own_callV X6 hx hZ (y := (⟨"com/example/goby/goby/lock/Lease", "millis", "()J"⟩ : MethodName)) (z := (⟨"com/example/goby/goby/lock/Lease", "millis", "()J"⟩ : MethodName)) hown (hw _ (List.mem_of_getElem? (i := 20) rfl)) (hw _ (List.mem_of_getElem? (i := 21) rfl)) (notFace_of_selects (args := #[]) (mvT hZ (hw _ (List.mem_of_getElem? (i := 23) rfl)))) (hw _ (List.mem_of_getElem? (i := 23) rfl)) (hw _ (List.mem_of_getElem? (i := 22) rfl)) (hw _ (List.mem_of_getElem? (i := 1) rfl)) (hw _ (List.mem_of_getElem? (i := 24) rfl)) (by decide) (W := 0) (rm4 l Z a0 hw [] r6 T6.heap n0 Z6 Fq6_0) (by decide) (by decide) Eq6 (g := (mkF m 58 #[.val (.long xx), .second, .val (.long mm), .second, .val (.ref r6)] [(.ref r6)])) rfl (by rw [hml]; rfl) (argsL := []) (rest := []) (lenOf pd_0_3 rfl) rfl (by show 2 * 0 + _ ≤ _; exact Nat.le_of_eq rfl) (hb hby at_58) rfl rfl (by decide) (by decide)
      obtain ⟨rfl, Nq7, e7⟩ := hQ7
      have N7 := Fr.app N6 Nq7
      refine own_go st7 ?_
      show OwnFin p e below s _ _ _ (T7.setTop (mkF m 61 #[.val (.long xx), .second, .val (.long mm), .second, .val (.ref r6)] [(.long mm)]))
      refine own_go (fun t_ k_ => XS.lloadN X7.here hx rfl (hb hby at_61) rfl k_) ?_
      show OwnFin p e below s _ _ _ (T7.setTop (mkF m 62 #[.val (.long xx), .second, .val (.long mm), .second, .val (.ref r6)] [(.long mm), (.long mm)]))
      refine own_go (fun t_ k_ => XS.lcmp X7.here hx rfl (hb hby at_62) rfl k_) ?_
      show OwnFin p e below s _ _ _ (T7.setTop (mkF m 63 #[.val (.long xx), .second, .val (.long mm), .second, .val (.ref r6)] [(.int (lcmpW mm mm))]))
      refine own_go (fun t_ k_ => XS.ifYes X7.here hx rfl (pc0 := 63) (pc' := 68) rfl (hb hby at_63) rfl ((if0 _ _).trans (teq ((lw_eq mm mm).mpr rfl)).1) (by decide) (by decide) k_) ?_
      show OwnFin p e below s _ _ _ (T7.setTop (mkF m 68 #[.val (.long xx), .second, .val (.long mm), .second, .val (.ref r6)] []))
      refine own_go (fun t_ k_ => XS.aload X7.here hx rfl (hb hby at_68) rfl rfl k_) ?_
      show OwnFin p e below s _ _ _ (T7.setTop (mkF m 70 #[.val (.long xx), .second, .val (.long mm), .second, .val (.ref r6)] [(.ref r6)]))
      obtain ⟨v8, T8, L8, X8, hQ8, st8⟩ := own_callV X7 hx hZ (y := (⟨"com/example/goby/goby/lock/Lease", "isRenewed", "()Z"⟩ : MethodName)) (z := (⟨"com/example/goby/goby/lock/Lease", "isRenewed", "()Z"⟩ : MethodName)) hown (hw _ (List.mem_of_getElem? (i := 25) rfl)) (hw _ (List.mem_of_getElem? (i := 26) rfl)) (notFace_of_selects (args := #[]) (mvT hZ (hw _ (List.mem_of_getElem? (i := 28) rfl)))) (hw _ (List.mem_of_getElem? (i := 28) rfl)) (hw _ (List.mem_of_getElem? (i := 27) rfl)) (hw _ (List.mem_of_getElem? (i := 1) rfl)) (hw _ (List.mem_of_getElem? (i := 29) rfl)) (by decide) (W := 0) (rm5 l Z a0 hw [] r6 T6.heap n0 Z6 Fq6_1) (by decide) (by decide) Eq6 (g := (mkF m 70 #[.val (.long xx), .second, .val (.long mm), .second, .val (.ref r6)] [(.ref r6)])) rfl (by rw [hml]; rfl) (argsL := []) (rest := []) (lenOf pd_0_4 rfl) rfl (by show 2 * 0 + _ ≤ _; exact Nat.le_of_eq rfl) (hb hby at_70) e7 rfl (by decide) (by decide)
      obtain ⟨rfl, Nq8, e8⟩ := hQ8
      have N8 := Fr.app N7 Nq8
      refine own_go st8 ?_
      show OwnFin p e below s _ _ _ (T8.setTop (mkF m 73 #[.val (.long xx), .second, .val (.long mm), .second, .val (.ref r6)] [(.int (0 : Int32))]))
      refine own_go (fun t_ k_ => XS.ifYes X8.here hx rfl (pc0 := 73) (pc' := 78) rfl (hb hby at_73) rfl ((if0 _ _).trans (teq (by decide)).1) (by decide) (by decide) k_) ?_
      show OwnFin p e below s _ _ _ (T8.setTop (mkF m 78 #[.val (.long xx), .second, .val (.long mm), .second, .val (.ref r6)] []))
      refine own_go (fun t_ k_ => XS.aload X8.here hx rfl (hb hby at_78) rfl rfl k_) ?_
      show OwnFin p e below s _ _ _ (T8.setTop (mkF m 80 #[.val (.long xx), .second, .val (.long mm), .second, .val (.ref r6)] [(.ref r6)]))
      obtain ⟨v9, T9, L9, X9, hQ9, st9⟩ := own_callV X8 hx hZ (y := (⟨"com/example/goby/goby/lock/Lease", "nanos", "()J"⟩ : MethodName)) (z := (⟨"com/example/goby/goby/lock/Lease", "nanos", "()J"⟩ : MethodName)) hown (hw _ (List.mem_of_getElem? (i := 30) rfl)) (hw _ (List.mem_of_getElem? (i := 31) rfl)) (notFace_of_selects (args := #[]) (mvT hZ (hw _ (List.mem_of_getElem? (i := 33) rfl)))) (hw _ (List.mem_of_getElem? (i := 33) rfl)) (hw _ (List.mem_of_getElem? (i := 32) rfl)) (hw _ (List.mem_of_getElem? (i := 1) rfl)) (hw _ (List.mem_of_getElem? (i := 34) rfl)) (by decide) (W := 0) (rm6 l Z a0 hw [] r6 T6.heap n0 Z6 S_tu_6 E_tu_6 F_scale_6 F_maxNanos_6 Fq6_0 hn1 hn2) (by decide) (by decide) Eq6 (g := (mkF m 80 #[.val (.long xx), .second, .val (.long mm), .second, .val (.ref r6)] [(.ref r6)])) rfl (by rw [hml]; rfl) (argsL := []) (rest := []) (lenOf pd_0_3 rfl) rfl (by show 2 * 0 + _ ≤ _; exact Nat.le_of_eq rfl) (hb hby at_80) e8 rfl (by decide) (by decide)
      obtain ⟨rfl, Nq9, e9⟩ := hQ9
      have N9 := Fr.app N8 Nq9
      refine own_go st9 ?_
      show OwnFin p e below s _ _ _ (T9.setTop (mkF m 83 #[.val (.long xx), .second, .val (.long mm), .second, .val (.ref r6)] [(.long (mm * (1000000 : Int64)))]))
      refine own_go (fun t_ k_ => XS.lloadN X9.here hx rfl (hb hby at_83) rfl k_) ?_
      show OwnFin p e below s _ _ _ (T9.setTop (mkF m 84 #[.val (.long xx), .second, .val (.long mm), .second, .val (.ref r6)] [(.long mm), (.long (mm * (1000000 : Int64)))]))
      refine own_go (X9.ldc2Long hx hown (mvT hZ (hw _ (List.mem_of_getElem? (i := 46) rfl))) (g := (mkF m 84 #[.val (.long xx), .second, .val (.long mm), .second, .val (.ref r6)] [(.long mm), (.long (mm * (1000000 : Int64)))])) rfl (hb hby at_84)) ?_
      show OwnFin p e below s _ _ _ (T9.setTop (mkF m 87 #[.val (.long xx), .second, .val (.long mm), .second, .val (.ref r6)] [(.long (1000000 : Int64)), (.long mm), (.long (mm * (1000000 : Int64)))]))
      refine own_go (fun t_ k_ => XS.lmul X9.here hx rfl (hb hby at_87) rfl k_) ?_
      show OwnFin p e below s _ _ _ (T9.setTop (mkF m 88 #[.val (.long xx), .second, .val (.long mm), .second, .val (.ref r6)] [(.long (mm * (1000000 : Int64))), (.long (mm * (1000000 : Int64)))]))
      refine own_go (fun t_ k_ => XS.lcmp X9.here hx rfl (hb hby at_88) rfl k_) ?_
      show OwnFin p e below s _ _ _ (T9.setTop (mkF m 89 #[.val (.long xx), .second, .val (.long mm), .second, .val (.ref r6)] [(.int (lcmpW (mm * (1000000 : Int64)) (mm * (1000000 : Int64))))]))
      refine own_go (fun t_ k_ => XS.ifNo X9.here hx rfl (hb hby at_89) rfl ((if0 _ _).trans (teq ((lw_eq (mm * (1000000 : Int64)) (mm * (1000000 : Int64))).mpr rfl)).2) k_) ?_
      show OwnFin p e below s _ _ _ (T9.setTop (mkF m 92 #[.val (.long xx), .second, .val (.long mm), .second, .val (.ref r6)] []))
      refine own_go (fun t_ k_ => XS.iconst X9.here hx rfl (hb hby at_92) k_) ?_
      show OwnFin p e below s _ _ _ (T9.setTop (mkF m 93 #[.val (.long xx), .second, .val (.long mm), .second, .val (.ref r6)] [(.int (1 : Int32))]))
      refine own_go (fun t_ k_ => XS.goto X9.here hx rfl (pc0 := 93) (pc' := 97) rfl (hb hby at_93) (by decide) (by decide) k_) ?_
      show OwnFin p e below s _ _ _ (T9.setTop (mkF m 97 #[.val (.long xx), .second, .val (.long mm), .second, .val (.ref r6)] [(.int (1 : Int32))]))
      refine own_ret X9 (v := some (.int (1 : Int32))) hlk (fun hh => by rw [hret] at hh; cases hh) (fun fs hr => retN X9 hx (t := .boolean) hret (by simp) (hb hby at_97) hr) (by decide) (by decide) ?_
      exact ⟨rfl, N9⟩
    · refine own_go (fun t_ k_ => XS.ifNo X1.here hx rfl (hb hby at_23) rfl ((if0 _ _).trans (flt (mt (lw_gt xx (4611686018427 : Int64)).mp hc23)).2.2.1) k_) ?_
      show OwnFin p e below s _ _ _ (T1.setTop (mkF m 26 #[.val (.long xx), .second, .unset, .unset, .unset] []))
      refine own_go (fun t_ k_ => XS.lloadN X1.here hx rfl (hb hby at_26) rfl k_) ?_
      show OwnFin p e below s _ _ _ (T1.setTop (mkF m 27 #[.val (.long xx), .second, .unset, .unset, .unset] [(.long xx)]))
      refine own_go (fun t_ k_ => XS.lstoreN X1.here hx rfl (hb hby at_27) rfl (l' := #[.val (.long xx), .second, .val (.long xx), .second, .unset]) rfl k_) ?_
      show OwnFin p e below s _ _ _ (T1.setTop (mkF m 28 #[.val (.long xx), .second, .val (.long xx), .second, .unset] []))
      refine own_go (fun t_ k_ => XS.goto X1.here hx rfl (pc0 := 28) (pc' := 43) rfl (hb hby at_28) (by decide) (by decide) k_) ?_
      show OwnFin p e below s _ _ _ (T1.setTop (mkF m 43 #[.val (.long xx), .second, .val (.long xx), .second, .unset] []))
      have hm : 1 ≤ xx.toInt ∧ xx.toInt ≤ 4611686018427 := by rw [Int64.lt_iff_toInt_lt, own_m1] at hc15; rw [Int64.lt_iff_toInt_lt, own_mx] at hc23; omega
      have hlo : ¬ (xx < (1 : Int64)) := by rw [Int64.lt_iff_toInt_lt, own_m1]; omega
      have hhi : ¬ ((4611686018427 : Int64) < xx) := by rw [Int64.lt_iff_toInt_lt, own_mx]; omega
      have hn1 : ¬ ((9223372036854 : Int64) < xx) := by rw [Int64.lt_iff_toInt_lt, own_mn]; omega
      have hn2 : ¬ (xx < (-(9223372036854 : Int64))) := by rw [Int64.lt_iff_toInt_lt, own_neg]; omega
      refine own_go (fun t_ k_ => XS.lloadN X1.here hx rfl (hb hby at_43) rfl k_) ?_
      show OwnFin p e below s _ _ _ (T1.setTop (mkF m 44 #[.val (.long xx), .second, .val (.long xx), .second, .unset] [(.long xx)]))
      obtain ⟨v10, T10, L10, X10, hQ10, st10⟩ := own_callS X1 hx hZ (y := (⟨"com/example/goby/goby/lock/Lease", "of", "(J)Lcom/example/goby/goby/lock/Lease;"⟩ : MethodName)) hown (hw _ (List.mem_of_getElem? (i := 4) rfl)) (hw _ (List.mem_of_getElem? (i := 5) rfl)) (hw _ (List.mem_of_getElem? (i := 1) rfl)) (hw _ (List.mem_of_getElem? (i := 6) rfl)) (by decide) (W := 0) (rm1 l Z a0 hw [] xx h0 n0 Z0 S_max hlo hhi) (by decide) (by decide) (g := (mkF m 44 #[.val (.long xx), .second, .val (.long xx), .second, .unset] [(.long xx)])) rfl (by rw [hml]; rfl) (argsL := [(.long xx)]) (rest := []) (lenOf pd_0_0 rfl) rfl (by show 2 * 0 + _ ≤ _; exact Nat.le_of_eq rfl) (hb hby at_44) e1 rfl (by decide) (by decide)
      obtain ⟨r10, rfl, Nq10, Kq10, sq10, Eq10, Fq10_0, Fq10_1⟩ := hQ10
      have N10 := Fr.app N0 Nq10
      have g_r10 : n0 ≤ r10 := Nat.le_trans Z0 sq10
      have ne_tu_r10 : tu ≠ r10 := Nat.ne_of_lt (Nat.lt_of_lt_of_le E_tu.lt sq10)
      have S_max_10 := own_stakeep S_max Kq10
      have S_tu_10 := own_stakeep S_tu Kq10
      have E_tu_10 := E_tu.keep Kq10
      have F_scale_10 := F_scale.keep Kq10 nin0
      have F_maxNanos_10 := F_maxNanos.keep Kq10 nin0
      have Z10 : n0 ≤ T10.heap.size := Nat.le_trans Z0 Kq10.1
      refine own_go st10 ?_
      show OwnFin p e below s _ _ _ (T10.setTop (mkF m 47 #[.val (.long xx), .second, .val (.long xx), .second, .unset] [(.ref r10)]))
      refine own_go (fun t_ k_ => XS.astore X10.here hx rfl (hb hby at_47) rfl rfl (l' := #[.val (.long xx), .second, .val (.long xx), .second, .val (.ref r10)]) rfl k_) ?_
      show OwnFin p e below s _ _ _ (T10.setTop (mkF m 49 #[.val (.long xx), .second, .val (.long xx), .second, .val (.ref r10)] []))
      refine own_go (fun t_ k_ => XS.aload X10.here hx rfl (hb hby at_49) rfl rfl k_) ?_
      show OwnFin p e below s _ _ _ (T10.setTop (mkF m 51 #[.val (.long xx), .second, .val (.long xx), .second, .val (.ref r10)] [(.ref r10)]))
      refine own_go (fun t_ k_ => XS.ifnonnullYes X10.here hx rfl (pc0 := 51) (pc' := 56) rfl (hb hby at_51) rfl (by decide) (by decide) k_) ?_
      show OwnFin p e below s _ _ _ (T10.setTop (mkF m 56 #[.val (.long xx), .second, .val (.long xx), .second, .val (.ref r10)] []))
      refine own_go (fun t_ k_ => XS.aload X10.here hx rfl (hb hby at_56) rfl rfl k_) ?_
      show OwnFin p e below s _ _ _ (T10.setTop (mkF m 58 #[.val (.long xx), .second, .val (.long xx), .second, .val (.ref r10)] [(.ref r10)]))
      obtain ⟨v11, T11, L11, X11, hQ11, st11⟩ := own_callV X10 hx hZ (y := (⟨"com/example/goby/goby/lock/Lease", "millis", "()J"⟩ : MethodName)) (z := (⟨"com/example/goby/goby/lock/Lease", "millis", "()J"⟩ : MethodName)) hown (hw _ (List.mem_of_getElem? (i := 20) rfl)) (hw _ (List.mem_of_getElem? (i := 21) rfl)) (notFace_of_selects (args := #[]) (mvT hZ (hw _ (List.mem_of_getElem? (i := 23) rfl)))) (hw _ (List.mem_of_getElem? (i := 23) rfl)) (hw _ (List.mem_of_getElem? (i := 22) rfl)) (hw _ (List.mem_of_getElem? (i := 1) rfl)) (hw _ (List.mem_of_getElem? (i := 24) rfl)) (by decide) (W := 0) (rm4 l Z a0 hw [] r10 T10.heap n0 Z10 Fq10_0) (by decide) (by decide) Eq10 (g := (mkF m 58 #[.val (.long xx), .second, .val (.long xx), .second, .val (.ref r10)] [(.ref r10)])) rfl (by rw [hml]; rfl) (argsL := []) (rest := []) (lenOf pd_0_3 rfl) rfl (by show 2 * 0 + _ ≤ _; exact Nat.le_of_eq rfl) (hb hby at_58) rfl rfl (by decide) (by decide)
      obtain ⟨rfl, Nq11, e11⟩ := hQ11
      have N11 := Fr.app N10 Nq11
      refine own_go st11 ?_
      show OwnFin p e below s _ _ _ (T11.setTop (mkF m 61 #[.val (.long xx), .second, .val (.long xx), .second, .val (.ref r10)] [(.long xx)]))
      refine own_go (fun t_ k_ => XS.lloadN X11.here hx rfl (hb hby at_61) rfl k_) ?_
      show OwnFin p e below s _ _ _ (T11.setTop (mkF m 62 #[.val (.long xx), .second, .val (.long xx), .second, .val (.ref r10)] [(.long xx), (.long xx)]))
      refine own_go (fun t_ k_ => XS.lcmp X11.here hx rfl (hb hby at_62) rfl k_) ?_
      show OwnFin p e below s _ _ _ (T11.setTop (mkF m 63 #[.val (.long xx), .second, .val (.long xx), .second, .val (.ref r10)] [(.int (lcmpW xx xx))]))
      refine own_go (fun t_ k_ => XS.ifYes X11.here hx rfl (pc0 := 63) (pc' := 68) rfl (hb hby at_63) rfl ((if0 _ _).trans (teq ((lw_eq xx xx).mpr rfl)).1) (by decide) (by decide) k_) ?_
      show OwnFin p e below s _ _ _ (T11.setTop (mkF m 68 #[.val (.long xx), .second, .val (.long xx), .second, .val (.ref r10)] []))
      refine own_go (fun t_ k_ => XS.aload X11.here hx rfl (hb hby at_68) rfl rfl k_) ?_
      show OwnFin p e below s _ _ _ (T11.setTop (mkF m 70 #[.val (.long xx), .second, .val (.long xx), .second, .val (.ref r10)] [(.ref r10)]))
      obtain ⟨v12, T12, L12, X12, hQ12, st12⟩ := own_callV X11 hx hZ (y := (⟨"com/example/goby/goby/lock/Lease", "isRenewed", "()Z"⟩ : MethodName)) (z := (⟨"com/example/goby/goby/lock/Lease", "isRenewed", "()Z"⟩ : MethodName)) hown (hw _ (List.mem_of_getElem? (i := 25) rfl)) (hw _ (List.mem_of_getElem? (i := 26) rfl)) (notFace_of_selects (args := #[]) (mvT hZ (hw _ (List.mem_of_getElem? (i := 28) rfl)))) (hw _ (List.mem_of_getElem? (i := 28) rfl)) (hw _ (List.mem_of_getElem? (i := 27) rfl)) (hw _ (List.mem_of_getElem? (i := 1) rfl)) (hw _ (List.mem_of_getElem? (i := 29) rfl)) (by decide) (W := 0) (rm5 l Z a0 hw [] r10 T10.heap n0 Z10 Fq10_1) (by decide) (by decide) Eq10 (g := (mkF m 70 #[.val (.long xx), .second, .val (.long xx), .second, .val (.ref r10)] [(.ref r10)])) rfl (by rw [hml]; rfl) (argsL := []) (rest := []) (lenOf pd_0_4 rfl) rfl (by show 2 * 0 + _ ≤ _; exact Nat.le_of_eq rfl) (hb hby at_70) e11 rfl (by decide) (by decide)
      obtain ⟨rfl, Nq12, e12⟩ := hQ12
      have N12 := Fr.app N11 Nq12
      refine own_go st12 ?_
      show OwnFin p e below s _ _ _ (T12.setTop (mkF m 73 #[.val (.long xx), .second, .val (.long xx), .second, .val (.ref r10)] [(.int (0 : Int32))]))
      refine own_go (fun t_ k_ => XS.ifYes X12.here hx rfl (pc0 := 73) (pc' := 78) rfl (hb hby at_73) rfl ((if0 _ _).trans (teq (by decide)).1) (by decide) (by decide) k_) ?_
      show OwnFin p e below s _ _ _ (T12.setTop (mkF m 78 #[.val (.long xx), .second, .val (.long xx), .second, .val (.ref r10)] []))
      refine own_go (fun t_ k_ => XS.aload X12.here hx rfl (hb hby at_78) rfl rfl k_) ?_
      show OwnFin p e below s _ _ _ (T12.setTop (mkF m 80 #[.val (.long xx), .second, .val (.long xx), .second, .val (.ref r10)] [(.ref r10)]))
      obtain ⟨v13, T13, L13, X13, hQ13, st13⟩ := own_callV X12 hx hZ (y := (⟨"com/example/goby/goby/lock/Lease", "nanos", "()J"⟩ : MethodName)) (z := (⟨"com/example/goby/goby/lock/Lease", "nanos", "()J"⟩ : MethodName)) hown (hw _ (List.mem_of_getElem? (i := 30) rfl)) (hw _ (List.mem_of_getElem? (i := 31) rfl)) (notFace_of_selects (args := #[]) (mvT hZ (hw _ (List.mem_of_getElem? (i := 33) rfl)))) (hw _ (List.mem_of_getElem? (i := 33) rfl)) (hw _ (List.mem_of_getElem? (i := 32) rfl)) (hw _ (List.mem_of_getElem? (i := 1) rfl)) (hw _ (List.mem_of_getElem? (i := 34) rfl)) (by decide) (W := 0) (rm6 l Z a0 hw [] r10 T10.heap n0 Z10 S_tu_10 E_tu_10 F_scale_10 F_maxNanos_10 Fq10_0 hn1 hn2) (by decide) (by decide) Eq10 (g := (mkF m 80 #[.val (.long xx), .second, .val (.long xx), .second, .val (.ref r10)] [(.ref r10)])) rfl (by rw [hml]; rfl) (argsL := []) (rest := []) (lenOf pd_0_3 rfl) rfl (by show 2 * 0 + _ ≤ _; exact Nat.le_of_eq rfl) (hb hby at_80) e12 rfl (by decide) (by decide)
      obtain ⟨rfl, Nq13, e13⟩ := hQ13
      have N13 := Fr.app N12 Nq13
      refine own_go st13 ?_
      show OwnFin p e below s _ _ _ (T13.setTop (mkF m 83 #[.val (.long xx), .second, .val (.long xx), .second, .val (.ref r10)] [(.long (xx * (1000000 : Int64)))]))
      refine own_go (fun t_ k_ => XS.lloadN X13.here hx rfl (hb hby at_83) rfl k_) ?_
      show OwnFin p e below s _ _ _ (T13.setTop (mkF m 84 #[.val (.long xx), .second, .val (.long xx), .second, .val (.ref r10)] [(.long xx), (.long (xx * (1000000 : Int64)))]))
      refine own_go (X13.ldc2Long hx hown (mvT hZ (hw _ (List.mem_of_getElem? (i := 46) rfl))) (g := (mkF m 84 #[.val (.long xx), .second, .val (.long xx), .second, .val (.ref r10)] [(.long xx), (.long (xx * (1000000 : Int64)))])) rfl (hb hby at_84)) ?_
      show OwnFin p e below s _ _ _ (T13.setTop (mkF m 87 #[.val (.long xx), .second, .val (.long xx), .second, .val (.ref r10)] [(.long (1000000 : Int64)), (.long xx), (.long (xx * (1000000 : Int64)))]))
      refine own_go (fun t_ k_ => XS.lmul X13.here hx rfl (hb hby at_87) rfl k_) ?_
      show OwnFin p e below s _ _ _ (T13.setTop (mkF m 88 #[.val (.long xx), .second, .val (.long xx), .second, .val (.ref r10)] [(.long (xx * (1000000 : Int64))), (.long (xx * (1000000 : Int64)))]))
      refine own_go (fun t_ k_ => XS.lcmp X13.here hx rfl (hb hby at_88) rfl k_) ?_
      show OwnFin p e below s _ _ _ (T13.setTop (mkF m 89 #[.val (.long xx), .second, .val (.long xx), .second, .val (.ref r10)] [(.int (lcmpW (xx * (1000000 : Int64)) (xx * (1000000 : Int64))))]))
      refine own_go (fun t_ k_ => XS.ifNo X13.here hx rfl (hb hby at_89) rfl ((if0 _ _).trans (teq ((lw_eq (xx * (1000000 : Int64)) (xx * (1000000 : Int64))).mpr rfl)).2) k_) ?_
      show OwnFin p e below s _ _ _ (T13.setTop (mkF m 92 #[.val (.long xx), .second, .val (.long xx), .second, .val (.ref r10)] []))
      refine own_go (fun t_ k_ => XS.iconst X13.here hx rfl (hb hby at_92) k_) ?_
      show OwnFin p e below s _ _ _ (T13.setTop (mkF m 93 #[.val (.long xx), .second, .val (.long xx), .second, .val (.ref r10)] [(.int (1 : Int32))]))
      refine own_go (fun t_ k_ => XS.goto X13.here hx rfl (pc0 := 93) (pc' := 97) rfl (hb hby at_93) (by decide) (by decide) k_) ?_
      show OwnFin p e below s _ _ _ (T13.setTop (mkF m 97 #[.val (.long xx), .second, .val (.long xx), .second, .val (.ref r10)] [(.int (1 : Int32))]))
      refine own_ret X13 (v := some (.int (1 : Int32))) hlk (fun hh => by rw [hret] at hh; cases hh) (fun fs hr => retN X13 hx (t := .boolean) hret (by simp) (hb hby at_97) hr) (by decide) (by decide) ?_
      exact ⟨rfl, N13⟩
theorem own_fldL {args : Array Value} {s : State} {t : Term} {a : Addr} {O n d : String} {z : Int64} (ht : t.eval args s none [] s = some (.ref a)) (h : (Jvm.Cond.eq (.field t O n d) (.long z)).value args s none s [] = some true) : Fld s s.heap a O n d (.long z) := by
  obtain ⟨x, y, h1, h2, -, k2⟩ := cmp_v (Or.inl h)
  cases (long_at (args := args) (first := s) (o := none) (idx := []) (s := s) z).symm.trans h2
  obtain ⟨w, rfl⟩ := k2
  have q := gotT (eq_L h1 (long_at z)) h
  subst q
  rw [fld_at ht] at h1
  exact Fld.start h1
set_option maxRecDepth 65536 in
set_option maxHeartbeats 40000000 in
theorem comes_1 {Post : Tables → Env → Array Value → State → Outcome → State → Prop} (hpost : ∀ tb e args s v u, (limb_1_1.after args s (.returned v) u = true ∧ limb_1_2.after args s (.returned v) u = true ∧ True) → FrameEnd s (.returned v) u (Jvm.fieldLocs frame_1_writes args s ++ Jvm.arrayLocs frame_1_arrays args s ++ Jvm.staticLocs frame_1_statics s) 16 128 → Post tb e args s (.returned v) u) :
    ArmFor flags0 classFile x code maxLocals ret World_1 tables_1 room_1 Calls_1 rest_1 Pre_1 Post := by
  intro l hfl _ _ p e ha hc hk s m args below hf hA hF happ hP
  obtain ⟨hcalls, hrest, hpre⟩ := hP
  obtain ⟨-, -, -, hnamed, -, -, -, hat⟩ := (Spec.applies_iff hf).mp happ
  obtain ⟨hg, hn⟩ := and_e (Cond.before_iff.mp (show (Jvm.Cond.and given_1 narrow_1).before args s = true from hpre))
  obtain ⟨g1, g2⟩ := and_e hg
  obtain ⟨w0, rfl⟩ : ∃ w0 : Value, args = #[w0] := by
    have hs : args.size = 1 := by simpa [Cond.value, given_1] using g1
    obtain ⟨L⟩ := args
    match L, hs with
    | [w0], _ => exact ⟨w0, rfl⟩
  have hw := fun d (hd : d ∈ tables_1) => atoms_spec (ws := Jvm.Cond.code x code maxLocals ret :: tables_1) hat d (List.mem_cons_of_mem _ hd)
  have hfit : Fit s := fun {y c} hc i hi => by
    obtain ⟨ha, rfl⟩ := Array.getElem?_eq_some_iff.mp hc
    have q := List.all_eq_true.mp ((Array.all_eq_true_iff_forall_mem.mp hF) _ (Array.getElem_mem ha)) i (List.mem_range.mpr hi)
    simpa [Array.getElem?_eq_getElem hi] using q
  obtain ⟨hsets, hown0⟩ := atoms_of _ (rest_1_c_eq ▸ (show rest_1_c.before _ s = true from hrest))
  have hr0 := Cond.before_iff.mp hown0
  obtain ⟨i0, ei0⟩ := isL_v g2
  obtain rfl : w0 = (.long i0) := Option.some.inj ei0
  obtain ⟨v1, ev1, fv1⟩ := static_fit hfit (hw _ (List.mem_of_getElem? (i := 2) rfl)) (ty := .long) (by decide)
  obtain ⟨x1, rfl⟩ := fit_J fv1
  have q1 : x1 = (4611686018427 : Int64) := gotT (eq_L ev1 (long_at _)) (show narrow_1.value _ s none s [] = some true from hn)
  subst q1
  have S_max := Sta.start ev1 (Or.inr ⟨(hw _ (List.mem_of_getElem? (i := 1) rfl)), (hw _ (List.mem_of_getElem? (i := 2) rfl))⟩)
  have hs2 := Cond.before_iff.mp (hsets _ (List.mem_of_getElem? (i := 2) rfl))
  obtain ⟨tu, etu⟩ := exa_v hs2
  have E_tu := Exa.start etu hs2
  have S_tu := Sta.start etu (Or.inl (hsets _ (List.mem_of_getElem? (i := 1) rfl)))
  have F_sc := own_fldL etu (Cond.before_iff.mp (hsets _ (List.mem_of_getElem? (i := 5) rfl)))
  have F_mn := own_fldL etu (Cond.before_iff.mp (hsets _ (List.mem_of_getElem? (i := 6) rfl)))
  obtain ⟨n, o, h1, h2, h3, _, L, rfl, ⟨rfl, N⟩, hq⟩ := rm0 l s _ hw tables_1 i0 tu s.heap s.heap.size (Nat.le_refl _) S_max S_tu E_tu F_sc F_mn p e ha hc hk s m _ below hf ((Spec.applies_iff_loose hf).mp happ).1 ⟨rfl, State.Warmed39.refl s, rfl⟩ trivial
  refine ⟨n, _, h1, h2, h3, hpost _ _ _ _ _ _ ⟨Cond.after_iff.mpr rfl, Cond.after_iff.mpr (eq_i res_at (Term.int_eval (1)) rfl), trivial⟩ ⟨hq.1, hq.2.1, (hq.2.2.sift fun y hy => Or.inr (N y hy)).mono (by decide) (by decide)⟩⟩
theorem main_1_1 : Claimed_1_1 := comes_1 fun _ _ _ _ _ _ h hF => ⟨h.1, hF⟩
theorem main_1_2 : Claimed_1_2 := comes_1 fun _ _ _ _ _ _ h hF => ⟨h.2.1, hF⟩
end Jvm.Pilot.@@N@@
namespace Jvm.Pilot.@@N@@
open Jvm Jvm.ClassFile Sem Op Lib Jvm.Free Jvm.Stand Jvm.Pilot.@@N@@.Jvm.D
/-! MADE BY PROGRAM (witnessworld.py) out of the Statement's table words and the real class files: 16 classes; the members and pool entries that the words name. The judged class is class 1, her method 1. -/
namespace start1
open Jvm.ClassFile
def u (s : String) : CpInfo := .utf8 (stringToUtf16 s)
/-- a pool by its gaps: so many unusable entries, then the entry; so many at the end -/
def gap : Nat → List CpInfo → List CpInfo
  | 0, r => r
  | n + 1, r => .unusable :: gap n r
def poolList (es : List (Nat × CpInfo)) (last : Nat) : List CpInfo := es.foldr (fun e r => gap e.1 (e.2 :: r)) (gap last [])
def pool (es : List (Nat × CpInfo)) (last : Nat) : Array CpInfo := ⟨poolList es last⟩
def fileOf (pool : Array CpInfo) (this : Nat) (attrs : Array Attribute := #[]) (ms : Array MethodInfo := #[]) (fl : Nat := 33) (sup : Nat := 0) (ifs : Array Nat := #[]) (fds : Array FieldInfo := #[]) : ClassFile where
  minorVersion := 0
  majorVersion := 65
  constantPool := pool
  accessFlags := fl
  thisClass := this
  superClass := sup
  interfaces := ifs
  fields := fds
  methods := ms
  attributes := attrs
def plain (name : String) (sup : Option ClassId) : Class where
  name := name
  kind := .ordinary
  loader := none
  accessFlags := 33
  super := sup
  interfaces := #[]
  cf := none
  fields := #[]
  methods := #[]
  instanceTypes := #[]
  staticTypes := #[]
  resolved := #[]
  callSites := []
  init := .initialized
  statics := none
  mirror := none

def pool0 : Array CpInfo := pool [(5, u "<init>"), (0, u "()V"), (1, .class_ 10), (1, u "java/lang/Object")] 113

def k0c0 : Code := { maxStack := 0, maxLocals := 1, code := object_method_1_code, exceptionTable := #[], attributes := #[] }
def k0m0 : Method := { name := "<init>", desc := "()V", sig := { parameters := [], returnType := none }, accessFlags := 1, code := some k0c0 }
/-- java/lang/Object -/
def k0 : Class := { plain "java/lang/Object" none with
  accessFlags := 33
  interfaces := #[]
  cf := some (fileOf pool0 8 #[] #[{ accessFlags := 1, nameIndex := 5, descriptorIndex := 6, attributes := #[] }] 33 0 #[] #[])
  fields := #[]
  methods := #[k0m0]
  instanceTypes := #[]
  staticTypes := #[]
  resolved := Array.replicate 124 none
  statics := none }

def pool1 : Array CpInfo := pool [(2, .class_ 4), (1, u "java/lang/Object"), (0, u "<init>"), (0, u "()V"), (0, .fieldref 8 9), (0, .class_ 10), (0, .nameAndType 11 12), (0, u "com/example/goby/goby/lock/Lease"), (0, u "MAX_MILLIS"), (0, u "J"), (0, .class_ 14), (0, u "com/example/goby/goby/lock/LeaseOfPinLaw"), (0, .long 4611686018427), (3, .long 9223372036854775807), (1, .methodref 8 22), (0, .nameAndType 23 24), (0, u "of"), (0, u "(J)Lcom/example/goby/goby/lock/Lease;"), (0, .methodref 8 26), (0, .nameAndType 27 28), (0, u "millis"), (0, u "()J"), (0, .methodref 8 30), (0, .nameAndType 31 32), (0, u "isRenewed"), (0, u "()Z"), (0, .methodref 8 34), (0, .nameAndType 35 28), (0, u "nanos"), (0, .long 1000000), (1, u "MAX"), (3, u "law"), (0, u "(J)Z")] 3

def k1m0 : Method := { name := "<init>", desc := "()V", sig := { parameters := [], returnType := none }, accessFlags := 1, code := none }
def k1c1 : Code := { maxStack := 6, maxLocals := 5, code := code, exceptionTable := #[], attributes := #[] }
def k1m1 : Method := { name := "law", desc := "(J)Z", sig := { parameters := [.long], returnType := some .boolean }, accessFlags := 9, code := some k1c1 }
/-- com/example/goby/goby/lock/LeaseOfPinLaw -/
def k1 : Class := { plain "com/example/goby/goby/lock/LeaseOfPinLaw" (some 0) with
  accessFlags := 49
  interfaces := #[]
  cf := some (fileOf pool1 13 #[] #[{ accessFlags := 1, nameIndex := 5, descriptorIndex := 6, attributes := #[] }, { accessFlags := 9, nameIndex := 42, descriptorIndex := 43, attributes := #[] }] 49 2 #[] #[{ accessFlags := 26, nameIndex := 38, descriptorIndex := 12, attributes := #[] }])
  fields := #[{ name := "MAX", type := .long, accessFlags := 26, slot := 0, constantValue := 0 }]
  methods := #[k1m0, k1m1]
  instanceTypes := #[]
  staticTypes := #[.long]
  resolved := Array.replicate 47 none
  statics := none }

def pool2 : Array CpInfo := pool [(1, .methodref 2 3), (0, .class_ 4), (0, .nameAndType 5 6), (0, u "java/lang/Object"), (0, u "<init>"), (0, u "()V"), (0, .fieldref 8 9), (0, .class_ 10), (0, .nameAndType 11 12), (0, u "com/example/goby/goby/lock/Lease"), (0, u "millis"), (0, u "J"), (0, .fieldref 8 14), (0, .nameAndType 15 16), (0, u "renewed"), (0, u "Z"), (0, .fieldref 8 18), (0, .nameAndType 19 12), (0, u "MAX_MILLIS"), (8, .methodref 8 29), (0, .nameAndType 5 30), (0, u "(JZ)V"), (12, u "()Z"), (11, u "()J"), (2, u "of"), (0, u "(J)Lcom/example/goby/goby/lock/Lease;"), (0, .fieldref 61 62), (0, .class_ 63), (0, .nameAndType 64 65), (0, u "java/util/concurrent/TimeUnit"), (0, u "MILLISECONDS"), (0, u "Ljava/util/concurrent/TimeUnit;"), (0, .methodref 61 67), (0, .nameAndType 68 69), (0, u "toNanos"), (0, u "(J)J"), (21, u "nanos"), (0, u "isRenewed")] 20

def k2c0 : Code := { maxStack := 3, maxLocals := 4, code := prog_7_method_1_code, exceptionTable := #[], attributes := #[] }
def k2m0 : Method := { name := "<init>", desc := "(JZ)V", sig := { parameters := [.long, .boolean], returnType := none }, accessFlags := 2, code := some k2c0 }
def k2c1 : Code := { maxStack := 5, maxLocals := 2, code := prog_7_method_2_code, exceptionTable := #[], attributes := #[] }
def k2m1 : Method := { name := "of", desc := "(J)Lcom/example/goby/goby/lock/Lease;", sig := { parameters := [.long], returnType := some (.object "com/example/goby/goby/lock/Lease") }, accessFlags := 8, code := some k2c1 }
def k2c2 : Code := { maxStack := 2, maxLocals := 1, code := prog_7_method_5_code, exceptionTable := #[], attributes := #[] }
def k2m2 : Method := { name := "millis", desc := "()J", sig := { parameters := [], returnType := some .long }, accessFlags := 0, code := some k2c2 }
def k2c3 : Code := { maxStack := 3, maxLocals := 1, code := prog_7_method_6_code, exceptionTable := #[], attributes := #[] }
def k2m3 : Method := { name := "nanos", desc := "()J", sig := { parameters := [], returnType := some .long }, accessFlags := 0, code := some k2c3 }
def k2c4 : Code := { maxStack := 1, maxLocals := 1, code := prog_7_method_7_code, exceptionTable := #[], attributes := #[] }
def k2m4 : Method := { name := "isRenewed", desc := "()Z", sig := { parameters := [], returnType := some .boolean }, accessFlags := 0, code := some k2c4 }
/-- com/example/goby/goby/lock/Lease -/
def k2 : Class := { plain "com/example/goby/goby/lock/Lease" (some 0) with
  accessFlags := 32
  interfaces := #[]
  cf := some (fileOf pool2 8 #[] #[{ accessFlags := 2, nameIndex := 5, descriptorIndex := 30, attributes := #[] }, { accessFlags := 8, nameIndex := 58, descriptorIndex := 59, attributes := #[] }, { accessFlags := 0, nameIndex := 11, descriptorIndex := 55, attributes := #[] }, { accessFlags := 0, nameIndex := 91, descriptorIndex := 55, attributes := #[] }, { accessFlags := 0, nameIndex := 92, descriptorIndex := 43, attributes := #[] }] 32 2 #[] #[{ accessFlags := 24, nameIndex := 19, descriptorIndex := 12, attributes := #[] }, { accessFlags := 18, nameIndex := 11, descriptorIndex := 12, attributes := #[] }, { accessFlags := 18, nameIndex := 15, descriptorIndex := 16, attributes := #[] }])
  fields := #[{ name := "MAX_MILLIS", type := .long, accessFlags := 24, slot := 0, constantValue := 0 }, { name := "millis", type := .long, accessFlags := 18, slot := 0, constantValue := 0 }, { name := "renewed", type := .boolean, accessFlags := 18, slot := 1, constantValue := 0 }]
  methods := #[k2m0, k2m1, k2m2, k2m3, k2m4]
  instanceTypes := #[.long, .boolean]
  staticTypes := #[.long]
  resolved := Array.replicate 113 none
  statics := some 0 }

def pool3 : Array CpInfo := pool [(1, .class_ 2), (0, u "java/lang/constant/Constable"), (0, .class_ 4), (0, u "java/lang/Object")] 6

/-- java/lang/constant/Constable -/
def k3 : Class := { plain "java/lang/constant/Constable" (some 0) with
  accessFlags := 1537
  interfaces := #[]
  cf := some (fileOf pool3 1 #[] #[] 1537 3 #[] #[])
  fields := #[]
  methods := #[]
  instanceTypes := #[]
  staticTypes := #[]
  resolved := Array.replicate 11 none
  statics := none }

def pool4 : Array CpInfo := pool [(1, .class_ 2), (0, u "java/lang/Comparable"), (0, .class_ 4), (0, u "java/lang/Object")] 7

/-- java/lang/Comparable -/
def k4 : Class := { plain "java/lang/Comparable" (some 0) with
  accessFlags := 1537
  interfaces := #[]
  cf := some (fileOf pool4 1 #[] #[] 1537 3 #[] #[])
  fields := #[]
  methods := #[]
  instanceTypes := #[]
  staticTypes := #[]
  resolved := Array.replicate 12 none
  statics := none }

def pool5 : Array CpInfo := pool [(1, .class_ 2), (0, u "java/io/Serializable"), (0, .class_ 4), (0, u "java/lang/Object")] 2

/-- java/io/Serializable -/
def k5 : Class := { plain "java/io/Serializable" (some 0) with
  accessFlags := 1537
  interfaces := #[]
  cf := some (fileOf pool5 1 #[] #[] 1537 3 #[] #[])
  fields := #[]
  methods := #[]
  instanceTypes := #[]
  staticTypes := #[]
  resolved := Array.replicate 7 none
  statics := none }

def pool6 : Array CpInfo := pool [(2, .class_ 4), (1, u "java/lang/Enum"), (0, u "name"), (0, u "Ljava/lang/String;"), (2, u "ordinal"), (0, u "I"), (1, .class_ 14), (1, u "java/lang/Object"), (4, u "hash"), (86, .class_ 108), (1, u "java/lang/Enum$EnumDesc"), (2, .class_ 112), (0, u "java/lang/constant/Constable"), (0, .class_ 114), (0, u "java/lang/Comparable"), (0, .class_ 116), (0, u "java/io/Serializable")] 87

/-- java/lang/Enum -/
def k6 : Class := { plain "java/lang/Enum" (some 0) with
  accessFlags := 1057
  interfaces := #[3, 4, 5]
  cf := some (fileOf pool6 2 #[.nestMembers #[106]] #[] 1057 12 #[111, 113, 115] #[{ accessFlags := 18, nameIndex := 5, descriptorIndex := 6, attributes := #[] }, { accessFlags := 18, nameIndex := 9, descriptorIndex := 10, attributes := #[] }, { accessFlags := 2, nameIndex := 19, descriptorIndex := 10, attributes := #[] }])
  fields := #[{ name := "name", type := (.object "java/lang/String"), accessFlags := 18, slot := 0, constantValue := 0 }, { name := "ordinal", type := .int, accessFlags := 18, slot := 1, constantValue := 0 }, { name := "hash", type := .int, accessFlags := 2, slot := 2, constantValue := 0 }]
  methods := #[]
  instanceTypes := #[(.object "java/lang/String"), .int, .int]
  staticTypes := #[]
  resolved := Array.replicate 204 none
  statics := none }

def pool7 : Array CpInfo := pool [(1, .class_ 2), (0, u "java/util/concurrent/TimeUnit"), (2, u "NANOSECONDS"), (0, u "Ljava/util/concurrent/TimeUnit;"), (2, u "MICROSECONDS"), (2, u "MILLISECONDS"), (2, u "SECONDS"), (2, u "MINUTES"), (2, u "HOURS"), (2, u "DAYS"), (2, u "$VALUES"), (0, u "[Ljava/util/concurrent/TimeUnit;"), (6, .class_ 37), (1, u "java/lang/Enum"), (6, .fieldref 1 45), (0, .nameAndType 46 47), (0, u "scale"), (0, u "J"), (4, .fieldref 1 53), (0, .nameAndType 54 47), (0, u "maxNanos"), (4, u "microRatio"), (2, u "maxMicros"), (4, u "milliRatio"), (0, u "I"), (2, u "maxMillis"), (4, u "secRatio"), (2, u "maxSecs"), (8, u "toNanos"), (0, u "(J)J"), (73, .class_ 165), (1, u "java/util/concurrent/TimeUnit$1"), (46, u "NANO_SCALE"), (3, u "MICRO_SCALE"), (0, u "MILLI_SCALE"), (0, u "SECOND_SCALE"), (0, u "MINUTE_SCALE"), (0, u "HOUR_SCALE"), (0, u "DAY_SCALE")] 61

def k7c0 : Code := { maxStack := 6, maxLocals := 7, code := jdk_2799_method_7_code, exceptionTable := #[], attributes := #[] }
def k7m0 : Method := { name := "toNanos", desc := "(J)J", sig := { parameters := [.long], returnType := some .long }, accessFlags := 1, code := some k7c0 }
/-- java/util/concurrent/TimeUnit -/
def k7 : Class := { plain "java/util/concurrent/TimeUnit" (some 6) with
  accessFlags := 16433
  interfaces := #[]
  cf := some (fileOf pool7 1 #[.nestMembers #[163]] #[{ accessFlags := 1, nameIndex := 88, descriptorIndex := 89, attributes := #[] }] 16433 35 #[] #[{ accessFlags := 16409, nameIndex := 5, descriptorIndex := 6, attributes := #[] }, { accessFlags := 16409, nameIndex := 9, descriptorIndex := 6, attributes := #[] }, { accessFlags := 16409, nameIndex := 12, descriptorIndex := 6, attributes := #[] }, { accessFlags := 16409, nameIndex := 15, descriptorIndex := 6, attributes := #[] }, { accessFlags := 16409, nameIndex := 18, descriptorIndex := 6, attributes := #[] }, { accessFlags := 16409, nameIndex := 21, descriptorIndex := 6, attributes := #[] }, { accessFlags := 16409, nameIndex := 24, descriptorIndex := 6, attributes := #[] }, { accessFlags := 26, nameIndex := 212, descriptorIndex := 47, attributes := #[] }, { accessFlags := 26, nameIndex := 216, descriptorIndex := 47, attributes := #[] }, { accessFlags := 26, nameIndex := 217, descriptorIndex := 47, attributes := #[] }, { accessFlags := 26, nameIndex := 218, descriptorIndex := 47, attributes := #[] }, { accessFlags := 26, nameIndex := 219, descriptorIndex := 47, attributes := #[] }, { accessFlags := 26, nameIndex := 220, descriptorIndex := 47, attributes := #[] }, { accessFlags := 26, nameIndex := 221, descriptorIndex := 47, attributes := #[] }, { accessFlags := 18, nameIndex := 46, descriptorIndex := 47, attributes := #[] }, { accessFlags := 18, nameIndex := 54, descriptorIndex := 47, attributes := #[] }, { accessFlags := 18, nameIndex := 62, descriptorIndex := 47, attributes := #[] }, { accessFlags := 18, nameIndex := 71, descriptorIndex := 47, attributes := #[] }, { accessFlags := 18, nameIndex := 79, descriptorIndex := 47, attributes := #[] }, { accessFlags := 18, nameIndex := 59, descriptorIndex := 47, attributes := #[] }, { accessFlags := 18, nameIndex := 67, descriptorIndex := 68, attributes := #[] }, { accessFlags := 18, nameIndex := 76, descriptorIndex := 68, attributes := #[] }, { accessFlags := 4122, nameIndex := 27, descriptorIndex := 28, attributes := #[] }])
  fields := #[{ name := "NANOSECONDS", type := (.object "java/util/concurrent/TimeUnit"), accessFlags := 16409, slot := 0, constantValue := 0 }, { name := "MICROSECONDS", type := (.object "java/util/concurrent/TimeUnit"), accessFlags := 16409, slot := 1, constantValue := 0 }, { name := "MILLISECONDS", type := (.object "java/util/concurrent/TimeUnit"), accessFlags := 16409, slot := 2, constantValue := 0 }, { name := "SECONDS", type := (.object "java/util/concurrent/TimeUnit"), accessFlags := 16409, slot := 3, constantValue := 0 }, { name := "MINUTES", type := (.object "java/util/concurrent/TimeUnit"), accessFlags := 16409, slot := 4, constantValue := 0 }, { name := "HOURS", type := (.object "java/util/concurrent/TimeUnit"), accessFlags := 16409, slot := 5, constantValue := 0 }, { name := "DAYS", type := (.object "java/util/concurrent/TimeUnit"), accessFlags := 16409, slot := 6, constantValue := 0 }, { name := "NANO_SCALE", type := .long, accessFlags := 26, slot := 7, constantValue := 0 }, { name := "MICRO_SCALE", type := .long, accessFlags := 26, slot := 8, constantValue := 0 }, { name := "MILLI_SCALE", type := .long, accessFlags := 26, slot := 9, constantValue := 0 }, { name := "SECOND_SCALE", type := .long, accessFlags := 26, slot := 10, constantValue := 0 }, { name := "MINUTE_SCALE", type := .long, accessFlags := 26, slot := 11, constantValue := 0 }, { name := "HOUR_SCALE", type := .long, accessFlags := 26, slot := 12, constantValue := 0 }, { name := "DAY_SCALE", type := .long, accessFlags := 26, slot := 13, constantValue := 0 }, { name := "scale", type := .long, accessFlags := 18, slot := 3, constantValue := 0 }, { name := "maxNanos", type := .long, accessFlags := 18, slot := 4, constantValue := 0 }, { name := "maxMicros", type := .long, accessFlags := 18, slot := 5, constantValue := 0 }, { name := "maxMillis", type := .long, accessFlags := 18, slot := 6, constantValue := 0 }, { name := "maxSecs", type := .long, accessFlags := 18, slot := 7, constantValue := 0 }, { name := "microRatio", type := .long, accessFlags := 18, slot := 8, constantValue := 0 }, { name := "milliRatio", type := .int, accessFlags := 18, slot := 9, constantValue := 0 }, { name := "secRatio", type := .int, accessFlags := 18, slot := 10, constantValue := 0 }, { name := "$VALUES", type := (.array (.object "java/util/concurrent/TimeUnit")), accessFlags := 4122, slot := 14, constantValue := 0 }]
  methods := #[k7m0]
  instanceTypes := #[(.object "java/lang/String"), .int, .int, .long, .long, .long, .long, .long, .long, .int, .int]
  staticTypes := #[(.object "java/util/concurrent/TimeUnit"), (.object "java/util/concurrent/TimeUnit"), (.object "java/util/concurrent/TimeUnit"), (.object "java/util/concurrent/TimeUnit"), (.object "java/util/concurrent/TimeUnit"), (.object "java/util/concurrent/TimeUnit"), (.object "java/util/concurrent/TimeUnit"), .long, .long, .long, .long, .long, .long, .long, (.array (.object "java/util/concurrent/TimeUnit"))]
  resolved := Array.replicate 283 none
  statics := some 1 }

def pool8 : Array CpInfo := pool [(2, .class_ 4), (1, u "java/lang/CharSequence"), (42, .class_ 48), (0, u "java/lang/CharSequence$1CodePointIterator"), (10, .class_ 60), (0, u "java/lang/CharSequence$1CharIterator"), (5, .class_ 67), (0, u "java/lang/Object")] 63

/-- java/lang/CharSequence -/
def k8 : Class := { plain "java/lang/CharSequence" (some 0) with
  accessFlags := 1537
  interfaces := #[]
  cf := some (fileOf pool8 2 #[.nestMembers #[47, 59]] #[] 1537 66 #[] #[])
  fields := #[]
  methods := #[]
  instanceTypes := #[]
  staticTypes := #[]
  resolved := Array.replicate 131 none
  statics := none }

def pool9 : Array CpInfo := pool [(1, .class_ 2), (0, u "java/lang/constant/ConstantDesc"), (0, .class_ 4), (0, u "java/lang/Object")] 32

/-- java/lang/constant/ConstantDesc -/
def k9 : Class := { plain "java/lang/constant/ConstantDesc" (some 0) with
  accessFlags := 1537
  interfaces := #[]
  cf := some (fileOf pool9 1 #[] #[] 1537 3 #[] #[])
  fields := #[]
  methods := #[]
  instanceTypes := #[]
  staticTypes := #[]
  resolved := Array.replicate 37 none
  statics := none }

def pool10 : Array CpInfo := pool [(2, .class_ 4), (1, u "java/lang/Object"), (0, u "<init>"), (0, u "()V"), (3, .class_ 12), (1, u "java/lang/String"), (0, u "value"), (0, u "[B"), (2, u "coder"), (0, u "B"), (2, u "hash"), (0, u "I"), (2, u "hashIsZero"), (0, u "Z"), (13, u "COMPACT_STRINGS"), (534, .class_ 576), (0, u "java/lang/CharSequence"), (22, u "CASE_INSENSITIVE_ORDER"), (0, u "Ljava/util/Comparator;"), (500, u "serialPersistentFields"), (0, u "[Ljava/io/ObjectStreamField;"), (0, .class_ 1104), (0, u "java/lang/String$CaseInsensitiveComparator"), (1, .class_ 1107), (0, u "java/io/Serializable"), (0, .class_ 1109), (0, u "java/lang/Comparable"), (0, .class_ 1111), (0, u "java/lang/constant/Constable"), (0, .class_ 1113), (0, u "java/lang/constant/ConstantDesc"), (2, u "serialVersionUID"), (0, u "J"), (3, u "REPL"), (0, u "C"), (2, u "LATIN1"), (1, u "UTF16")] 323

def k10m0 : Method := { name := "<init>", desc := "()V", sig := { parameters := [], returnType := none }, accessFlags := 1, code := none }
/-- java/lang/String -/
def k10 : Class := { plain "java/lang/String" (some 0) with
  accessFlags := 49
  interfaces := #[5, 4, 8, 3, 9]
  cf := some (fileOf pool10 10 #[.nestMembers #[1103]] #[{ accessFlags := 1, nameIndex := 5, descriptorIndex := 6, attributes := #[] }] 49 2 #[1106, 1108, 575, 1110, 1112] #[{ accessFlags := 18, nameIndex := 13, descriptorIndex := 14, attributes := #[] }, { accessFlags := 18, nameIndex := 17, descriptorIndex := 18, attributes := #[] }, { accessFlags := 2, nameIndex := 21, descriptorIndex := 22, attributes := #[] }, { accessFlags := 2, nameIndex := 25, descriptorIndex := 26, attributes := #[] }, { accessFlags := 26, nameIndex := 1116, descriptorIndex := 1117, attributes := #[] }, { accessFlags := 24, nameIndex := 40, descriptorIndex := 26, attributes := #[] }, { accessFlags := 26, nameIndex := 1101, descriptorIndex := 1102, attributes := #[] }, { accessFlags := 26, nameIndex := 1121, descriptorIndex := 1122, attributes := #[] }, { accessFlags := 25, nameIndex := 599, descriptorIndex := 600, attributes := #[] }, { accessFlags := 24, nameIndex := 1125, descriptorIndex := 18, attributes := #[] }, { accessFlags := 24, nameIndex := 1127, descriptorIndex := 18, attributes := #[] }])
  fields := #[{ name := "value", type := (.array .byte), accessFlags := 18, slot := 0, constantValue := 0 }, { name := "coder", type := .byte, accessFlags := 18, slot := 1, constantValue := 0 }, { name := "hash", type := .int, accessFlags := 2, slot := 2, constantValue := 0 }, { name := "hashIsZero", type := .boolean, accessFlags := 2, slot := 3, constantValue := 0 }, { name := "serialVersionUID", type := .long, accessFlags := 26, slot := 0, constantValue := 0 }, { name := "COMPACT_STRINGS", type := .boolean, accessFlags := 24, slot := 1, constantValue := 0 }, { name := "serialPersistentFields", type := (.array (.object "java/io/ObjectStreamField")), accessFlags := 26, slot := 2, constantValue := 0 }, { name := "REPL", type := .char, accessFlags := 26, slot := 3, constantValue := 0 }, { name := "CASE_INSENSITIVE_ORDER", type := (.object "java/util/Comparator"), accessFlags := 25, slot := 4, constantValue := 0 }, { name := "LATIN1", type := .byte, accessFlags := 24, slot := 5, constantValue := 0 }, { name := "UTF16", type := .byte, accessFlags := 24, slot := 6, constantValue := 0 }]
  methods := #[k10m0]
  instanceTypes := #[(.array .byte), .byte, .int, .boolean]
  staticTypes := #[.long, .boolean, (.array (.object "java/io/ObjectStreamField")), .char, (.object "java/util/Comparator"), .byte, .byte]
  resolved := Array.replicate 1451 none
  statics := none }

def pool11 : Array CpInfo := pool [(1, u "java/lang/Cloneable"), (0, .class_ 1), (0, u "java/lang/Object"), (0, .class_ 3)] 3

/-- java/lang/Cloneable -/
def k11 : Class := { plain "java/lang/Cloneable" (some 0) with
  accessFlags := 1537
  interfaces := #[]
  cf := some (fileOf pool11 2 #[] #[] 1537 4 #[] #[])
  fields := #[]
  methods := #[]
  instanceTypes := #[]
  staticTypes := #[]
  resolved := Array.replicate 8 none
  statics := none }

/-- the primitive byte -/
def k12 : Class := { plain "byte" none with kind := .primitive 'B', accessFlags := 0x411 }
/-- [B -/
def k13 : Class := { plain "[B" (some 0) with kind := .array 12 .byte, interfaces := #[11, 5], accessFlags := 1041 }

/-- the primitive int -/
def k14 : Class := { plain "int" none with kind := .primitive 'I', accessFlags := 0x411 }
/-- [I -/
def k15 : Class := { plain "[I" (some 0) with kind := .array 14 .int, interfaces := #[11, 5], accessFlags := 1041 }

def heap : Heap := #[{ cls := 2, slots := #[.long 4611686018427], vm := .statics 2 },
  { cls := 7, slots := #[.null, .null, .ref 2, .null, .null, .null, .null, .long 0, .long 0, .long 0, .long 0, .long 0, .long 0, .long 0, .null], vm := .statics 7 },
  { cls := 7, slots := #[.ref 3, .int 2, .int 0, .long 1000000, .long 9223372036854, .long 9223372036854775, .long 9223372036854775807, .long 9223372036854775, .long 1000, .int 1, .int 1000], vm := .none },
  { cls := 10, slots := #[.null, .int 0, .int 0, .int 0], vm := .none }]
def classes : Array Class := #[k0, k1, k2, k3, k4, k5, k6, k7, k8, k9, k10, k11, k12, k13, k14, k15]
def interned : List (Array UInt16 × Addr) := []
def slotsUsed : Nat := 31
def theMethod : MethodId := ⟨1, 1⟩
def args0 : Array Value := #[.long 5]
def aboutOver (below : List Frame) : State where
  vm := { classes := classes, interned := interned.toArray }
  heap := heap
  slotsUsed := slotsUsed
  threads := #[{ frames := .invoking theMethod args0 :: below }]
def below0 : List Frame := [.native { method := ⟨0, 0⟩, args := #[] }]
def about1 : State := aboutOver below0
def p0 : Program := .bare "" "" ""
def e0 : Env := launch0.env 0 0 0
theorem w_frames : about1.frames = Frame.invoking theMethod args0 :: below0 := rfl
set_option maxRecDepth 65536 in
theorem w_args : argsFit about1.vm theMethod args0 = true := by decide +kernel
set_option maxRecDepth 65536 in
theorem w_heap : heapFits about1 = true := by decide +kernel
set_option maxRecDepth 65536 in
theorem w_runnable : about1.curStatus? = some .runnable := by decide +kernel
set_option maxRecDepth 65536 in
theorem w_alone : about1.alone = true := by decide +kernel
set_option maxRecDepth 65536 in
theorem w_named : about1.methodNamed? x = some theMethod := by decide +kernel
set_option maxRecDepth 65536 in
theorem w_hears : about1.hears theMethod below0 = true := by decide +kernel
set_option maxRecDepth 65536 in
theorem w_ripe : about1.ripe theMethod args0 below0 = true := by decide +kernel
theorem w_running : about1.status = .running := rfl
set_option maxRecDepth 65536 in
theorem w_room : about1.hasRoom e0.platform room_1 = true :=
  launch0.hasRoom_least _ room_1 (by decide +kernel) (by decide +kernel) (by decide +kernel) (by decide +kernel) (by decide +kernel) (by decide +kernel)
theorem allAtoms_all (ts : List Jvm.Cond) (a : Array Jvm.Value) (st : Jvm.State) : (allAtoms ts).before a st = ts.all (fun c => c.before a st) := by
  induction ts with
  | nil => rfl
  | cons c t ih =>
    show (Jvm.Cond.and c (allAtoms t)).before a st = _
    rw [Jvm.Cond.before_and, ih, List.all_cons]
def words1 : List Jvm.Cond := Jvm.Cond.code x code maxLocals ret :: tables_1
/-- a 'code' word, met by the world's own term for the bytes: nothing is compared byte by byte -/
theorem code_word {y : MethodName} {bytes : ByteArray} {mx : Nat} {rt : Option FieldType} {a : Array Value} {s : State} {m : MethodId} {meth : Method} {c : Code} (h1 : s.methodNamed? y = some m) (h2 : s.vm.method? m = some meth) (h3 : meth.code = some c) (h4 : c.code = bytes)
    (h5 : (c.maxLocals == mx && c.exceptionTable.isEmpty && decide (c.maxStack ≤ mostOperands) && decide (meth.sig.returnType = rt) && !meth.locks && decide (parseMethodDescriptor y.desc = some meth.sig)) = true) : (Jvm.Cond.code y bytes mx rt).before a s = true := by
  simp only [Bool.and_eq_true, beq_iff_eq, Bool.not_eq_true', decide_eq_true_eq] at h5
  obtain ⟨⟨⟨⟨⟨g1, g2⟩, g3⟩, g4⟩, g5⟩, g6⟩ := h5
  simp [Cond.before, Cond.holds, Cond.value, h1, h2, h3, h4, g1, g2, g3, g4, g5, g6]
def isCode : Jvm.Cond → Bool
  | .code _ _ _ _ => true
  | _ => false
theorem all_split {L : List Jvm.Cond} {P : Jvm.Cond → Bool} (h1 : L.all (fun c => isCode c || P c) = true) (h2 : ∀ c ∈ L.filter isCode, P c = true) : L.all P = true := by
  refine List.all_eq_true.mpr fun c hc => ?_
  have h := List.all_eq_true.mp h1 c hc
  rcases Bool.eq_false_or_eq_true (isCode c) with hi | hi
  · exact h2 c (List.mem_filter.mpr ⟨hc, hi⟩)
  · simpa [hi] using h
set_option maxRecDepth 65536 in
theorem w_c0 : (Jvm.Cond.code x code maxLocals ret).before args0 about1 = true := code_word (m := ⟨1, 1⟩) (meth := k1m1) (c := k1c1) (by decide +kernel) rfl rfl rfl (by decide +kernel)
set_option maxRecDepth 65536 in
theorem w_c1 : (Jvm.Cond.code ({ cls := "com/example/goby/goby/lock/Lease", name := "of", desc := "(J)Lcom/example/goby/goby/lock/Lease;" } : Jvm.MethodName) prog_7_method_2_code (2 : Nat) (Option.some (Jvm.ClassFile.FieldType.object "com/example/goby/goby/lock/Lease"))).before args0 about1 = true := code_word (m := ⟨2, 1⟩) (meth := k2m1) (c := k2c1) (by decide +kernel) rfl rfl rfl (by decide +kernel)
set_option maxRecDepth 65536 in
theorem w_c2 : (Jvm.Cond.code ({ cls := "com/example/goby/goby/lock/Lease", name := "<init>", desc := "(JZ)V" } : Jvm.MethodName) prog_7_method_1_code (4 : Nat) (Option.none : Option Jvm.ClassFile.FieldType)).before args0 about1 = true := code_word (m := ⟨2, 0⟩) (meth := k2m0) (c := k2c0) (by decide +kernel) rfl rfl rfl (by decide +kernel)
set_option maxRecDepth 65536 in
theorem w_c3 : (Jvm.Cond.code ({ cls := "java/lang/Object", name := "<init>", desc := "()V" } : Jvm.MethodName) object_method_1_code (1 : Nat) (Option.none : Option Jvm.ClassFile.FieldType)).before args0 about1 = true := code_word (m := ⟨0, 0⟩) (meth := k0m0) (c := k0c0) (by decide +kernel) rfl rfl rfl (by decide +kernel)
set_option maxRecDepth 65536 in
theorem w_c4 : (Jvm.Cond.code ({ cls := "com/example/goby/goby/lock/Lease", name := "millis", desc := "()J" } : Jvm.MethodName) prog_7_method_5_code (1 : Nat) (Option.some Jvm.ClassFile.FieldType.long)).before args0 about1 = true := code_word (m := ⟨2, 2⟩) (meth := k2m2) (c := k2c2) (by decide +kernel) rfl rfl rfl (by decide +kernel)
set_option maxRecDepth 65536 in
theorem w_c5 : (Jvm.Cond.code ({ cls := "com/example/goby/goby/lock/Lease", name := "isRenewed", desc := "()Z" } : Jvm.MethodName) prog_7_method_7_code (1 : Nat) (Option.some Jvm.ClassFile.FieldType.boolean)).before args0 about1 = true := code_word (m := ⟨2, 4⟩) (meth := k2m4) (c := k2c4) (by decide +kernel) rfl rfl rfl (by decide +kernel)
set_option maxRecDepth 65536 in
theorem w_c6 : (Jvm.Cond.code ({ cls := "com/example/goby/goby/lock/Lease", name := "nanos", desc := "()J" } : Jvm.MethodName) prog_7_method_6_code (1 : Nat) (Option.some Jvm.ClassFile.FieldType.long)).before args0 about1 = true := code_word (m := ⟨2, 3⟩) (meth := k2m3) (c := k2c3) (by decide +kernel) rfl rfl rfl (by decide +kernel)
set_option maxRecDepth 65536 in
theorem w_c7 : (Jvm.Cond.code ({ cls := "java/util/concurrent/TimeUnit", name := "toNanos", desc := "(J)J" } : Jvm.MethodName) jdk_2799_method_7_code (7 : Nat) (Option.some Jvm.ClassFile.FieldType.long)).before args0 about1 = true := code_word (m := ⟨7, 0⟩) (meth := k7m0) (c := k7c0) (by decide +kernel) rfl rfl rfl (by decide +kernel)
def codes1 : List Jvm.Cond := [Jvm.Cond.code x code maxLocals ret, Jvm.Cond.code ({ cls := "com/example/goby/goby/lock/Lease", name := "of", desc := "(J)Lcom/example/goby/goby/lock/Lease;" } : Jvm.MethodName) prog_7_method_2_code (2 : Nat) (Option.some (Jvm.ClassFile.FieldType.object "com/example/goby/goby/lock/Lease")), Jvm.Cond.code ({ cls := "com/example/goby/goby/lock/Lease", name := "<init>", desc := "(JZ)V" } : Jvm.MethodName) prog_7_method_1_code (4 : Nat) (Option.none : Option Jvm.ClassFile.FieldType), Jvm.Cond.code ({ cls := "java/lang/Object", name := "<init>", desc := "()V" } : Jvm.MethodName) object_method_1_code (1 : Nat) (Option.none : Option Jvm.ClassFile.FieldType), Jvm.Cond.code ({ cls := "com/example/goby/goby/lock/Lease", name := "millis", desc := "()J" } : Jvm.MethodName) prog_7_method_5_code (1 : Nat) (Option.some Jvm.ClassFile.FieldType.long), Jvm.Cond.code ({ cls := "com/example/goby/goby/lock/Lease", name := "isRenewed", desc := "()Z" } : Jvm.MethodName) prog_7_method_7_code (1 : Nat) (Option.some Jvm.ClassFile.FieldType.boolean), Jvm.Cond.code ({ cls := "com/example/goby/goby/lock/Lease", name := "nanos", desc := "()J" } : Jvm.MethodName) prog_7_method_6_code (1 : Nat) (Option.some Jvm.ClassFile.FieldType.long), Jvm.Cond.code ({ cls := "java/util/concurrent/TimeUnit", name := "toNanos", desc := "(J)J" } : Jvm.MethodName) jdk_2799_method_7_code (7 : Nat) (Option.some Jvm.ClassFile.FieldType.long)]
set_option maxRecDepth 65536 in
theorem codes_eq : words1.filter isCode = codes1 := rfl
theorem w_codes : ∀ c ∈ words1.filter isCode, c.before args0 about1 = true := by
  rw [codes_eq]
  intro c hc
  simp only [codes1, List.mem_cons, List.not_mem_nil, or_false] at hc
  rcases hc with rfl | rfl | rfl | rfl | rfl | rfl | rfl | rfl
  · exact w_c0
  · exact w_c1
  · exact w_c2
  · exact w_c3
  · exact w_c4
  · exact w_c5
  · exact w_c6
  · exact w_c7
set_option maxRecDepth 65536 in
theorem w_t1 : (words1.take 24).all (fun c => isCode c || c.before args0 about1) = true := by decide +kernel
set_option maxRecDepth 65536 in
theorem w_t2 : ((words1.drop 24).take 24).all (fun c => isCode c || c.before args0 about1) = true := by decide +kernel
set_option maxRecDepth 65536 in
theorem w_t3 : ((words1.drop 24).drop 24).all (fun c => isCode c || c.before args0 about1) = true := by decide +kernel
theorem w_tables : (allAtoms (Jvm.Cond.code x code maxLocals ret :: tables_1)).before args0 about1 = true := by
  rw [allAtoms_all]
  show words1.all (fun c => c.before args0 about1) = true
  refine all_split ?_ w_codes
  rw [← List.take_append_drop 24 words1, List.all_append, w_t1, ← List.take_append_drop 24 (words1.drop 24), List.all_append, w_t2, w_t3]
  rfl
set_option maxRecDepth 65536 in
theorem w_rest : rest_1_c.before args0 about1 = true := by decide +kernel
set_option maxRecDepth 65536 in
theorem w_case : (Jvm.Cond.and given_1 narrow_1).before args0 about1 = true := by decide +kernel
theorem w_applies : (headSpec (Jvm.Cond.code x code maxLocals ret :: tables_1) room_1).applies x e0.platform about1 = true :=
  (Spec.applies_iff w_frames).mpr ⟨w_running, w_runnable, w_alone, w_named, w_hears, w_ripe, w_room, w_tables⟩
theorem atStart : AtStart classFile x code maxLocals ret World_1 tables_1 room_1 Calls_1 rest_1 Pre_1 launch0 p0 e0 about1 theMethod args0 below0 :=
  ⟨lists_1, trivial, launch0.admits_env _ _ _, launch0.least_env, fairChoices_fair.cas, fairChoices_fair.clock, w_frames, w_args, w_heap, w_applies, trivial, w_rest, w_case⟩
end start1
theorem witness_1 : WitnessClaimed_1 := ⟨start1.p0, start1.e0, start1.about1, start1.theMethod, start1.args0, start1.below0, start1.atStart⟩
end Jvm.Pilot.@@N@@
