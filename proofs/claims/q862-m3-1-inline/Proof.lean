import JvmDerived
import JvmDerived.Pilot.@@N@@Statement
import JvmDerived.Pilot.@@N@@Code
set_option linter.unusedVariables false
set_option linter.unusedSimpArgs false
@@BLOCK:TracedD.lean.txt@@
namespace Jvm.Pilot.@@N@@
open Jvm Jvm.ClassFile Sem Op Lib Jvm.Free Jvm.Stand Jvm.LawKit Jvm.RoadKit Bundle Jvm.Pilot.@@N@@.Jvm.D
/-! ## own kit: a walk in continuation style over the library's steps -/
section OwnKit
variable {p : Program} {l : Launch} {e : Env} {R : Room} {s : State} {m : MethodId} {args : Array Value} {below : List Frame} {meth : Method} {c : Code} {T : State} {locs : List Loc} {cells slots : Nat} {Z : State} {a0 : Array Value} {h h' : Heap}
/-- from U the run ends, and then E holds -/
def GoOn (p : Program) (e : Env) (below : List Frame) (E : State → Outcome → Prop) (U : State) : Prop :=
  ∃ t o, Steps p.tables e below U t ∧ t.status = .running ∧ Ended t below o ∧ E t o
theorem GoOn.step {E : State → Outcome → Prop} {U U' : State} (hs : ∀ t, Steps p.tables e below U' t → Steps p.tables e below U t) (g : GoOn p e below E U') : GoOn p e below E U := by
  obtain ⟨t, o, h1, h2⟩ := g
  exact ⟨t, o, hs _ h1, h2⟩
/-- how a body ends: what it returns, its heap, the places that it wrote -/
abbrev EndQ (s : State) (rm : Room) (Q : Option Value → Heap → List Loc → Prop) : State → Outcome → Prop :=
  fun U o => ∃ v L, o = .returned v ∧ Q v U.heap L ∧ FrameEnd s o U L rm.cells rm.slots
/-- a body's contract at one array of arguments and one heap -/
def Con (l : Launch) (Z : State) (y : MethodName) (bytes : ByteArray) (mx : Nat) (rt : Option FieldType) (rm : Room) (as : Array Value) (h : Heap) (Q : Option Value → Heap → List Loc → Prop) : Prop :=
  ∀ ws : List Jvm.Cond, MetFree l y (head1 (Jvm.Cond.code y bytes mx rt :: ws) rm) (fun a U => a = as ∧ Z.Warmed39 U.vm ∧ U.heap = h) (fun _ _ _ _ _ => True) (fun _ U o U' => ∃ v L, o = .returned v ∧ Q v U'.heap L ∧ FrameEnd U o U' L rm.cells rm.slots)
theorem Con.intro {y : MethodName} {bytes : ByteArray} {mx : Nat} {rt : Option FieldType} {rm : Room} {as : Array Value} {Q : Option Value → Heap → List Loc → Prop} (hp : plainFor y = true)
    (body : ∀ (p : Program) (e : Env) (s : State) (m : MethodId) (below : List Frame) (meth : Method) (c : Code) (s₁ : State), p.tables.exec = Jvm.exec → c.code = bytes → c.maxLocals = mx → meth.sig.returnType = rt → meth.locks = false → Z.Warmed39 s.vm → s.vm.findClass y.cls = some m.cls → meth.name = y.name →
      Stand p l e rm s m as below meth c s₁ [] 0 0 → s₁.heap = h → GoOn p e below (EndQ s rm Q) (s₁.setTop (entryFrame m as mx))) : Con l Z y bytes mx rt rm as h Q := fun ws => by
  refine MetFree.of_bodySF hp hisR ?_
  intro p e s m args below meth c s₁ Bd hml0 hP hK
  obtain ⟨rfl, hZ, hh⟩ := hP
  have X0 : Stand p l e rm s m args below meth c s₁ [] 0 0 := Stand.of_body Bd
  obtain ⟨t, o, h1, h2, h3, h4⟩ := body p e s m below meth c s₁ Bd.exec Bd.bytes hml0 Bd.returns Bd.notSynchronized hZ (findClass_of_methodNamed Bd.named) (name_of_methodNamed Bd.named Bd.method).1 X0 (by rw [← hh, Bd.state]; rfl)
  exact ⟨t, o, h1, h2, h3, h4⟩
theorem GoOn.cast {E : State → Outcome → Prop} {g g' : JFrame} (q : g = g') (k : GoOn p e below E (T.setTop g')) : GoOn p e below E (T.setTop g) := q ▸ k
theorem GoOn.retI (X : Stand p l e R s m args below meth c T locs cells slots) (hx : p.tables.exec = Jvm.exec) (hrt : meth.sig.returnType = some .int) (hlk : meth.locks = false) {rm : Room} {Q : Option Value → Heap → List Loc → Prop} {pc : Nat} {Ls : Array Slot} {z : Int32} {rest : List Value}
    (hd : decode c.code pc = .ok (.ireturn, 1)) (hc : cells ≤ rm.cells) (hs : slots ≤ rm.slots) (hQ : Q (some (.int z)) T.heap locs) : GoOn p e below (EndQ s rm Q) (T.setTop (mkF m pc Ls (.int z :: rest))) := by
  obtain ⟨fs, hr, hrun, hended, hW, hsame⟩ := X.leave (v := some (.int z)) (fun h => by rw [hrt] at h; cases h) hlk
  exact ⟨_, _, Jvm.RoadKit.retOut X hx hrt rfl (Or.inl ⟨rfl, Or.inl rfl, _, rfl⟩) hd hr, hrun, hended, _, _, rfl, hQ, ⟨_, rfl⟩, hW, hsame.mono hc hs⟩
theorem GoOn.retN (X : Stand p l e R s m args below meth c T locs cells slots) (hx : p.tables.exec = Jvm.exec) {t : FieldType} (hrt : meth.sig.returnType = some t) (hlk : meth.locks = false) {rm : Room} {Q : Option Value → Heap → List Loc → Prop} {pc : Nat} {Ls : Array Slot} {z : Int32} {rest : List Value} (ht : t = .boolean ∨ t = .byte ∨ t = .char ∨ t = .short)
    (hd : decode c.code pc = .ok (.ireturn, 1)) (hc : cells ≤ rm.cells) (hs : slots ≤ rm.slots) (hQ : Q (some (.int (nar t z))) T.heap locs) : GoOn p e below (EndQ s rm Q) (T.setTop (mkF m pc Ls (.int z :: rest))) := by
  obtain ⟨fs, hr, hrun, hended, hW, hsame⟩ := X.leave (v := some (.int (nar t z))) (fun h => by rw [hrt] at h; cases h) hlk
  exact ⟨_, _, Jvm.RoadKit.retN X hx hrt ht hd hr, hrun, hended, _, _, rfl, hQ, ⟨_, rfl⟩, hW, hsame.mono hc hs⟩
theorem GoOn.retJ (X : Stand p l e R s m args below meth c T locs cells slots) (hx : p.tables.exec = Jvm.exec) (hrt : meth.sig.returnType = some .long) (hlk : meth.locks = false) {rm : Room} {Q : Option Value → Heap → List Loc → Prop} {pc : Nat} {Ls : Array Slot} {z : Int64} {rest : List Value}
    (hd : decode c.code pc = .ok (.lreturn, 1)) (hc : cells ≤ rm.cells) (hs : slots ≤ rm.slots) (hQ : Q (some (.long z)) T.heap locs) : GoOn p e below (EndQ s rm Q) (T.setTop (mkF m pc Ls (.long z :: rest))) := by
  obtain ⟨fs, hr, hrun, hended, hW, hsame⟩ := X.leave (v := some (.long z)) (fun h => by rw [hrt] at h; cases h) hlk
  exact ⟨_, _, Jvm.RoadKit.retOut X hx hrt rfl (Or.inr (Or.inl ⟨rfl, rfl, _, rfl⟩)) hd hr, hrun, hended, _, _, rfl, hQ, ⟨_, rfl⟩, hW, hsame.mono hc hs⟩
theorem GoOn.retR (X : Stand p l e R s m args below meth c T locs cells slots) (hx : p.tables.exec = Jvm.exec) {t : FieldType} (hrt : meth.sig.returnType = some t) (htr : t.isReference = true) (hlk : meth.locks = false) {rm : Room} {Q : Option Value → Heap → List Loc → Prop} {pc : Nat} {Ls : Array Slot} {z : Value} (hz : z.isRef = true) {rest : List Value}
    (hd : decode c.code pc = .ok (.areturn, 1)) (hc : cells ≤ rm.cells) (hs : slots ≤ rm.slots) (hQ : Q (some z) T.heap locs) : GoOn p e below (EndQ s rm Q) (T.setTop (mkF m pc Ls (z :: rest))) := by
  obtain ⟨fs, hr, hrun, hended, hW, hsame⟩ := X.leave (v := some z) (fun h => by rw [hrt] at h; cases h) hlk
  refine ⟨_, _, Jvm.RoadKit.retOut X hx hrt ?_ (Or.inr (Or.inr (Or.inr (Or.inr ⟨rfl, htr, hz⟩)))) hd hr, hrun, hended, _, _, rfl, hQ, ⟨_, rfl⟩, hW, hsame.mono hc hs⟩
  cases z <;> first | (cases t <;> rfl) | (simp [Value.isRef] at hz)
theorem GoOn.ret0 (X : Stand p l e R s m args below meth c T locs cells slots) (hx : p.tables.exec = Jvm.exec) (hrt : meth.sig.returnType = none) (hlk : meth.locks = false) {rm : Room} {Q : Option Value → Heap → List Loc → Prop} {pc : Nat} {Ls : Array Slot}
    (hd : decode c.code pc = .ok (.return_, 1)) (hc : cells ≤ rm.cells) (hs : slots ≤ rm.slots) (hQ : Q none T.heap locs) : GoOn p e below (EndQ s rm Q) (T.setTop (mkF m pc Ls [])) := by
  obtain ⟨fs, hr, hrun, hended, hW, hsame⟩ := X.leave (v := none) (fun _ => rfl) hlk
  exact ⟨_, _, X.returnOut hx hrt hd hr, hrun, hended, _, _, rfl, hQ, ⟨_, rfl⟩, hW, hsame.mono hc hs⟩
/-- a static call by its contract -/
theorem kCallS (X : Stand p l e R s m args below meth c T locs cells slots) (hx : p.tables.exec = Jvm.exec) (hZ : Z.Warmed39 s.vm) {own : String} {index : Nat} {y : MethodName} {bytes : ByteArray} {mx : Nat} {rt : Option FieldType} {rm : Room} {Q : Option Value → Heap → List Loc → Prop} {argsL rest : List Value}
    (K : Con l Z y bytes mx rt rm argsL.toArray h Q) (hown : s.vm.findClass own = some m.cls) (w1 : (Jvm.Cond.methodLink own index y).before a0 Z = true) (w2 : (Jvm.Cond.static y).before a0 Z = true) (w3 : (Jvm.Cond.initialized y.cls).before a0 Z = true) (w4 : (Jvm.Cond.code y bytes mx rt).before a0 Z = true)
    (hy : y.cls ≠ "java/lang/invoke/MethodHandle" ∧ y.cls ≠ "java/lang/invoke/VarHandle") (eT : T.heap = h) {g : JFrame} (hg : g.method = m) (hsize : g.locals.size = c.maxLocals) (hlen : ∀ sig, parseMethodDescriptor y.desc = some sig → argsL.length = sig.parameters.length) (hstack : g.stack = argsL.reverse ++ rest)
    {W : Nat} (hW : 2 * g.monitorRoom + (rest.map fun v => v.category).sum ≤ W) (hd : decode c.code g.pc = .ok (.invokestatic index, 3)) (hf : rm.frames + 1 ≤ R.frames) (hl : W + (mx + 11) + rm.locals ≤ R.locals) (hc : cells + rm.cells ≤ R.cells) (hs : slots + rm.slots ≤ R.slots) :
    ∃ v T' L, Stand p l e R s m args below meth c T' (locs ++ L) (cells + rm.cells) (slots + rm.slots) ∧ Q v T'.heap L ∧ ∀ target, Steps p.tables e below (T'.setTop { g with pc := g.pc + 3, stack := v.toList ++ rest }) target → Steps p.tables e below (T.setTop g) target := by
  obtain ⟨v, _, ⟨T', L', k', n'⟩, -, X', ⟨L, hQ, l1, l2, l3⟩, st⟩ := Jvm.LawKit.callS X hx (y := y) hown (mvT hZ w1) (mvT hZ w2) (mvT hZ w3) (mvT hZ w4) hy (backOf (W := W) (K []) hZ w4 w3 hf hl) hg hsize hlen hstack hW hd (fun _ _ => ⟨rfl, eT, hc, hs⟩)
  dsimp only [Pt.U, Pt.locs, Pt.cells, Pt.slots] at X' l1 l2 l3 hQ st
  subst l1 l2 l3
  exact ⟨v, T', L, X', hQ, fun t k => st _ k⟩
/-- a constructor by its contract -/
theorem kCallI (X : Stand p l e R s m args below meth c T locs cells slots) (hx : p.tables.exec = Jvm.exec) (hZ : Z.Warmed39 s.vm) {own : String} {index : Nat} {y : MethodName} {bytes : ByteArray} {mx : Nat} {rm : Room} {Q : Option Value → Heap → List Loc → Prop} {a : Addr} {argsL rest : List Value}
    (K : Con l Z y bytes mx none rm (.ref a :: argsL).toArray h Q) (hy1 : y.name = "<init>") (hown : s.vm.findClass own = some m.cls) (w1 : (Jvm.Cond.methodLink own index y).before a0 Z = true) (w2 : (Jvm.Cond.instanceMethod y).before a0 Z = true) (w3 : (Jvm.Cond.initialized y.cls).before a0 Z = true) (w4 : (Jvm.Cond.code y bytes mx none).before a0 Z = true)
    (hy : y.cls ≠ "java/lang/invoke/MethodHandle" ∧ y.cls ≠ "java/lang/invoke/VarHandle") (eT : T.heap = h) {g : JFrame} (hg : g.method = m) (hsize : g.locals.size = c.maxLocals) (hlen : ∀ sig, parseMethodDescriptor y.desc = some sig → argsL.length = sig.parameters.length) (hstack : g.stack = argsL.reverse ++ .ref a :: rest)
    {W : Nat} (hW : 2 * g.monitorRoom + (rest.map fun v => v.category).sum ≤ W) (hd : decode c.code g.pc = .ok (.invokespecial index, 3)) (hf : rm.frames + 1 ≤ R.frames) (hl : W + (mx + 11) + rm.locals ≤ R.locals) (hc : cells + rm.cells ≤ R.cells) (hs : slots + rm.slots ≤ R.slots) :
    ∃ v T' L, Stand p l e R s m args below meth c T' (locs ++ L) (cells + rm.cells) (slots + rm.slots) ∧ Q v T'.heap L ∧ ∀ target, Steps p.tables e below (T'.setTop { g with pc := g.pc + 3, stack := v.toList ++ rest }) target → Steps p.tables e below (T.setTop g) target := by
  obtain ⟨v, _, ⟨T', L', k', n'⟩, -, X', ⟨L, hQ, l1, l2, l3⟩, st⟩ := X.specialBack hx (y := y) hy1 hown (mvT hZ w1) (mvT hZ w2) (mvT hZ w4) hy (backOf (W := W) (K []) hZ w4 w3 hf hl) hg hsize (Steps.refl _) (a := a) hlen hstack hW hd (fun _ _ => ⟨rfl, eT, hc, hs⟩)
  dsimp only [Pt.U, Pt.locs, Pt.cells, Pt.slots] at X' l1 l2 l3 hQ st
  subst l1 l2 l3
  exact ⟨v, T', L, X', hQ, fun t k => st.trans k⟩
/-- an instance method by its contract, on an object of that very class -/
theorem kCallV (X : Stand p l e R s m args below meth c T locs cells slots) (hx : p.tables.exec = Jvm.exec) (hZ : Z.Warmed39 s.vm) {own C : String} {index : Nat} {y z : MethodName} {bytes : ByteArray} {mx : Nat} {rt : Option FieldType} {rm : Room} {Q : Option Value → Heap → List Loc → Prop} {a : Addr} {argsL rest : List Value}
    (K : Con l Z z bytes mx rt rm (.ref a :: argsL).toArray h Q) (hown : s.vm.findClass own = some m.cls) (w1 : (Jvm.Cond.methodLink own index y).before a0 Z = true) (wd : (Jvm.Cond.declares y).before a0 Z = true) (hnf : NotFace s y) (ws : (Jvm.Cond.selects C y z).before a0 Z = true) (w2 : (Jvm.Cond.instanceMethod z).before a0 Z = true) (w3 : (Jvm.Cond.initialized z.cls).before a0 Z = true) (w4 : (Jvm.Cond.code z bytes mx rt).before a0 Z = true)
    (hy : y.cls ≠ "java/lang/invoke/MethodHandle" ∧ y.cls ≠ "java/lang/invoke/VarHandle") (eT : T.heap = h) (E : Exa Z h a C) {g : JFrame} (hg : g.method = m) (hsize : g.locals.size = c.maxLocals) (hlen : ∀ sig, parseMethodDescriptor y.desc = some sig → argsL.length = sig.parameters.length) (hstack : g.stack = argsL.reverse ++ .ref a :: rest)
    {W : Nat} (hW : 2 * g.monitorRoom + (rest.map fun v => v.category).sum ≤ W) (hd : decode c.code g.pc = .ok (.invokevirtual index, 3)) (hf : rm.frames + 1 ≤ R.frames) (hl : W + (mx + 11) + rm.locals ≤ R.locals) (hc : cells + rm.cells ≤ R.cells) (hs : slots + rm.slots ≤ R.slots) :
    ∃ v T' L, Stand p l e R s m args below meth c T' (locs ++ L) (cells + rm.cells) (slots + rm.slots) ∧ Q v T'.heap L ∧ ∀ target, Steps p.tables e below (T'.setTop { g with pc := g.pc + 3, stack := v.toList ++ rest }) target → Steps p.tables e below (T.setTop g) target := by
  obtain ⟨cB, kB, q1, q2, q3⟩ := isOf hZ eT E
  obtain ⟨v, _, ⟨T', L', k', n'⟩, -, X', ⟨L, hQ, l1, l2, l3⟩, st⟩ := X.virtualBack hx (y := y) (z := z) hown (mvT hZ w1) (mvT hZ wd) hnf (mvT hZ ws) (mvT hZ w2) hy (backOf (W := W) (K []) hZ w4 w3 hf hl) q1 q3 hg hsize (Steps.refl _) hlen hstack hW hd (fun _ _ => ⟨rfl, eT, hc, hs⟩)
  dsimp only [Pt.U, Pt.locs, Pt.cells, Pt.slots] at X' l1 l2 l3 hQ st
  subst l1 l2 l3
  exact ⟨v, T', L, X', hQ, fun t k => st.trans k⟩
/-- a private method by its contract ('invokevirtual'); y2: a method of the same class of which is known that its class is no interface -/
theorem kCallP (X : Stand p l e R s m args below meth c T locs cells slots) (hx : p.tables.exec = Jvm.exec) (hZ : Z.Warmed39 s.vm) {own C : String} {index : Nat} {y y2 : MethodName} {bytes : ByteArray} {mx : Nat} {rt : Option FieldType} {rm : Room} {Q : Option Value → Heap → List Loc → Prop} {a : Addr} {argsL rest : List Value}
    (K : Con l Z y bytes mx rt rm (.ref a :: argsL).toArray h Q) (hown : s.vm.findClass own = some m.cls) (w1 : (Jvm.Cond.methodLink own index y).before a0 Z = true) (w2 : (Jvm.Cond.instanceMethod y).before a0 Z = true) (wp : (Jvm.Cond.privateMethod y).before a0 Z = true) (w3 : (Jvm.Cond.initialized y.cls).before a0 Z = true) (w4 : (Jvm.Cond.code y bytes mx rt).before a0 Z = true)
    (hnf : NotFace s y2) (hcl : y2.cls = y.cls) (w5 : (Jvm.Cond.instanceMethod y2).before a0 Z = true)
    (hy : y.cls ≠ "java/lang/invoke/MethodHandle" ∧ y.cls ≠ "java/lang/invoke/VarHandle") (eT : T.heap = h) (E : Exa Z h a C) {g : JFrame} (hg : g.method = m) (hsize : g.locals.size = c.maxLocals) (hlen : ∀ sig, parseMethodDescriptor y.desc = some sig → argsL.length = sig.parameters.length) (hstack : g.stack = argsL.reverse ++ .ref a :: rest)
    {W : Nat} (hW : 2 * g.monitorRoom + (rest.map fun v => v.category).sum ≤ W) (hd : decode c.code g.pc = .ok (.invokevirtual index, 3)) (hf : rm.frames + 1 ≤ R.frames) (hl : W + (mx + 11) + rm.locals ≤ R.locals) (hc : cells + rm.cells ≤ R.cells) (hs : slots + rm.slots ≤ R.slots) :
    ∃ v T' L, Stand p l e R s m args below meth c T' (locs ++ L) (cells + rm.cells) (slots + rm.slots) ∧ Q v T'.heap L ∧ ∀ target, Steps p.tables e below (T'.setTop { g with pc := g.pc + 3, stack := v.toList ++ rest }) target → Steps p.tables e below (T.setTop g) target := by
  obtain ⟨cB, kB, q1, q2, cell, q3, q4, q5⟩ := isOf hZ eT E
  obtain ⟨mk, methM, hnamed, hmethM, hstM, habM⟩ := Cond.instanceMethod_spec (mvT (args := args) hZ w2)
  obtain ⟨methM', cM, hmethM', -, -, -, -, -, -, hsigM⟩ := Cond.code_spec hnamed (mvT (args := args) hZ w4)
  cases hmethM.symm.trans hmethM'
  obtain ⟨mk2, methM2, hnamed2, -⟩ := Cond.instanceMethod_spec (mvT (args := args) hZ w5)
  obtain ⟨kP, hkP, hkPi⟩ := hnf mk2 hnamed2
  have hcc : mk2.cls = mk.cls := by
    have u1 := findClass_of_methodNamed hnamed2
    rw [hcl] at u1
    exact Option.some.inj (u1.symm.trans (findClass_of_methodNamed hnamed))
  rw [hcc] at hkP
  have hpriv : s.PrivateAt y := Cond.privateMethod_at (mvP hZ wp (args := args))
  obtain ⟨vm₁, X₁, hstep₁⟩ := X.invokevirtual hx hown (mvT hZ w1) hnamed hmethM hstM hkP hkPi hy (a := a) (cell := cell) q3 (fun q z => by rw [z] at q5; cases q5) (selectMethod_private hmethM (hpriv mk methM hnamed hmethM)) hmethM habM hkP hkPi (g := g) hg (argsL := argsL) (rest := rest) (hlen _ hsigM) hstack hd
  obtain ⟨v, ⟨T', L', k', n'⟩, X', ⟨L, hQ, l1, l2, l3⟩, st⟩ := (backOf (W := W) (K []) hZ w4 w3 hf hl) m meth c ⟨T.setVm vm₁, locs, cells, slots⟩ { g with stack := rest } (.invokevirtual index) mk (.ref a :: argsL).toArray X₁ hg hsize hd hW (X₁.named hnamed) ⟨rfl, eT, hc, hs⟩
  dsimp only [Pt.U, Pt.locs, Pt.cells, Pt.slots] at X' l1 l2 l3 hQ st
  subst l1 l2 l3
  exact ⟨v, T', L, X', hQ, fun t k => (hstep₁ _ fun acts => by rw [doInvoke_state]; exact Steps.refl _).trans (st.trans k)⟩
/-- an array: its kind, its length, what each place holds -/
def Jar (Z : State) (h : Heap) (a : Addr) (ty : FieldType) (n : Nat) (f : Nat → Value) : Prop := ∃ cl : Cell, Arr Z h a cl ty ∧ cl.slots.size = n ∧ ∀ i, i < n → cl.slots[i]? = some (f i)
section JarS
variable {a b : Addr} {ty : FieldType} {n : Nat} {f g : Nat → Value} {v : Value} {sl : Nat} {ws : List Addr}
theorem Jar.lt (F : Jar Z h a ty n f) : a < h.size := by obtain ⟨cl, A, -⟩ := F; exact A.lt
theorem Jar.ext (F : Jar Z h a ty n f) (E : Ext h h') : Jar Z h' a ty n f := by obtain ⟨cl, A, r⟩ := F; exact ⟨cl, A.ext E, r⟩
theorem Jar.other (F : Jar Z h b ty n f) (W : Wr h h' a sl v) (q : b ≠ a) : Jar Z h' b ty n f := by obtain ⟨cl, A, r⟩ := F; exact ⟨cl, A.other W q, r⟩
theorem Jar.keep (F : Jar Z h a ty n f) (K : Keep h h' ws) (q : a ∉ ws) : Jar Z h' a ty n f := by obtain ⟨cl, A, r⟩ := F; exact ⟨cl, ⟨K.2.1 a cl A.1 q, A.2⟩, r⟩
theorem Jar.congr (F : Jar Z h a ty n f) (q : ∀ i, i < n → f i = g i) : Jar Z h a ty n g := by obtain ⟨cl, A, s1, s2⟩ := F; exact ⟨cl, A, s1, fun i hi => by rw [s2 i hi, q i hi]⟩
theorem Jar.new {k : ClassId} {z : Int32} (A : Arr Z h a (newA k ty z) ty) (hz : z.toNatClampNeg = n) : Jar Z h a ty n (fun _ => defaultValue ty) := ⟨_, A, (sz_new _ _ _).trans hz, fun i hi => by simp [newA, hz, hi]⟩
theorem Jar.set (F : Jar Z h a ty n f) (W : Wr h h' a sl v) : Jar Z h' a ty n (fun i => if i = sl then v else f i) := by
  obtain ⟨cl, A, s1, s2⟩ := F
  obtain ⟨c2, q1, -, q3, -⟩ := id W
  cases A.1.symm.trans q1
  refine ⟨_, Arr.same W A, by simp [Cell.setSlot, s1], fun i hi => ?_⟩
  by_cases q : i = sl
  · subst q; simp [Cell.setSlot, q3]
  · show (cl.slots.setIfInBounds sl v)[i]? = some (if i = sl then v else f i)
    rw [if_neg q, ← s2 i hi, Array.getElem?_setIfInBounds_ne (Ne.symm q)]
theorem Jar.ints (F : Jar Z h a ty n f) (H : ∀ i, ∃ x, f i = .int x) : ∃ g : Nat → Int32, Jar Z h a ty n (fun i => .int (g i)) := ⟨fun i => Classical.choose (H i), F.congr fun i _ => Classical.choose_spec (H i)⟩
theorem Jar.longs (F : Jar Z h a ty n f) (H : ∀ i, ∃ x, f i = .long x) : ∃ g : Nat → Int64, Jar Z h a ty n (fun i => .long (g i)) := ⟨fun i => Classical.choose (H i), F.congr fun i _ => Classical.choose_spec (H i)⟩
theorem inJ {cl : Cell} {j : Int32} (s1 : cl.slots.size = n) (hj : 0 ≤ j.toInt ∧ j.toInt < n) : ¬ (j < 0 ∨ cl.slots.size ≤ j.toNatClampNeg) := by
  rw [s1, Int32.lt_iff_toInt_lt]
  have e1 : (0 : Int32).toInt = 0 := rfl
  have e2 : j.toNatClampNeg = j.toInt.toNat := rfl
  omega
theorem natJ {j : Int32} (hj : 0 ≤ j.toInt ∧ j.toInt < n) : j.toNatClampNeg < n := by
  have e2 : j.toNatClampNeg = j.toInt.toNat := rfl
  omega
end JarS
theorem kLdI (X : Stand p l e R s m args below meth c T locs cells slots) (hx : p.tables.exec = Jvm.exec) (hZ : Z.Warmed39 s.vm) (eT : T.heap = h) {a : Addr} {n : Nat} {f : Nat → Value} (F : Jar Z h a .int n f) {j : Int32} {v : Value} (hj : 0 ≤ j.toInt ∧ j.toInt < n) (hv : f j.toNatClampNeg = v) {g : JFrame} (hg : g.method = m) {rest : List Value} (hs : g.stack = .int j :: .ref a :: rest) (hd : decode c.code g.pc = .ok (.iaload, 1)) :
    ∀ t, Steps p.tables e below (T.setTop { g with pc := g.pc + 1, stack := v :: rest }) t → Steps p.tables e below (T.setTop g) t := by
  obtain ⟨cl, A, s1, s2⟩ := F
  exact X.iaload hx (j := j) (v := v) (by rw [eT]; exact A.1) (State.isArrayOf_alike hZ.alike A.2.1) A.2.2 (inJ s1 hj) (by rw [s2 _ (natJ hj), hv]) hg hs hd
theorem kLdJ (X : Stand p l e R s m args below meth c T locs cells slots) (hx : p.tables.exec = Jvm.exec) (hZ : Z.Warmed39 s.vm) (eT : T.heap = h) {a : Addr} {n : Nat} {f : Nat → Value} (F : Jar Z h a .long n f) {j : Int32} {v : Value} (hj : 0 ≤ j.toInt ∧ j.toInt < n) (hv : f j.toNatClampNeg = v) {g : JFrame} (hg : g.method = m) {rest : List Value} (hs : g.stack = .int j :: .ref a :: rest) (hd : decode c.code g.pc = .ok (.laload, 1)) :
    ∀ t, Steps p.tables e below (T.setTop { g with pc := g.pc + 1, stack := v :: rest }) t → Steps p.tables e below (T.setTop g) t := by
  obtain ⟨cl, A, s1, s2⟩ := F
  exact X.laload hx (j := j) (v := v) (by rw [eT]; exact A.1) (State.isArrayOf_alike hZ.alike A.2.1) A.2.2 (inJ s1 hj) (by rw [s2 _ (natJ hj), hv]) hg hs hd
theorem kLdB (X : Stand p l e R s m args below meth c T locs cells slots) (hx : p.tables.exec = Jvm.exec) (hZ : Z.Warmed39 s.vm) (eT : T.heap = h) {a : Addr} {n : Nat} {f : Nat → Value} (F : Jar Z h a .byte n f) {j : Int32} {v : Value} (hj : 0 ≤ j.toInt ∧ j.toInt < n) (hv : f j.toNatClampNeg = v) {g : JFrame} (hg : g.method = m) {rest : List Value} (hs : g.stack = .int j :: .ref a :: rest) (hd : decode c.code g.pc = .ok (.baload, 1)) :
    ∀ t, Steps p.tables e below (T.setTop { g with pc := g.pc + 1, stack := v :: rest }) t → Steps p.tables e below (T.setTop g) t := by
  obtain ⟨cl, A, s1, s2⟩ := F
  exact X.baloadBytes hx (j := j) (v := v) (by rw [eT]; exact A.1) (State.isArrayOf_alike hZ.alike A.2.1) A.2.2 (inJ s1 hj) (by rw [s2 _ (natJ hj), hv]) hg hs hd
theorem kLdA (X : Stand p l e R s m args below meth c T locs cells slots) (hx : p.tables.exec = Jvm.exec) (hZ : Z.Warmed39 s.vm) (eT : T.heap = h) {a : Addr} {ty : FieldType} {n : Nat} {f : Nat → Value} (F : Jar Z h a ty n f) (hty : ty.isReference = true) {j : Int32} {v : Value} (hj : 0 ≤ j.toInt ∧ j.toInt < n) (hv : f j.toNatClampNeg = v) {g : JFrame} (hg : g.method = m) {rest : List Value} (hs : g.stack = .int j :: .ref a :: rest) (hd : decode c.code g.pc = .ok (.aaload, 1)) :
    ∀ t, Steps p.tables e below (T.setTop { g with pc := g.pc + 1, stack := v :: rest }) t → Steps p.tables e below (T.setTop g) t := by
  obtain ⟨cl, A, s1, s2⟩ := F
  exact X.aaload hx (j := j) (v := v) (by rw [eT]; exact A.1) (State.isArrayOf_alike hZ.alike A.2.1) hty A.2.2 (inJ s1 hj) (by rw [s2 _ (natJ hj), hv]) hg hs hd
theorem kLen (X : Stand p l e R s m args below meth c T locs cells slots) (hx : p.tables.exec = Jvm.exec) (hZ : Z.Warmed39 s.vm) (eT : T.heap = h) {a : Addr} {ty : FieldType} {n : Nat} {f : Nat → Value} (F : Jar Z h a ty n f) {z : Int32} (hz : n.toInt32 = z) {g : JFrame} (hg : g.method = m) {rest : List Value} (hs : g.stack = .ref a :: rest) (hd : decode c.code g.pc = .ok (.arraylength, 1)) :
    ∀ t, Steps p.tables e below (T.setTop { g with pc := g.pc + 1, stack := .int z :: rest }) t → Steps p.tables e below (T.setTop g) t := by
  obtain ⟨cl, A, s1, s2⟩ := F
  subst hz s1
  exact X.arraylength hx (by rw [eT]; exact A.1) (State.isArrayOf_alike hZ.alike A.2.1) hg hs hd
/-- a store: what the three kinds say alike -/
theorem kStI (X : Stand p l e R s m args below meth c T locs cells slots) (hx : p.tables.exec = Jvm.exec) (hZ : Z.Warmed39 s.vm) (eT : T.heap = h) {a : Addr} {n : Nat} {f : Nat → Value} (F : Jar Z h a .int n f) {j x : Int32} (hj : 0 ≤ j.toInt ∧ j.toInt < n) {g : JFrame} (hg : g.method = m) {rest : List Value} (hs : g.stack = .int x :: .int j :: .ref a :: rest) (hd : decode c.code g.pc = .ok (.iastore, 1)) :
    ∃ T' h', Stand p l e R s m args below meth c T' (locs ++ [⟨a, j.toNatClampNeg⟩]) cells slots ∧ T'.heap = h' ∧ Wr h h' a j.toNatClampNeg (.int x) ∧ ∀ target, Steps p.tables e below (T'.setTop { g with pc := g.pc + 1, stack := rest }) target → Steps p.tables e below (T.setTop g) target := by
  obtain ⟨cl, A, s1, s2⟩ := F
  exact stI X hx hZ eT A (inJ s1 hj) hg hs hd
theorem kStJ (X : Stand p l e R s m args below meth c T locs cells slots) (hx : p.tables.exec = Jvm.exec) (hZ : Z.Warmed39 s.vm) (eT : T.heap = h) {a : Addr} {n : Nat} {f : Nat → Value} (F : Jar Z h a .long n f) {j : Int32} {x : Int64} (hj : 0 ≤ j.toInt ∧ j.toInt < n) {g : JFrame} (hg : g.method = m) {rest : List Value} (hs : g.stack = .long x :: .int j :: .ref a :: rest) (hd : decode c.code g.pc = .ok (.lastore, 1)) :
    ∃ T' h', Stand p l e R s m args below meth c T' (locs ++ [⟨a, j.toNatClampNeg⟩]) cells slots ∧ T'.heap = h' ∧ Wr h h' a j.toNatClampNeg (.long x) ∧ ∀ target, Steps p.tables e below (T'.setTop { g with pc := g.pc + 1, stack := rest }) target → Steps p.tables e below (T.setTop g) target := by
  obtain ⟨cl, A, s1, s2⟩ := F
  exact stJ X hx hZ eT A (inJ s1 hj) hg hs hd
theorem kStB (X : Stand p l e R s m args below meth c T locs cells slots) (hx : p.tables.exec = Jvm.exec) (hZ : Z.Warmed39 s.vm) (eT : T.heap = h) {a : Addr} {n : Nat} {f : Nat → Value} (F : Jar Z h a .byte n f) {j x : Int32} (hj : 0 ≤ j.toInt ∧ j.toInt < n) {g : JFrame} (hg : g.method = m) {rest : List Value} (hs : g.stack = .int x :: .int j :: .ref a :: rest) (hd : decode c.code g.pc = .ok (.bastore, 1)) :
    ∃ T' h', Stand p l e R s m args below meth c T' (locs ++ [⟨a, j.toNatClampNeg⟩]) cells slots ∧ T'.heap = h' ∧ Wr h h' a j.toNatClampNeg (.int (x.toInt8.toInt32)) ∧ ∀ target, Steps p.tables e below (T'.setTop { g with pc := g.pc + 1, stack := rest }) target → Steps p.tables e below (T.setTop g) target := by
  obtain ⟨cl, A, s1, s2⟩ := F
  exact stB X hx hZ eT A (inJ s1 hj) hg hs hd
theorem kClone (X : Stand p l e R s m args below meth c T locs cells slots) (hx : p.tables.exec = Jvm.exec) (hZ : Z.Warmed39 s.vm) {own ad : String} {index : Nat} (hown : s.vm.findClass own = some m.cls)
    (w1 : (Jvm.Cond.methodLink own index ⟨ad, "clone", "()Ljava/lang/Object;"⟩).before a0 Z = true) (w2 : (Jvm.Cond.sameMethod ad "java/lang/Object" "clone" "()Ljava/lang/Object;").before a0 Z = true) (w3 : (Jvm.Cond.native ⟨"java/lang/Object", "clone", "()Ljava/lang/Object;"⟩).before a0 Z = true)
    (w4 : (Jvm.Cond.instanceMethod ⟨"java/lang/Object", "clone", "()Ljava/lang/Object;"⟩).before a0 Z = true) (w5 : (Jvm.Cond.selects ad ⟨ad, "clone", "()Ljava/lang/Object;"⟩ ⟨"java/lang/Object", "clone", "()Ljava/lang/Object;"⟩).before a0 Z = true) (w6 : (Jvm.Cond.castable ad "java/lang/Cloneable").before a0 Z = true)
    (eT : T.heap = h) {a : Addr} {ty : FieldType} {n : Nat} {f : Nat → Value} (F : Jar Z h a ty n f) (E : Exa Z h a ad) (hft : ∀ i, i < n → fits ty (f i) = true) {g : JFrame} (hg : g.method = m) (hsize : g.locals.size = c.maxLocals) {rest : List Value} (hs : g.stack = .ref a :: rest) (hd : decode c.code g.pc = .ok (.invokevirtual index, 3))
    (hf : 1 ≤ R.frames) {W cap : Nat} (hW : 2 * g.monitorRoom + (rest.map fun v => v.category).sum ≤ W) (hl : W + 14 ≤ R.locals) (hcap : n ≤ cap) (hc : cells + 1 ≤ R.cells) (hsl : slots + cap ≤ R.slots) :
    ∃ T' h', Stand p l e R s m args below meth c T' locs (cells + 1) (slots + cap) ∧ T'.heap = h' ∧ Ext h h' ∧ Jar Z h' h.size ty n f ∧ Exa Z h' h.size ad ∧
      ∀ target, Steps p.tables e below (T'.setTop { g with pc := g.pc + 3, stack := .ref h.size :: rest }) target → Steps p.tables e below (T.setTop g) target := by
  obtain ⟨cl, A, s1, s2⟩ := F
  have FC : FitC Z cl := fitC_of A fun i hi v hv => by rw [s2 i (s1 ▸ hi)] at hv; cases hv; exact hft i (s1 ▸ hi)
  obtain ⟨T', h', X', e', ex, A', E', st⟩ := cloneA X hx hZ hown w1 w2 w3 w4 w5 w6 eT A E FC hg hsize hs hd hf hW hl (by rw [s1]; exact hcap) hc hsl
  exact ⟨T', h', X', e', ex, ⟨cloneOf cl, A', s1, s2⟩, E', st⟩
theorem catR {v : Value} (h : v.isRef = true) : v.category = 1 := by cases v <;> first | rfl | (simp [Value.isRef] at h)
theorem narO {C : String} (v : Value) : narrow (.object C) v = v := by cases v <;> rfl
theorem fitO {C : String} {v : Value} (h : v.isRef = true) : fits (.object C) v = true := by cases v <;> first | rfl | (simp [Value.isRef] at h)
theorem own_len {s : State} {args : Array Value} {t : Term} {n : Int32} {ca : Addr} {c : Cell} (ev : t.eval args s none [] s = some (.ref ca)) (ha : s.arrayAt? ca = some c) (w : (Jvm.Cond.eq (.length t) (.int n)).value args s none s [] = some true) : c.slots.size < 2 ^ 31 ∧ c.slots.size.toInt32 = n := by
  by_cases h : c.slots.size < 2 ^ 31
  · refine ⟨h, ?_⟩
    simpa [Cond.value, Term.eval, ev, ha, h] using w
  · simp [Cond.value, Term.eval, ev, ha, h] at w
theorem own_nat {k : Nat} {n : Int32} {K : Nat} (h : k < 2 ^ 31) (e : k.toInt32 = n) (hn : n.toInt = K) : k = K := by
  have := len_toInt h
  rw [e, hn] at this
  omega
theorem own_elem {s : State} {args : Array Value} {C D E : String} {K : String} {ca : Addr} {c : Cell} {i : Nat} (ev : (Term.static C D E).eval args s none [] s = some (.ref ca)) (hc : s.heap[ca]? = some c) (hi : i < 2 ^ 31) (w : (Jvm.Cond.exactly ((Term.static C D E).elem (.index 0)) K).value args s none s [i] = some true) :
    ∃ b, c.slots[i]? = some (.ref b) ∧ Exa s s.heap b K := by
  obtain ⟨b, eb⟩ := exa_v w
  have ev' : (Term.static C D E).eval args s none [i] s = some (.ref ca) := ev
  have ei : (Term.index 0).eval args s none [i] s = some (.int i.toInt32) := Term.index_eval _
  have q := (elem_in eb ev' ei hc).2
  have en : i.toInt32.toNatClampNeg = i := by
    have := len_toInt hi
    have e : i.toInt32.toNatClampNeg = i.toInt32.toInt.toNat := rfl
    omega
  rw [en] at q
  exact ⟨b, q, exa_at eb w⟩
theorem own_eqI {s : State} {args : Array Value} {t : Term} {n : Int32} (w : (Jvm.Cond.eq t (.int n)).value args s none s [] = some true) : t.eval args s none [] s = some (.int n) := by
  cases ht : t.eval args s none [] s with
  | none => simp [Cond.value, ht] at w
  | some x => cases x <;> simp [Cond.value, Term.eval, ht] at w ⊢; exact w
/-- what a body that writes nothing and makes nothing leaves -/
def PQ (r : Option Value) (h0 : Heap) : Option Value → Heap → List Loc → Prop := fun v h L => v = r ∧ L = [] ∧ h = h0
/-- what the law leaves -/
def LQ (n0 : Nat) : Option Value → Heap → List Loc → Prop := fun v _ L => v = some (.int 1) ∧ Fr n0 L
end OwnKit
section OwnS
variable {p : Program} {l : Launch} {e : Env} {R : Room} {s : State} {m : MethodId} {args : Array Value} {below : List Frame} {meth : Method} {c : Code} {T : State} {locs : List Loc} {cells slots : Nat} {Z : State} {a0 : Array Value} {h h' : Heap} {vm1 : Vm}
theorem kLdC (X : Stand p l e R s m args below meth c T locs cells slots) (hx : p.tables.exec = Jvm.exec) (hZ : Z.Warmed39 s.vm) (eT : T.heap = h) {a : Addr} {n : Nat} {f : Nat → Value} (F : Jar Z h a .char n f) {j : Int32} {v : Value} (hj : 0 ≤ j.toInt ∧ j.toInt < n) (hv : f j.toNatClampNeg = v) {g : JFrame} (hg : g.method = m) {rest : List Value} (hs : g.stack = .int j :: .ref a :: rest) (hd : decode c.code g.pc = .ok (.caload, 1)) :
    ∀ t, Steps p.tables e below (T.setTop { g with pc := g.pc + 1, stack := v :: rest }) t → Steps p.tables e below (T.setTop g) t := by
  obtain ⟨cl, A, s1, s2⟩ := F
  exact X.caload hx (j := j) (v := v) (by rw [eT]; exact A.1) (State.isArrayOf_alike hZ.alike A.2.1) A.2.2 (inJ s1 hj) (by rw [s2 _ (natJ hj), hv]) hg hs hd
theorem kStC (X : Stand p l e R s m args below meth c T locs cells slots) (hx : p.tables.exec = Jvm.exec) (hZ : Z.Warmed39 s.vm) (eT : T.heap = h) {a : Addr} {n : Nat} {f : Nat → Value} (F : Jar Z h a .char n f) {j x : Int32} (hj : 0 ≤ j.toInt ∧ j.toInt < n) {g : JFrame} (hg : g.method = m) {rest : List Value} (hs : g.stack = .int x :: .int j :: .ref a :: rest) (hd : decode c.code g.pc = .ok (.castore, 1)) :
    ∃ T' h', Stand p l e R s m args below meth c T' (locs ++ [⟨a, j.toNatClampNeg⟩]) cells slots ∧ T'.heap = h' ∧ Wr h h' a j.toNatClampNeg (.int (nar .char x)) ∧ ∀ target, Steps p.tables e below (T'.setTop { g with pc := g.pc + 1, stack := rest }) target → Steps p.tables e below (T.setTop g) target := by
  obtain ⟨cl, A, s1, s2⟩ := F
  have hj' := inJ s1 hj
  obtain ⟨X', st⟩ := castoreIn X hx (by rw [eT]; exact A.1) (State.isArrayOf_alike hZ.alike A.2.1) A.2.2 hj' hg hs hd
  exact ⟨_, _, X', rfl, ⟨cl, A.1, A.plain, Nat.lt_of_not_le fun q => hj' (Or.inr q), by rw [← eT]; rfl⟩, st⟩
/-- how a body ends that may have interned a String constant -/
abbrev EndS (s : State) (rm : Room) (Q : Option Value → Heap → List Loc → Prop) : State → Outcome → Prop :=
  fun U o => ∃ v L, o = .returned v ∧ Q v U.heap L ∧ ReturnedEndW s o U L rm.cells rm.slots
/-- a contract of such a body; P: what it asks of the VM's tables -/
def ConS (l : Launch) (Z : State) (y : MethodName) (bytes : ByteArray) (mx : Nat) (rt : Option FieldType) (rm : Room) (as : Array Value) (h : Heap) (P : Vm → Prop) (Q : Option Value → Heap → List Loc → Prop) : Prop :=
  ∀ ws : List Jvm.Cond, MetFree l y (head1 (Jvm.Cond.code y bytes mx rt :: ws) rm) (fun a U => a = as ∧ Z.Warmed39 U.vm ∧ U.heap = h ∧ P U.vm) (fun _ _ _ _ _ => True) (fun _ U o U' => ∃ v L, o = .returned v ∧ Q v U'.heap L ∧ ReturnedEndW U o U' L rm.cells rm.slots)
theorem ConS.intro {y : MethodName} {bytes : ByteArray} {mx : Nat} {rt : Option FieldType} {rm : Room} {as : Array Value} {P : Vm → Prop} {Q : Option Value → Heap → List Loc → Prop} (hp : plainFor y = true)
    (body : ∀ (p : Program) (e : Env) (s : State) (m : MethodId) (below : List Frame) (meth : Method) (c : Code) (s₁ : State), p.tables.exec = Jvm.exec → c.code = bytes → c.maxLocals = mx → meth.sig.returnType = rt → meth.locks = false → Z.Warmed39 s.vm → s.vm.findClass y.cls = some m.cls → meth.name = y.name → P s.vm →
      Stand p l e rm s m as below meth c s₁ [] 0 0 → s₁.heap = h → GoOn p e below (EndS s rm Q) (s₁.setTop (entryFrame m as mx))) : ConS l Z y bytes mx rt rm as h P Q := fun ws => by
  refine MetFree.of_bodySF hp hisR ?_
  intro p e s m args below meth c s₁ Bd hml0 hP hK
  obtain ⟨rfl, hZ, hh, hPv⟩ := hP
  have X0 : Stand p l e rm s m args below meth c s₁ [] 0 0 := Stand.of_body Bd
  obtain ⟨t, o, h1, h2, h3, h4⟩ := body p e s m below meth c s₁ Bd.exec Bd.bytes hml0 Bd.returns Bd.notSynchronized hZ (findClass_of_methodNamed Bd.named) (name_of_methodNamed Bd.named Bd.method).1 hPv X0 (by rw [← hh, Bd.state]; rfl)
  exact ⟨t, o, h1, h2, h3, h4⟩
theorem rEW.mono {U U' : State} {o : Outcome} {L : List Loc} {k n k' n' : Nat} (q : ReturnedEndW U o U' L k n) (h1 : k ≤ k') (h2 : n ≤ n') : ReturnedEndW U o U' L k' n' := ⟨q.1, q.2.1, q.2.2.1, q.2.2.2.mono h1 h2⟩
theorem GoOn.ret0S (X : Stand p l e R (s.setVm vm1) m args below meth c T locs cells slots) {n : Nat} (hS : s.Since vm1 n) (hn : n ≤ T.heap.size) (hx : p.tables.exec = Jvm.exec) (hrt : meth.sig.returnType = none) (hlk : meth.locks = false) {rm : Room} {Q : Option Value → Heap → List Loc → Prop} {pc : Nat} {Ls : Array Slot}
    (hd : decode c.code pc = .ok (.return_, 1)) (hc : cells ≤ rm.cells) (hs : slots ≤ rm.slots) (hQ : Q none T.heap locs) : GoOn p e below (EndS s rm Q) (T.setTop (mkF m pc Ls [])) := by
  obtain ⟨fs, hr, hrun, hended, hW⟩ := X.leaveW hS hn (v := none) (fun _ => rfl) hlk
  exact ⟨_, _, X.returnOut hx hrt hd hr, hrun, hended, _, _, rfl, hQ, rEW.mono hW hc hs⟩
theorem GoOn.retNS (X : Stand p l e R (s.setVm vm1) m args below meth c T locs cells slots) {n : Nat} (hS : s.Since vm1 n) (hn : n ≤ T.heap.size) (hx : p.tables.exec = Jvm.exec) {t : FieldType} (hrt : meth.sig.returnType = some t) (hlk : meth.locks = false) {rm : Room} {Q : Option Value → Heap → List Loc → Prop} {pc : Nat} {Ls : Array Slot} {z : Int32} {rest : List Value} (ht : t = .boolean ∨ t = .byte ∨ t = .char ∨ t = .short)
    (hd : decode c.code pc = .ok (.ireturn, 1)) (hc : cells ≤ rm.cells) (hs : slots ≤ rm.slots) (hQ : Q (some (.int (nar t z))) T.heap locs) : GoOn p e below (EndS s rm Q) (T.setTop (mkF m pc Ls (.int z :: rest))) := by
  obtain ⟨fs, hr, hrun, hended, hW⟩ := X.leaveW hS hn (v := some (.int (nar t z))) (fun h => by rw [hrt] at h; cases h) hlk
  exact ⟨_, _, Jvm.RoadKit.retN X hx hrt ht hd hr, hrun, hended, _, _, rfl, hQ, rEW.mono hW hc hs⟩
theorem GoOn.retIS (X : Stand p l e R (s.setVm vm1) m args below meth c T locs cells slots) {n : Nat} (hS : s.Since vm1 n) (hn : n ≤ T.heap.size) (hx : p.tables.exec = Jvm.exec) (hrt : meth.sig.returnType = some .int) (hlk : meth.locks = false) {rm : Room} {Q : Option Value → Heap → List Loc → Prop} {pc : Nat} {Ls : Array Slot} {z : Int32} {rest : List Value}
    (hd : decode c.code pc = .ok (.ireturn, 1)) (hc : cells ≤ rm.cells) (hs : slots ≤ rm.slots) (hQ : Q (some (.int z)) T.heap locs) : GoOn p e below (EndS s rm Q) (T.setTop (mkF m pc Ls (.int z :: rest))) := by
  obtain ⟨fs, hr, hrun, hended, hW⟩ := X.leaveW hS hn (v := some (.int z)) (fun h => by rw [hrt] at h; cases h) hlk
  exact ⟨_, _, Jvm.RoadKit.retOut X hx hrt rfl (Or.inl ⟨rfl, Or.inl rfl, _, rfl⟩) hd hr, hrun, hended, _, _, rfl, hQ, rEW.mono hW hc hs⟩
theorem backOfP {y : MethodName} {bytes : ByteArray} {maxL : Nat} {ret : Option FieldType} {rm : Room} {len W : Nat} {as' : Array Value} {P : Vm → Prop} {Q : Option Value → Heap → List Loc → Prop}
    (hM : MetFree l y (head1 [Cond.code y bytes maxL ret] rm) (fun a U => a = as' ∧ Z.Warmed39 U.vm ∧ U.heap = h ∧ P U.vm) (fun _ _ _ _ _ => True) (fun _ U o U' => ∃ v L, o = .returned v ∧ Q v U'.heap L ∧ ReturnedEndW U o U' L rm.cells rm.slots))
    (hZ : Z.Warmed39 s.vm) (hP : ∀ vm, s.WarmedH vm → P vm) (wc : (Cond.code y bytes maxL ret).before a0 Z = true) (wz : (Cond.initialized y.cls).before a0 Z = true) (hf : rm.frames + 1 ≤ R.frames) (hl : W + (maxL + 11) + rm.locals ≤ R.locals) :
    BackS l R p e below s args y len W (fun A a => a = as' ∧ A.U.heap = h ∧ A.cells + rm.cells ≤ R.cells ∧ A.slots + rm.slots ≤ R.slots)
      (fun A _ v B => ∃ L, Q v B.U.heap L ∧ B.locs = A.locs ++ L ∧ B.cells = A.cells + rm.cells ∧ B.slots = A.slots + rm.slots) :=
  BackS.of_freeW (bytes := bytes) (maxL := maxL) (ret := ret) (E := fun _ _ o t L k n => k = rm.cells ∧ n = rm.slots ∧ ∃ v, o = .returned v ∧ Q v t.heap L) hM hf hl
    (fun m meth c A a Y hp => have hU : Z.Warmed39 A.U.vm := wtrans hZ Y.warmed
      ⟨by show (Cond.and _ .tt).before a A.U = true; rw [Cond.before_and, mv hU wc]; rfl, mv hU wc, mv hU wz, hp.2.2.1, hp.2.2.2⟩)
    (fun m meth c A a g mk Y hp => ⟨hp.1, wtrans hZ Y.warmed, hp.2.1, hP _ Y.warmed⟩) (fun _ _ _ _ _ _ _ _ _ => trivial)
    (fun _ _ _ _ ⟨v, L, h1, h2, h3⟩ => ⟨L, _, _, h3, rfl, rfl, v, h1, h2⟩)
    (fun m meth c A a g mk v t L k n Y hp _ _ ⟨e1, e2, v', e3, e4⟩ => by cases e3; subst e1 e2; exact ⟨L, e4, rfl, rfl, rfl⟩)
theorem kCallIS (X : Stand p l e R s m args below meth c T locs cells slots) (hx : p.tables.exec = Jvm.exec) (hZ : Z.Warmed39 s.vm) {own : String} {index : Nat} {y : MethodName} {bytes : ByteArray} {mx : Nat} {rm : Room} {P : Vm → Prop} {Q : Option Value → Heap → List Loc → Prop} {a : Addr} {argsL rest : List Value}
    (K : ConS l Z y bytes mx none rm (.ref a :: argsL).toArray h P Q) (hP : ∀ vm, s.WarmedH vm → P vm) (hy1 : y.name = "<init>") (hown : s.vm.findClass own = some m.cls) (w1 : (Jvm.Cond.methodLink own index y).before a0 Z = true) (w2 : (Jvm.Cond.instanceMethod y).before a0 Z = true) (w3 : (Jvm.Cond.initialized y.cls).before a0 Z = true) (w4 : (Jvm.Cond.code y bytes mx none).before a0 Z = true)
    (hy : y.cls ≠ "java/lang/invoke/MethodHandle" ∧ y.cls ≠ "java/lang/invoke/VarHandle") (eT : T.heap = h) {g : JFrame} (hg : g.method = m) (hsize : g.locals.size = c.maxLocals) (hlen : ∀ sig, parseMethodDescriptor y.desc = some sig → argsL.length = sig.parameters.length) (hstack : g.stack = argsL.reverse ++ .ref a :: rest)
    {W : Nat} (hW : 2 * g.monitorRoom + (rest.map fun v => v.category).sum ≤ W) (hd : decode c.code g.pc = .ok (.invokespecial index, 3)) (hf : rm.frames + 1 ≤ R.frames) (hl : W + (mx + 11) + rm.locals ≤ R.locals) (hc : cells + rm.cells ≤ R.cells) (hs : slots + rm.slots ≤ R.slots) :
    ∃ v T' L, Stand p l e R (s.setVm T'.vm) m args below meth c T' (locs ++ L) (cells + rm.cells) (slots + rm.slots) ∧ Q v T'.heap L ∧ s.Since T'.vm T'.heap.size ∧ Z.Warmed39 (s.setVm T'.vm).vm ∧ (s.setVm T'.vm).vm.findClass own = some m.cls ∧ ∀ target, Steps p.tables e below (T'.setTop { g with pc := g.pc + 3, stack := v.toList ++ rest }) target → Steps p.tables e below (T.setTop g) target := by
  obtain ⟨v, _, ⟨T', L', k', n'⟩, -, X', hS, -, ⟨L, hQ, l1, l2, l3⟩, st⟩ := X.specialBackS hx (y := y) hy1 hown (mvT hZ w1) (mvT hZ w2) (mvT hZ w4) hy (backOfP (W := W) (K []) hZ hP w4 w3 hf hl) hg hsize (Steps.refl _) (a := a) hlen hstack hW hd (fun _ _ => ⟨rfl, eT, hc, hs⟩)
  dsimp only [Pt.U, Pt.locs, Pt.cells, Pt.slots] at X' l1 l2 l3 hQ st hS
  subst l1 l2 l3
  exact ⟨v, T', L, X', hQ, hS, State.Warmed39.trans hZ hS.1, by rw [show (s.setVm T'.vm).vm = T'.vm from rfl, hS.1.alike.findClass]; exact hown, fun t k => st.trans k⟩
end OwnS
section OwnW
variable {p : Program} {l : Launch} {e : Env} {R : Room} {s : State} {m : MethodId} {args : Array Value} {below : List Frame} {meth : Method} {c : Code} {T : State} {locs : List Loc} {cells slots : Nat} {Z : State} {a0 : Array Value} {h h' : Heap} {vm1 : Vm}
/-- a contract of a body with an exception table (its walk throws nothing) -/
def ConW (l : Launch) (Z : State) (y : MethodName) (bytes : ByteArray) (mx : Nat) (rt : Option FieldType) (hs : List (Nat × Nat × Nat × Nat)) (rm : Room) (as : Array Value) (h : Heap) (Q : Option Value → Heap → List Loc → Prop) : Prop :=
  ∀ ws : List Jvm.Cond, MetFree l y (head1 (Jvm.Cond.codeWith y bytes mx rt hs :: ws) rm) (fun a U => a = as ∧ Z.Warmed39 U.vm ∧ U.heap = h) (fun _ _ _ _ _ => True) (fun _ U o U' => ∃ v L, o = .returned v ∧ Q v U'.heap L ∧ FrameEnd U o U' L rm.cells rm.slots)
theorem ConW.intro {y : MethodName} {bytes : ByteArray} {mx : Nat} {rt : Option FieldType} {hs : List (Nat × Nat × Nat × Nat)} {rm : Room} {as : Array Value} {Q : Option Value → Heap → List Loc → Prop} (hp : plainFor y = true)
    (body : ∀ (p : Program) (e : Env) (s : State) (m : MethodId) (below : List Frame) (meth : Method) (c : Code) (s₁ : State), p.tables.exec = Jvm.exec → c.code = bytes → c.maxLocals = mx → meth.sig.returnType = rt → meth.locks = false → Z.Warmed39 s.vm → s.vm.findClass y.cls = some m.cls → meth.name = y.name →
      Stand p l e rm s m as below meth c s₁ [] 0 0 → s₁.heap = h → GoOn p e below (EndQ s rm Q) (s₁.setTop (entryFrame m as mx))) : ConW l Z y bytes mx rt hs rm as h Q := fun ws => by
  refine MetFree.of_bodySF hp hisWith ?_
  intro p e s m args below meth c s₁ Bd hml0 hP hK
  obtain ⟨rfl, hZ, hh⟩ := hP
  have X0 : Stand p l e rm s m args below meth c s₁ [] 0 0 := Stand.of_body Bd
  obtain ⟨t, o, h1, h2, h3, h4⟩ := body p e s m below meth c s₁ Bd.exec Bd.bytes hml0 Bd.returns Bd.notSynchronized hZ (findClass_of_methodNamed Bd.named) (name_of_methodNamed Bd.named Bd.method).1 X0 (by rw [← hh, Bd.state]; rfl)
  exact ⟨t, o, h1, h2, h3, h4⟩
theorem kCallIW (X : Stand p l e R s m args below meth c T locs cells slots) (hx : p.tables.exec = Jvm.exec) (hZ : Z.Warmed39 s.vm) {own : String} {index : Nat} {y : MethodName} {bytes : ByteArray} {mx : Nat} {hs' : List (Nat × Nat × Nat × Nat)} {rm : Room} {Q : Option Value → Heap → List Loc → Prop} {a : Addr} {argsL rest : List Value}
    (K : ConW l Z y bytes mx none hs' rm (.ref a :: argsL).toArray h Q) (hy1 : y.name = "<init>") (hown : s.vm.findClass own = some m.cls) (w1 : (Jvm.Cond.methodLink own index y).before a0 Z = true) (w2 : (Jvm.Cond.instanceMethod y).before a0 Z = true) (w3 : (Jvm.Cond.initialized y.cls).before a0 Z = true) (w4 : (Jvm.Cond.codeWith y bytes mx none hs').before a0 Z = true)
    (hy : y.cls ≠ "java/lang/invoke/MethodHandle" ∧ y.cls ≠ "java/lang/invoke/VarHandle") (eT : T.heap = h) {g : JFrame} (hg : g.method = m) (hsize : g.locals.size = c.maxLocals) (hlen : ∀ sig, parseMethodDescriptor y.desc = some sig → argsL.length = sig.parameters.length) (hstack : g.stack = argsL.reverse ++ .ref a :: rest)
    {W : Nat} (hW : 2 * g.monitorRoom + (rest.map fun v => v.category).sum ≤ W) (hd : decode c.code g.pc = .ok (.invokespecial index, 3)) (hf : rm.frames + 1 ≤ R.frames) (hl : W + (mx + 11) + rm.locals ≤ R.locals) (hc : cells + rm.cells ≤ R.cells) (hs : slots + rm.slots ≤ R.slots) :
    ∃ v T' L, Stand p l e R s m args below meth c T' (locs ++ L) (cells + rm.cells) (slots + rm.slots) ∧ Q v T'.heap L ∧ ∀ target, Steps p.tables e below (T'.setTop { g with pc := g.pc + 3, stack := v.toList ++ rest }) target → Steps p.tables e below (T.setTop g) target := by
  obtain ⟨v, _, ⟨T', L', k', n'⟩, -, X', ⟨L, hQ, l1, l2, l3⟩, st⟩ := X.specialBackH hx (y := y) hy1 hown (mvT hZ w1) (mvT hZ w2) (mv hZ w4) hy (backOfWith (W := W) (K []) hZ w4 w3 hf hl) hg hsize (Steps.refl _) (a := a) hlen hstack hW hd (fun _ _ => ⟨rfl, eT, hc, hs⟩)
  dsimp only [Pt.U, Pt.locs, Pt.cells, Pt.slots] at X' l1 l2 l3 hQ st
  subst l1 l2 l3
  exact ⟨v, T', L, X', hQ, fun t k => st.trans k⟩
/-- an instance method that may intern, by its contract -/
theorem kCallVS (X : Stand p l e R s m args below meth c T locs cells slots) (hx : p.tables.exec = Jvm.exec) (hZ : Z.Warmed39 s.vm) {own C : String} {index : Nat} {y z : MethodName} {bytes : ByteArray} {mx : Nat} {rt : Option FieldType} {rm : Room} {P : Vm → Prop} {Q : Option Value → Heap → List Loc → Prop} {a : Addr} {argsL rest : List Value}
    (K : ConS l Z z bytes mx rt rm (.ref a :: argsL).toArray h P Q) (hP : ∀ vm, s.WarmedH vm → P vm) (hown : s.vm.findClass own = some m.cls) (w1 : (Jvm.Cond.methodLink own index y).before a0 Z = true) (wd : (Jvm.Cond.declares y).before a0 Z = true) (hnf : NotFace s y) (ws : (Jvm.Cond.selects C y z).before a0 Z = true) (w2 : (Jvm.Cond.instanceMethod z).before a0 Z = true) (w3 : (Jvm.Cond.initialized z.cls).before a0 Z = true) (w4 : (Jvm.Cond.code z bytes mx rt).before a0 Z = true)
    (hy : y.cls ≠ "java/lang/invoke/MethodHandle" ∧ y.cls ≠ "java/lang/invoke/VarHandle") (eT : T.heap = h) (E : Exa Z h a C) {g : JFrame} (hg : g.method = m) (hsize : g.locals.size = c.maxLocals) (hlen : ∀ sig, parseMethodDescriptor y.desc = some sig → argsL.length = sig.parameters.length) (hstack : g.stack = argsL.reverse ++ .ref a :: rest)
    {W : Nat} (hW : 2 * g.monitorRoom + (rest.map fun v => v.category).sum ≤ W) (hd : decode c.code g.pc = .ok (.invokevirtual index, 3)) (hf : rm.frames + 1 ≤ R.frames) (hl : W + (mx + 11) + rm.locals ≤ R.locals) (hc : cells + rm.cells ≤ R.cells) (hs : slots + rm.slots ≤ R.slots) :
    ∃ v T' L, Stand p l e R (s.setVm T'.vm) m args below meth c T' (locs ++ L) (cells + rm.cells) (slots + rm.slots) ∧ Q v T'.heap L ∧ s.Since T'.vm T'.heap.size ∧ Z.Warmed39 (s.setVm T'.vm).vm ∧ (s.setVm T'.vm).vm.findClass own = some m.cls ∧ ∀ target, Steps p.tables e below (T'.setTop { g with pc := g.pc + 3, stack := v.toList ++ rest }) target → Steps p.tables e below (T.setTop g) target := by
  obtain ⟨cB, kB, q1, q2, q3⟩ := isOf hZ eT E
  obtain ⟨v, _, ⟨T', L', k', n'⟩, -, X', hS, -, ⟨L, hQ, l1, l2, l3⟩, st⟩ := X.virtualBackS hx (y := y) (z := z) hown (mvT hZ w1) (mvT hZ wd) hnf (mvT hZ ws) (mvT hZ w2) hy (backOfP (W := W) (K []) hZ hP w4 w3 hf hl) q1 q3 hg hsize (Steps.refl _) hlen hstack hW hd (fun _ _ => ⟨rfl, eT, hc, hs⟩)
  dsimp only [Pt.U, Pt.locs, Pt.cells, Pt.slots] at X' l1 l2 l3 hQ st hS
  subst l1 l2 l3
  exact ⟨v, T', L, X', hQ, hS, State.Warmed39.trans hZ hS.1, by rw [show (s.setVm T'.vm).vm = T'.vm from rfl, hS.1.alike.findClass]; exact hown, fun t k => st.trans k⟩
theorem Jar.arv {a : Addr} {n : Nat} {f : Nat → Value} {d : Value} (F : Jar Z h a .byte n f) (hf : ∀ i, i < n → fits .byte (f i) = true) (hn : n < 2 ^ 31) : ∃ k, Arv Z h a k .byte n.toInt32 ((List.range n).map f) d := by
  obtain ⟨cl, A, s1, s2⟩ := F
  have e := len_toInt hn
  have en : n.toInt32.toNatClampNeg = n := by have e2 : n.toInt32.toNatClampNeg = n.toInt32.toInt.toNat := rfl; omega
  refine ⟨_, cl, A, rfl, by rw [en, s1], by rw [Int32.lt_iff_toInt_lt, e, show (0 : Int32).toInt = 0 from rfl]; omega, fun j hj => ?_, fun j hj => ?_⟩
  · rw [s2 j (s1 ▸ hj)]; simp [s1 ▸ hj]
  · have q : j < n := s1 ▸ hj
    simp [q]; exact hf j q
/-- the whole of a byte array filled out of another one -/
theorem kCopy (X : Stand p l e R s m args below meth c T locs cells slots) (hx : p.tables.exec = Jvm.exec) (hZ : Z.Warmed39 s.vm) {own : String} {index : Nat} (hown : s.vm.findClass own = some m.cls)
    (w1 : (Jvm.Cond.methodLink own index Jvm.Stand.acN).before a0 Z = true) (w2 : (Jvm.Cond.native Jvm.Stand.acN).before a0 Z = true) (w3 : (Jvm.Cond.static Jvm.Stand.acN).before a0 Z = true) (w4 : (Jvm.Cond.initialized "java/lang/System").before a0 Z = true) (eT : T.heap = h)
    {a b : Addr} {n k : Nat} {f g0 : Nat → Value} (F : Jar Z h a .byte n f) (G : Jar Z h b .byte k g0) (hfa : ∀ i, i < n → fits .byte (f i) = true) (hgb : ∀ i, i < k → fits .byte (g0 i) = true) (hn : n < 2 ^ 31) (hk : k < 2 ^ 31)
    {sp nn : Int32} (h1 : 0 ≤ sp.toInt) (hnn : nn.toInt = k) (h4 : sp.toNatClampNeg + k ≤ n) {n0 : Nat} (N : Fr n0 locs) (ge : n0 ≤ b)
    {g : JFrame} (hg : g.method = m) (hsize : g.locals.size = c.maxLocals) {rest : List Value} (hs : g.stack = .int nn :: .int (0 : Int32) :: .ref b :: .int sp :: .ref a :: rest) (hd : decode c.code g.pc = .ok (.invokestatic index, 3))
    (hf : 1 ≤ R.frames) {W : Nat} (hW : 2 * g.monitorRoom + (rest.map fun v => v.category).sum ≤ W) (hlo : W + (nativeFrameWords "java/lang/System" "arraycopy" 5 + 11) ≤ R.locals) :
    ∃ T' h' L, Stand p l e R s m args below meth c T' L cells slots ∧ T'.heap = h' ∧ Fr n0 L ∧ Keep h h' [b] ∧ Jar Z h' b .byte k (fun i => f (sp.toNatClampNeg + i)) ∧
      ∀ target, Steps p.tables e below (T'.setTop { g with pc := g.pc + 3, stack := rest }) target → Steps p.tables e below (T.setTop g) target := by
  obtain ⟨ka, A⟩ := F.arv (d := .int 0) hfa hn
  obtain ⟨kb, B⟩ := G.arv (d := .int 0) hgb hk
  have e0 : (0 : Int32).toInt = 0 := rfl
  have en := len_toInt hn; have ek := len_toInt hk
  have cn : n.toInt32.toNatClampNeg = n := by have e2 : n.toInt32.toNatClampNeg = n.toInt32.toInt.toNat := rfl; omega
  have ck : k.toInt32.toNatClampNeg = k := by have e2 : k.toInt32.toNatClampNeg = k.toInt32.toInt.toNat := rfl; omega
  have cnn : nn.toNatClampNeg = k := by have e2 : nn.toNatClampNeg = nn.toInt.toNat := rfl; omega
  have c0 : (0 : Int32).toNatClampNeg = 0 := rfl
  obtain ⟨T', h', L, X', e', N', K, D, st⟩ := cpA X hx hZ hown w1 w2 w3 w4 eT A B (Or.inl ⟨rfl, rfl⟩) (sp := sp) (dp := 0) (nn := nn) (by rw [Int32.lt_iff_toInt_lt, e0]; omega) (by decide) (by rw [Int32.lt_iff_toInt_lt, e0]; omega) (by rw [cnn, cn]; exact h4) (by rw [cnn, ck, c0]; omega) rfl (by rw [cnn, c0]; simp) N ge hg hsize hs hd hf hW hlo
  refine ⟨T', h', L, X', e', N', K, ?_, st⟩
  obtain ⟨cl, A1, -, A3, -, A5, -⟩ := D
  refine ⟨cl, A1, by rw [A3, ck], fun i hi => ?_⟩
  rw [A5 i (by rw [A3, ck]; exact hi), cnn, c0]
  have q1 : sp.toNatClampNeg + i < n := by omega
  simp [hi, q1]
/-- an inherited instance method by its contract -/
theorem kCallU (X : Stand p l e R s m args below meth c T locs cells slots) (hx : p.tables.exec = Jvm.exec) (hZ : Z.Warmed39 s.vm) {own C owner : String} {index : Nat} {x y : MethodName} {bytes : ByteArray} {mx : Nat} {rt : Option FieldType} {rm : Room} {Q : Option Value → Heap → List Loc → Prop} {a : Addr} {argsL rest : List Value}
    (K : Con l Z y bytes mx rt rm (.ref a :: argsL).toArray h Q) (hown : s.vm.findClass own = some m.cls) (w1 : (Jvm.Cond.methodLink own index x).before a0 Z = true) (wm : (Jvm.Cond.sameMethod x.cls owner x.name x.desc).before a0 Z = true) (wd : (Jvm.Cond.declares ⟨owner, x.name, x.desc⟩).before a0 Z = true) (ho : owner ≠ "java/lang/invoke/MethodHandle" ∧ owner ≠ "java/lang/invoke/VarHandle") (ws : (Jvm.Cond.selects C x y).before a0 Z = true) (w2 : (Jvm.Cond.instanceMethod y).before a0 Z = true) (w3 : (Jvm.Cond.initialized y.cls).before a0 Z = true) (w4 : (Jvm.Cond.code y bytes mx rt).before a0 Z = true)
    (eT : T.heap = h) (E : Exa Z h a C) {g : JFrame} (hg : g.method = m) (hsize : g.locals.size = c.maxLocals) (hlen : ∀ sig, parseMethodDescriptor x.desc = some sig → argsL.length = sig.parameters.length) (hstack : g.stack = argsL.reverse ++ .ref a :: rest)
    {W : Nat} (hW : 2 * g.monitorRoom + (rest.map fun v => v.category).sum ≤ W) (hd : decode c.code g.pc = .ok (.invokevirtual index, 3)) (hf : rm.frames + 1 ≤ R.frames) (hl : W + (mx + 11) + rm.locals ≤ R.locals) (hc : cells + rm.cells ≤ R.cells) (hs : slots + rm.slots ≤ R.slots) :
    ∃ v T' L, Stand p l e R s m args below meth c T' (locs ++ L) (cells + rm.cells) (slots + rm.slots) ∧ Q v T'.heap L ∧ ∀ target, Steps p.tables e below (T'.setTop { g with pc := g.pc + 3, stack := v.toList ++ rest }) target → Steps p.tables e below (T.setTop g) target := by
  obtain ⟨cB, kB, q1, q2, q3⟩ := isOf hZ eT E
  obtain ⟨v, _, ⟨T', L', k', n'⟩, -, X', ⟨L, hQ, l1, l2, l3⟩, st⟩ := X.virtualBackUp hx (x := x) (y := y) hown (mvT hZ w1) (mvT hZ wm) (mvT hZ wd) ho (mvT hZ ws) (mvT hZ w2) (backOf (W := W) (K []) hZ w4 w3 hf hl) q1 q3 hg hsize (Steps.refl _) hlen hstack hW hd (fun _ _ => ⟨rfl, eT, hc, hs⟩)
  dsimp only [Pt.U, Pt.locs, Pt.cells, Pt.slots] at X' l1 l2 l3 hQ st
  subst l1 l2 l3
  exact ⟨v, T', L, X', hQ, fun t k => st.trans k⟩
end OwnW
section OwnH
variable {p : Program} {l : Launch} {e : Env} {R : Room} {s : State} {m : MethodId} {args : Array Value} {below : List Frame} {meth : Method} {c : Code} {T : State} {locs : List Loc} {cells slots : Nat} {Z : State} {a0 : Array Value} {h h' : Heap} {vm0 vm1 : Vm} {EL : List (String × Nat)}
/-- how a body ends that may have interned; the tables of its start and of its end -/
abbrev EndG (s : State) (rm : Room) (Q : Vm → Vm → Option Value → Heap → List Loc → Prop) : State → Outcome → Prop :=
  fun U o => ∃ v L, o = .returned v ∧ Q s.vm U.vm v U.heap L ∧ ReturnedEndW s o U L rm.cells rm.slots
/-- a contract of a body that may intern and whose callees may fill in a stack trace -/
def ConG (l : Launch) (Z : State) (y : MethodName) (bytes : ByteArray) (mx : Nat) (rt : Option FieldType) (rm : Room) (as : Array Value) (h : Heap) (P : Vm → Prop) (Q : Vm → Vm → Option Value → Heap → List Loc → Prop) : Prop :=
  ∀ ws : List Jvm.Cond, MetFree l y (head1 (Jvm.Cond.code y bytes mx rt :: ws) rm) (fun a U => a = as ∧ Z.Warmed39 U.vm ∧ U.heap = h ∧ P U.vm) (fun _ _ bl s _ => s.vm.MethodsKnown ∧ s.vm.FramesKnown bl) (fun _ U o U' => ∃ v L, o = .returned v ∧ Q U.vm U'.vm v U'.heap L ∧ ReturnedEndW U o U' L rm.cells rm.slots)
theorem ConG.intro {y : MethodName} {bytes : ByteArray} {mx : Nat} {rt : Option FieldType} {rm : Room} {as : Array Value} {P : Vm → Prop} {Q : Vm → Vm → Option Value → Heap → List Loc → Prop} (hp : plainFor y = true)
    (body : ∀ (p : Program) (e : Env) (s : State) (m : MethodId) (below : List Frame) (meth : Method) (c : Code) (s₁ : State), p.tables.exec = Jvm.exec → c.code = bytes → c.maxLocals = mx → meth.sig.returnType = rt → meth.locks = false → Z.Warmed39 (s.setVm s.vm).vm → s.vm.findClass y.cls = some m.cls → meth.name = y.name → P s.vm → (s.vm.MethodsKnown ∧ s.vm.FramesKnown below) → s.heap = h →
      Stand p l e rm (s.setVm s.vm) m as below meth c s₁ [] 0 0 → s₁.heap = h → GoOn p e below (EndG s rm Q) (s₁.setTop (entryFrame m as mx))) : ConG l Z y bytes mx rt rm as h P Q := fun ws => by
  refine MetFree.of_bodySF hp hisR ?_
  intro p e s m args below meth c s₁ Bd hml0 hP hK
  obtain ⟨rfl, hZ, hh, hPv⟩ := hP
  have X0 : Stand p l e rm (s.setVm s.vm) m args below meth c s₁ [] 0 0 := Stand.of_body Bd
  obtain ⟨t, o, h1, h2, h3, h4⟩ := body p e s m below meth c s₁ Bd.exec Bd.bytes hml0 Bd.returns Bd.notSynchronized hZ (findClass_of_methodNamed Bd.named) (name_of_methodNamed Bd.named Bd.method).1 hPv hK hh X0 (by rw [← hh, Bd.state]; rfl)
  exact ⟨t, o, h1, h2, h3, h4⟩
theorem GoOn.ret0G (X : Stand p l e R (s.setVm vm1) m args below meth c T locs cells slots) {n : Nat} (hS : s.Since vm1 n) (hn : n ≤ T.heap.size) (hx : p.tables.exec = Jvm.exec) (hrt : meth.sig.returnType = none) (hlk : meth.locks = false) {rm : Room} {Q : Vm → Vm → Option Value → Heap → List Loc → Prop} {pc : Nat} {Ls : Array Slot}
    (hd : decode c.code pc = .ok (.return_, 1)) (hc : cells ≤ rm.cells) (hs : slots ≤ rm.slots) (hQ : Q s.vm T.vm none T.heap locs) : GoOn p e below (EndG s rm Q) (T.setTop (mkF m pc Ls [])) := by
  obtain ⟨fs, hr, hrun, hended, hW⟩ := X.leaveW hS hn (v := none) (fun _ => rfl) hlk
  exact ⟨_, _, X.returnOut hx hrt hd hr, hrun, hended, _, _, rfl, hQ, rEW.mono hW hc hs⟩
theorem GoOn.retNG (X : Stand p l e R (s.setVm vm1) m args below meth c T locs cells slots) {n : Nat} (hS : s.Since vm1 n) (hn : n ≤ T.heap.size) (hx : p.tables.exec = Jvm.exec) {t : FieldType} (hrt : meth.sig.returnType = some t) (hlk : meth.locks = false) {rm : Room} {Q : Vm → Vm → Option Value → Heap → List Loc → Prop} {pc : Nat} {Ls : Array Slot} {z : Int32} {rest : List Value} (ht : t = .boolean ∨ t = .byte ∨ t = .char ∨ t = .short)
    (hd : decode c.code pc = .ok (.ireturn, 1)) (hc : cells ≤ rm.cells) (hs : slots ≤ rm.slots) (hQ : Q s.vm T.vm (some (.int (nar t z))) T.heap locs) : GoOn p e below (EndG s rm Q) (T.setTop (mkF m pc Ls (.int z :: rest))) := by
  obtain ⟨fs, hr, hrun, hended, hW⟩ := X.leaveW hS hn (v := some (.int (nar t z))) (fun h => by rw [hrt] at h; cases h) hlk
  exact ⟨_, _, Jvm.RoadKit.retN X hx hrt ht hd hr, hrun, hended, _, _, rfl, hQ, rEW.mono hW hc hs⟩
theorem GoOn.retRG (X : Stand p l e R (s.setVm vm1) m args below meth c T locs cells slots) {n : Nat} (hS : s.Since vm1 n) (hn : n ≤ T.heap.size) (hx : p.tables.exec = Jvm.exec) {t : FieldType} (hrt : meth.sig.returnType = some t) (htr : t.isReference = true) (hlk : meth.locks = false) {rm : Room} {Q : Vm → Vm → Option Value → Heap → List Loc → Prop} {pc : Nat} {Ls : Array Slot} {z : Value} (hz : z.isRef = true) {rest : List Value}
    (hd : decode c.code pc = .ok (.areturn, 1)) (hc : cells ≤ rm.cells) (hs : slots ≤ rm.slots) (hQ : Q s.vm T.vm (some z) T.heap locs) : GoOn p e below (EndG s rm Q) (T.setTop (mkF m pc Ls (z :: rest))) := by
  obtain ⟨fs, hr, hrun, hended, hW⟩ := X.leaveW hS hn (v := some z) (fun h => by rw [hrt] at h; cases h) hlk
  refine ⟨_, _, Jvm.RoadKit.retOut X hx hrt ?_ (Or.inr (Or.inr (Or.inr (Or.inr ⟨rfl, htr, hz⟩)))) hd hr, hrun, hended, _, _, rfl, hQ, rEW.mono hW hc hs⟩
  cases z <;> first | (cases t <;> rfl) | (simp [Value.isRef] at hz)
theorem backOfG {y : MethodName} {bytes : ByteArray} {maxL : Nat} {ret : Option FieldType} {rm : Room} {len W : Nat} {as' : Array Value} {P : Vm → Prop} {Q : Vm → Vm → Option Value → Heap → List Loc → Prop}
    (hM : MetFree l y (head1 [Cond.code y bytes maxL ret] rm) (fun a U => a = as' ∧ Z.Warmed39 U.vm ∧ U.heap = h ∧ P U.vm) (fun _ _ bl s _ => s.vm.MethodsKnown ∧ s.vm.FramesKnown bl) (fun _ U o U' => ∃ v L, o = .returned v ∧ Q U.vm U'.vm v U'.heap L ∧ ReturnedEndW U o U' L rm.cells rm.slots))
    (hZ : Z.Warmed39 s.vm) (hP : ∀ vm, s.WarmedH vm → P vm) (wc : (Cond.code y bytes maxL ret).before a0 Z = true) (wz : (Cond.initialized y.cls).before a0 Z = true) (hf : rm.frames + 1 ≤ R.frames) (hl : W + (maxL + 11) + rm.locals ≤ R.locals) (hTK : s.vm.MethodsKnown) (hBelow : s.vm.FramesKnown below) :
    BackS l R p e below s args y len W (fun A a => a = as' ∧ A.U.heap = h ∧ A.cells + rm.cells ≤ R.cells ∧ A.slots + rm.slots ≤ R.slots)
      (fun A _ v B => ∃ L, (∃ vmS, s.WarmedH vmS ∧ Q vmS B.U.vm v B.U.heap L) ∧ B.locs = A.locs ++ L ∧ B.cells = A.cells + rm.cells ∧ B.slots = A.slots + rm.slots) :=
  BackS.of_freeWG (bytes := bytes) (maxL := maxL) (ret := ret) (E := fun _ first o t L k n => k = rm.cells ∧ n = rm.slots ∧ ∃ v, o = .returned v ∧ Q first.vm t.vm v t.heap L) hM hf hl
    (fun m meth c A a Y hp => have hU : Z.Warmed39 A.U.vm := wtrans hZ Y.warmed
      ⟨by show (Cond.and _ .tt).before a A.U = true; rw [Cond.before_and, mv hU wc]; rfl, mv hU wc, mv hU wz, hp.2.2.1, hp.2.2.2⟩)
    (fun m meth c A a g mk Y hp => ⟨hp.1, wtrans hZ Y.warmed, hp.2.1, hP _ Y.warmed⟩)
    (fun m meth c A a g mk Y _ hg => known_frames Y hg hTK hBelow)
    (fun _ _ _ _ ⟨v, L, h1, h2, h3⟩ => ⟨L, _, _, h3, rfl, rfl, v, h1, h2⟩)
    (fun m meth c A a g mk v t L k n Y hp _ _ ⟨e1, e2, v', e3, e4⟩ => by cases e3; subst e1 e2; exact ⟨L, ⟨A.U.vm, Y.warmed, e4⟩, rfl, rfl, rfl⟩)
theorem knAt {n : Nat} (hS : s.Since vm0 n) (K : s.vm.MethodsKnown ∧ s.vm.FramesKnown below) : (s.setVm vm0).vm.MethodsKnown ∧ (s.setVm vm0).vm.FramesKnown below :=
  ⟨Vm.MethodsKnown.alikeC hS.1.alike K.1, Vm.FramesKnown.alikeC hS.1.alike K.2⟩
/-- what a call of such a body gives -/
theorem kCallSG (X : Stand p l e R (s.setVm vm0) m args below meth c T locs cells slots) (hx : p.tables.exec = Jvm.exec) (hZ : Z.Warmed39 (s.setVm vm0).vm) {own : String} {index : Nat} {y : MethodName} {bytes : ByteArray} {mx : Nat} {rt : Option FieldType} {rm : Room} {P : Vm → Prop} {Q : Vm → Vm → Option Value → Heap → List Loc → Prop} {argsL rest : List Value}
    (K : ConG l Z y bytes mx rt rm argsL.toArray h P Q) (hP : ∀ vm, (s.setVm vm0).WarmedH vm → P vm) {k0 : Nat} (hS : s.Since vm0 k0) (hk : k0 ≤ h.size) (hTK : s.vm.MethodsKnown ∧ s.vm.FramesKnown below) (hown : (s.setVm vm0).vm.findClass own = some m.cls) (w1 : (Jvm.Cond.methodLink own index y).before a0 Z = true) (w2 : (Jvm.Cond.static y).before a0 Z = true) (w3 : (Jvm.Cond.initialized y.cls).before a0 Z = true) (w4 : (Jvm.Cond.code y bytes mx rt).before a0 Z = true)
    (hy : y.cls ≠ "java/lang/invoke/MethodHandle" ∧ y.cls ≠ "java/lang/invoke/VarHandle") (eT : T.heap = h) {g : JFrame} (hg : g.method = m) (hsize : g.locals.size = c.maxLocals) (hlen : ∀ sig, parseMethodDescriptor y.desc = some sig → argsL.length = sig.parameters.length) (hstack : g.stack = argsL.reverse ++ rest)
    {W : Nat} (hW : 2 * g.monitorRoom + (rest.map fun v => v.category).sum ≤ W) (hd : decode c.code g.pc = .ok (.invokestatic index, 3)) (hf : rm.frames + 1 ≤ R.frames) (hl : W + (mx + 11) + rm.locals ≤ R.locals) (hc : cells + rm.cells ≤ R.cells) (hs : slots + rm.slots ≤ R.slots) :
    ∃ v T' L, Stand p l e R (s.setVm T'.vm) m args below meth c T' (locs ++ L) (cells + rm.cells) (slots + rm.slots) ∧ (∃ vmS, (s.setVm vm0).WarmedH vmS ∧ Q vmS T'.vm v T'.heap L) ∧ s.Since T'.vm T'.heap.size ∧ Z.Warmed39 (s.setVm T'.vm).vm ∧ (s.setVm T'.vm).vm.findClass own = some m.cls ∧ ∀ target, Steps p.tables e below (T'.setTop { g with pc := g.pc + 3, stack := v.toList ++ rest }) target → Steps p.tables e below (T.setTop g) target := by
  have kn := knAt hS hTK
  obtain ⟨v, _, ⟨T', L', k', n'⟩, -, X', hS2, hgr, ⟨L, hQ, l1, l2, l3⟩, st⟩ := callSS X hx (y := y) hown (mvT hZ w1) (mvT hZ w2) (mvT hZ w3) (mvT hZ w4) hy (backOfG (W := W) (K []) hZ hP w4 w3 hf hl kn.1 kn.2) hg hsize hlen hstack hW hd (fun _ _ => ⟨rfl, eT, hc, hs⟩)
  dsimp only [Pt.U, Pt.locs, Pt.cells, Pt.slots] at X' l1 l2 l3 hQ st hS2 hgr
  subst l1 l2 l3
  refine ⟨v, T', L, X', hQ, hS.trans hS2 (Nat.le_trans hk (by rw [← eT]; exact hgr)), State.Warmed39.trans (t := s.setVm vm0) hZ hS2.1, ?_, fun t k => st.trans k⟩
  rw [show (s.setVm T'.vm).vm = T'.vm from rfl, hS2.1.alike.findClass]; exact hown
theorem kCallIG (X : Stand p l e R (s.setVm vm0) m args below meth c T locs cells slots) (hx : p.tables.exec = Jvm.exec) (hZ : Z.Warmed39 (s.setVm vm0).vm) {own : String} {index : Nat} {y : MethodName} {bytes : ByteArray} {mx : Nat} {rm : Room} {P : Vm → Prop} {Q : Vm → Vm → Option Value → Heap → List Loc → Prop} {a : Addr} {argsL rest : List Value}
    (K : ConG l Z y bytes mx none rm (.ref a :: argsL).toArray h P Q) (hP : ∀ vm, (s.setVm vm0).WarmedH vm → P vm) {k0 : Nat} (hS : s.Since vm0 k0) (hk : k0 ≤ h.size) (hTK : s.vm.MethodsKnown ∧ s.vm.FramesKnown below) (hy1 : y.name = "<init>") (hown : (s.setVm vm0).vm.findClass own = some m.cls) (w1 : (Jvm.Cond.methodLink own index y).before a0 Z = true) (w2 : (Jvm.Cond.instanceMethod y).before a0 Z = true) (w3 : (Jvm.Cond.initialized y.cls).before a0 Z = true) (w4 : (Jvm.Cond.code y bytes mx none).before a0 Z = true)
    (hy : y.cls ≠ "java/lang/invoke/MethodHandle" ∧ y.cls ≠ "java/lang/invoke/VarHandle") (eT : T.heap = h) {g : JFrame} (hg : g.method = m) (hsize : g.locals.size = c.maxLocals) (hlen : ∀ sig, parseMethodDescriptor y.desc = some sig → argsL.length = sig.parameters.length) (hstack : g.stack = argsL.reverse ++ .ref a :: rest)
    {W : Nat} (hW : 2 * g.monitorRoom + (rest.map fun v => v.category).sum ≤ W) (hd : decode c.code g.pc = .ok (.invokespecial index, 3)) (hf : rm.frames + 1 ≤ R.frames) (hl : W + (mx + 11) + rm.locals ≤ R.locals) (hc : cells + rm.cells ≤ R.cells) (hs : slots + rm.slots ≤ R.slots) :
    ∃ v T' L, Stand p l e R (s.setVm T'.vm) m args below meth c T' (locs ++ L) (cells + rm.cells) (slots + rm.slots) ∧ (∃ vmS, (s.setVm vm0).WarmedH vmS ∧ Q vmS T'.vm v T'.heap L) ∧ s.Since T'.vm T'.heap.size ∧ Z.Warmed39 (s.setVm T'.vm).vm ∧ (s.setVm T'.vm).vm.findClass own = some m.cls ∧ ∀ target, Steps p.tables e below (T'.setTop { g with pc := g.pc + 3, stack := v.toList ++ rest }) target → Steps p.tables e below (T.setTop g) target := by
  have kn := knAt hS hTK
  obtain ⟨v, _, ⟨T', L', k', n'⟩, -, X', hS2, hgr, ⟨L, hQ, l1, l2, l3⟩, st⟩ := X.specialBackS hx (y := y) hy1 hown (mvT hZ w1) (mvT hZ w2) (mvT hZ w4) hy (backOfG (W := W) (K []) hZ hP w4 w3 hf hl kn.1 kn.2) hg hsize (Steps.refl _) (a := a) hlen hstack hW hd (fun _ _ => ⟨rfl, eT, hc, hs⟩)
  dsimp only [Pt.U, Pt.locs, Pt.cells, Pt.slots] at X' l1 l2 l3 hQ st hS2 hgr
  subst l1 l2 l3
  refine ⟨v, T', L, X', hQ, hS.trans hS2 (Nat.le_trans hk (by rw [← eT]; exact hgr)), State.Warmed39.trans (t := s.setVm vm0) hZ hS2.1, ?_, fun t k => st.trans k⟩
  rw [show (s.setVm T'.vm).vm = T'.vm from rfl, hS2.1.alike.findClass]; exact hown
theorem kCallVG (X : Stand p l e R (s.setVm vm0) m args below meth c T locs cells slots) (hx : p.tables.exec = Jvm.exec) (hZ : Z.Warmed39 (s.setVm vm0).vm) {own C : String} {index : Nat} {y z : MethodName} {bytes : ByteArray} {mx : Nat} {rt : Option FieldType} {rm : Room} {P : Vm → Prop} {Q : Vm → Vm → Option Value → Heap → List Loc → Prop} {a : Addr} {argsL rest : List Value}
    (K : ConG l Z z bytes mx rt rm (.ref a :: argsL).toArray h P Q) (hP : ∀ vm, (s.setVm vm0).WarmedH vm → P vm) {k0 : Nat} (hS : s.Since vm0 k0) (hk : k0 ≤ h.size) (hTK : s.vm.MethodsKnown ∧ s.vm.FramesKnown below) (hown : (s.setVm vm0).vm.findClass own = some m.cls) (w1 : (Jvm.Cond.methodLink own index y).before a0 Z = true) (wd : (Jvm.Cond.declares y).before a0 Z = true) (hnf : NotFace (s.setVm vm0) y) (ws : (Jvm.Cond.selects C y z).before a0 Z = true) (w2 : (Jvm.Cond.instanceMethod z).before a0 Z = true) (w3 : (Jvm.Cond.initialized z.cls).before a0 Z = true) (w4 : (Jvm.Cond.code z bytes mx rt).before a0 Z = true)
    (hy : y.cls ≠ "java/lang/invoke/MethodHandle" ∧ y.cls ≠ "java/lang/invoke/VarHandle") (eT : T.heap = h) (E : Exa Z h a C) {g : JFrame} (hg : g.method = m) (hsize : g.locals.size = c.maxLocals) (hlen : ∀ sig, parseMethodDescriptor y.desc = some sig → argsL.length = sig.parameters.length) (hstack : g.stack = argsL.reverse ++ .ref a :: rest)
    {W : Nat} (hW : 2 * g.monitorRoom + (rest.map fun v => v.category).sum ≤ W) (hd : decode c.code g.pc = .ok (.invokevirtual index, 3)) (hf : rm.frames + 1 ≤ R.frames) (hl : W + (mx + 11) + rm.locals ≤ R.locals) (hc : cells + rm.cells ≤ R.cells) (hs : slots + rm.slots ≤ R.slots) :
    ∃ v T' L, Stand p l e R (s.setVm T'.vm) m args below meth c T' (locs ++ L) (cells + rm.cells) (slots + rm.slots) ∧ (∃ vmS, (s.setVm vm0).WarmedH vmS ∧ Q vmS T'.vm v T'.heap L) ∧ s.Since T'.vm T'.heap.size ∧ Z.Warmed39 (s.setVm T'.vm).vm ∧ (s.setVm T'.vm).vm.findClass own = some m.cls ∧ ∀ target, Steps p.tables e below (T'.setTop { g with pc := g.pc + 3, stack := v.toList ++ rest }) target → Steps p.tables e below (T.setTop g) target := by
  have kn := knAt hS hTK
  obtain ⟨cB, kB, q1, q2, q3⟩ := isOf hZ eT E
  obtain ⟨v, _, ⟨T', L', k', n'⟩, -, X', hS2, hgr, ⟨L, hQ, l1, l2, l3⟩, st⟩ := X.virtualBackS hx (y := y) (z := z) hown (mvT hZ w1) (mvT hZ wd) hnf (mvT hZ ws) (mvT hZ w2) hy (backOfG (W := W) (K []) hZ hP w4 w3 hf hl kn.1 kn.2) q1 q3 hg hsize (Steps.refl _) hlen hstack hW hd (fun _ _ => ⟨rfl, eT, hc, hs⟩)
  dsimp only [Pt.U, Pt.locs, Pt.cells, Pt.slots] at X' l1 l2 l3 hQ st hS2 hgr
  subst l1 l2 l3
  refine ⟨v, T', L, X', hQ, hS.trans hS2 (Nat.le_trans hk (by rw [← eT]; exact hgr)), State.Warmed39.trans (t := s.setVm vm0) hZ hS2.1, ?_, fun t k => st.trans k⟩
  rw [show (s.setVm T'.vm).vm = T'.vm from rfl, hS2.1.alike.findClass]; exact hown
/-- the literals' invariant at tables that are only warmer -/
theorem heldAt (hZ : Z.Warmed39 vm0) (w : EW Z a0 EL) (H : CHv Z EL vm0 h) {vm : Vm} (q : (s.setVm vm0).WarmedH vm) : CHr Z EL vm0 h vm h := by
  have A := CHv.later (h' := h) hZ (show (Wst Z vm0 h).Warmed39 vm from q.wide) w ⟨Nat.le_refl _, fun _ _ q => q⟩ (Or.inl q.interned_eq) H
  exact ⟨A.1, Nat.le_refl _, A.2⟩
theorem chCall (hZ : Z.Warmed39 vm0) (w : EW Z a0 EL) (H : CHv Z EL vm0 h) {vmS vm' : Vm} (q : (s.setVm vm0).WarmedH vmS) (B : CHr Z EL vmS h vm' h') : CHr Z EL vm0 h vm' h' := (heldAt hZ w H q).trans B
theorem safeJar {a : Addr} {ty : FieldType} {n : Nat} {f : Nat → Value} (hal : Z.vm.Alike vm0) (J : Jar Z h a ty n f) (ht : ty ≠ .byte) : Safe Z EL vm0 h a := by
  obtain ⟨cl, A, -⟩ := J
  exact Safe.arr hal A ht
/-- a contract of a constructor beneath which a stack trace is filled in -/
def ConK (l : Launch) (Z : State) (y : MethodName) (bytes : ByteArray) (mx : Nat) (rt : Option FieldType) (rm : Room) (as : Array Value) (h : Heap) (Q : Option Value → Heap → List Loc → Prop) : Prop :=
  ∀ ws : List Jvm.Cond, MetFree l y (head1 (Jvm.Cond.code y bytes mx rt :: ws) rm) (fun a U => a = as ∧ Z.Warmed39 U.vm ∧ U.heap = h) (fun _ _ bl s _ => s.vm.MethodsKnown ∧ s.vm.FramesKnown bl) (fun _ U o U' => ∃ v L, o = .returned v ∧ Q v U'.heap L ∧ FrameEnd U o U' L rm.cells rm.slots)
theorem ConK.intro {y : MethodName} {bytes : ByteArray} {mx : Nat} {rt : Option FieldType} {rm : Room} {as : Array Value} {Q : Option Value → Heap → List Loc → Prop} (hp : plainFor y = true)
    (body : ∀ (p : Program) (e : Env) (s : State) (m : MethodId) (below : List Frame) (meth : Method) (c : Code) (s₁ : State), p.tables.exec = Jvm.exec → c.code = bytes → c.maxLocals = mx → meth.sig.returnType = rt → meth.locks = false → Z.Warmed39 s.vm → s.vm.findClass y.cls = some m.cls → meth.name = y.name → (s.vm.MethodsKnown ∧ s.vm.FramesKnown below) → s.heap = h →
      Stand p l e rm s m as below meth c s₁ [] 0 0 → s₁.heap = h → GoOn p e below (EndQ s rm Q) (s₁.setTop (entryFrame m as mx))) : ConK l Z y bytes mx rt rm as h Q := fun ws => by
  refine MetFree.of_bodySF hp hisR ?_
  intro p e s m args below meth c s₁ Bd hml0 hP hK
  obtain ⟨rfl, hZ, hh⟩ := hP
  have X0 : Stand p l e rm s m args below meth c s₁ [] 0 0 := Stand.of_body Bd
  obtain ⟨t, o, h1, h2, h3, h4⟩ := body p e s m below meth c s₁ Bd.exec Bd.bytes hml0 Bd.returns Bd.notSynchronized hZ (findClass_of_methodNamed Bd.named) (name_of_methodNamed Bd.named Bd.method).1 hK hh X0 (by rw [← hh, Bd.state]; rfl)
  exact ⟨t, o, h1, h2, h3, h4⟩
theorem kCallIK (X : Stand p l e R s m args below meth c T locs cells slots) (hx : p.tables.exec = Jvm.exec) (hZ : Z.Warmed39 s.vm) {own : String} {index : Nat} {y : MethodName} {bytes : ByteArray} {mx : Nat} {rm : Room} {Q : Option Value → Heap → List Loc → Prop} {a : Addr} {argsL rest : List Value}
    (K : ConK l Z y bytes mx none rm (.ref a :: argsL).toArray h Q) (hTK : s.vm.MethodsKnown ∧ s.vm.FramesKnown below) (hy1 : y.name = "<init>") (hown : s.vm.findClass own = some m.cls) (w1 : (Jvm.Cond.methodLink own index y).before a0 Z = true) (w2 : (Jvm.Cond.instanceMethod y).before a0 Z = true) (w3 : (Jvm.Cond.initialized y.cls).before a0 Z = true) (w4 : (Jvm.Cond.code y bytes mx none).before a0 Z = true)
    (hy : y.cls ≠ "java/lang/invoke/MethodHandle" ∧ y.cls ≠ "java/lang/invoke/VarHandle") (eT : T.heap = h) {g : JFrame} (hg : g.method = m) (hsize : g.locals.size = c.maxLocals) (hlen : ∀ sig, parseMethodDescriptor y.desc = some sig → argsL.length = sig.parameters.length) (hstack : g.stack = argsL.reverse ++ .ref a :: rest)
    {W : Nat} (hW : 2 * g.monitorRoom + (rest.map fun v => v.category).sum ≤ W) (hd : decode c.code g.pc = .ok (.invokespecial index, 3)) (hf : rm.frames + 1 ≤ R.frames) (hl : W + (mx + 11) + rm.locals ≤ R.locals) (hc : cells + rm.cells ≤ R.cells) (hs : slots + rm.slots ≤ R.slots) :
    ∃ v T' L, Stand p l e R s m args below meth c T' (locs ++ L) (cells + rm.cells) (slots + rm.slots) ∧ Q v T'.heap L ∧ ∀ target, Steps p.tables e below (T'.setTop { g with pc := g.pc + 3, stack := v.toList ++ rest }) target → Steps p.tables e below (T.setTop g) target := by
  obtain ⟨v, _, ⟨T', L', k', n'⟩, -, X', ⟨L, hQ, l1, l2, l3⟩, st⟩ := X.specialBack hx (y := y) hy1 hown (mvT hZ w1) (mvT hZ w2) (mvT hZ w4) hy (backOfKL (W := W) (K []) hZ w4 w3 hf hl hTK.1 hTK.2) hg hsize (Steps.refl _) (a := a) hlen hstack hW hd (fun _ _ => ⟨rfl, eT, hc, hs⟩)
  dsimp only [Pt.U, Pt.locs, Pt.cells, Pt.slots] at X' l1 l2 l3 hQ st
  subst l1 l2 l3
  exact ⟨v, T', L, X', hQ, fun t k => st.trans k⟩
theorem nfAs {y y2 : MethodName} (hnf : NotFace s y2) (hcl : y2.cls = y.cls) (w5 : (Cond.instanceMethod y2).before a0 s = true) : NotFace s y := fun r0 h0 => by
  obtain ⟨mk2, methM2, hnamed2, -⟩ := Cond.instanceMethod_spec w5
  obtain ⟨kP, hkP, hkPi⟩ := hnf mk2 hnamed2
  have u1 := findClass_of_methodNamed hnamed2
  rw [hcl] at u1
  have hcc : mk2.cls = r0.cls := Option.some.inj (u1.symm.trans (findClass_of_methodNamed h0))
  rw [hcc] at hkP
  exact ⟨kP, hkP, hkPi⟩
theorem smOf {y : MethodName} (w3 : (Cond.instanceMethod y).before a0 Z = true) (hy : y.cls ≠ "java/lang/invoke/MethodHandle" ∧ y.cls ≠ "java/lang/invoke/VarHandle") (hnf : NotFace Z y) : (Cond.sameMethod y.cls y.cls y.name y.desc).before a0 Z = true := by
  obtain ⟨mk, methM, hnamed, -⟩ := Cond.instanceMethod_spec w3
  have hf := State.methodFound?_of_named hnamed hy
  have hc := findClass_of_methodNamed hnamed
  obtain ⟨k, hk, hki⟩ := hnf mk hnamed
  have hn' : Z.methodNamed? ⟨y.cls, y.name, y.desc⟩ = some mk := hnamed
  simp [Cond.before, Cond.holds, Cond.value, hc, hf, hn', hk, hki]
/-- a superclass's method by its contract ('invokespecial'); y2: a method of that class of which is known that its class is no interface -/
theorem kCallSup (X : Stand p l e R s m args below meth c T locs cells slots) (hx : p.tables.exec = Jvm.exec) (hZ : Z.Warmed39 s.vm) {own C D : String} {index : Nat} {y y2 : MethodName} {bytes : ByteArray} {mx : Nat} {rt : Option FieldType} {rm : Room} {Q : Option Value → Heap → List Loc → Prop} {a : Addr} {argsL rest : List Value}
    (K : Con l Z y bytes mx rt rm (.ref a :: argsL).toArray h Q) (hown : s.vm.findClass own = some m.cls) (w1 : (Jvm.Cond.methodLink own index y).before a0 Z = true) (w2 : (Jvm.Cond.instanceMethod y).before a0 Z = true) (w5 : (Jvm.Cond.superclass own y.cls).before a0 Z = true) (hn : y.name ≠ "<init>") (w3 : (Jvm.Cond.initialized y.cls).before a0 Z = true) (w4 : (Jvm.Cond.code y bytes mx rt).before a0 Z = true)
    (w6 : (Jvm.Cond.selects D y2 y2).before a0 Z = true) (hcl : y2.cls = y.cls) (w7 : (Jvm.Cond.instanceMethod y2).before a0 Z = true)
    (hy : y.cls ≠ "java/lang/invoke/MethodHandle" ∧ y.cls ≠ "java/lang/invoke/VarHandle") (eT : T.heap = h) (E : Exa Z h a C) {g : JFrame} (hg : g.method = m) (hsize : g.locals.size = c.maxLocals) (hlen : ∀ sig, parseMethodDescriptor y.desc = some sig → argsL.length = sig.parameters.length) (hstack : g.stack = argsL.reverse ++ .ref a :: rest)
    {W : Nat} (hW : 2 * g.monitorRoom + (rest.map fun v => v.category).sum ≤ W) (hd : decode c.code g.pc = .ok (.invokespecial index, 3)) (hf : rm.frames + 1 ≤ R.frames) (hl : W + (mx + 11) + rm.locals ≤ R.locals) (hc : cells + rm.cells ≤ R.cells) (hs : slots + rm.slots ≤ R.slots) :
    ∃ v T' L, Stand p l e R s m args below meth c T' (locs ++ L) (cells + rm.cells) (slots + rm.slots) ∧ Q v T'.heap L ∧ ∀ target, Steps p.tables e below (T'.setTop { g with pc := g.pc + 3, stack := v.toList ++ rest }) target → Steps p.tables e below (T.setTop g) target := by
  obtain ⟨v, _, ⟨T', L', k', n'⟩, -, X', ⟨L, hQ, l1, l2, l3⟩, st⟩ := superBack X hx hZ (y := y) hown w1 (smOf w2 hy (nfAs (notFace_of_selects w6) hcl w7)) w2 w5 hn (backOf (W := W) (K []) hZ w4 w3 hf hl) eT (Ins.self E) hg hsize w4 hlen hstack hW hd (fun _ _ => ⟨rfl, eT, hc, hs⟩)
  dsimp only [Pt.U, Pt.locs, Pt.cells, Pt.slots] at X' l1 l2 l3 hQ st
  subst l1 l2 l3
  exact ⟨v, T', L, X', hQ, fun t k => st.trans k⟩
theorem cat_get {α : Type} {g0 f : Nat → α} {k n D i : Nat} (h : D + n ≤ k) (hi : i < k) (d d2 : α) :
    (((List.range k).map g0).take D ++ (List.range n).map (fun j => ((List.range n).map f).getD (0 + j) d2) ++ ((List.range k).map g0).drop (D + n)).getD i d = if D ≤ i ∧ i < D + n then f (i - D) else g0 i := by
  rw [List.getD_eq_getElem?_getD, List.append_assoc, List.getElem?_append]
  have l1 : (((List.range k).map g0).take D).length = D := by simp; omega
  have l2 : ((List.range n).map (fun j => ((List.range n).map f).getD (0 + j) d2)).length = n := by simp
  by_cases q : i < D
  · rw [if_pos (by rw [l1]; exact q), if_neg (by omega), List.getElem?_take_of_lt q]
    simp [hi]
  · rw [if_neg (by rw [l1]; exact q), l1, List.getElem?_append]
    by_cases r : i < D + n
    · rw [if_pos (by rw [l2]; omega), if_pos ⟨by omega, r⟩]
      have : i - D < n := by omega
      simp [this]
    · rw [if_neg (by rw [l2]; omega), l2, if_neg (by omega), List.getElem?_drop]
      have e1 : D + n + (i - D - n) = i := by omega
      simp [e1, hi]
/-- the whole of a byte array copied into another one, from a place on -/
theorem kCopyAt (X : Stand p l e R s m args below meth c T locs cells slots) (hx : p.tables.exec = Jvm.exec) (hZ : Z.Warmed39 s.vm) {own : String} {index : Nat} (hown : s.vm.findClass own = some m.cls)
    (w1 : (Jvm.Cond.methodLink own index Jvm.Stand.acN).before a0 Z = true) (w2 : (Jvm.Cond.native Jvm.Stand.acN).before a0 Z = true) (w3 : (Jvm.Cond.static Jvm.Stand.acN).before a0 Z = true) (w4 : (Jvm.Cond.initialized "java/lang/System").before a0 Z = true) (eT : T.heap = h)
    {a b : Addr} {n k D : Nat} {f g0 : Nat → Value} (F : Jar Z h a .byte n f) (G : Jar Z h b .byte k g0) (hfa : ∀ i, i < n → fits .byte (f i) = true) (hgb : ∀ i, i < k → fits .byte (g0 i) = true) (hn : n < 2 ^ 31) (hk : k < 2 ^ 31)
    {dp nn : Int32} (hdp : dp.toInt = D) (hnn : nn.toInt = n) (h5 : D + n ≤ k) {n0 : Nat} (N : Fr n0 locs) (ge : n0 ≤ b)
    {g : JFrame} (hg : g.method = m) (hsize : g.locals.size = c.maxLocals) {rest : List Value} (hs : g.stack = .int nn :: .int dp :: .ref b :: .int (0 : Int32) :: .ref a :: rest) (hd : decode c.code g.pc = .ok (.invokestatic index, 3))
    (hf : 1 ≤ R.frames) {W : Nat} (hW : 2 * g.monitorRoom + (rest.map fun v => v.category).sum ≤ W) (hlo : W + (nativeFrameWords "java/lang/System" "arraycopy" 5 + 11) ≤ R.locals) :
    ∃ T' h' L, Stand p l e R s m args below meth c T' L cells slots ∧ T'.heap = h' ∧ Fr n0 L ∧ Keep h h' [b] ∧ Jar Z h' b .byte k (fun i => if D ≤ i ∧ i < D + n then f (i - D) else g0 i) ∧
      ∀ target, Steps p.tables e below (T'.setTop { g with pc := g.pc + 3, stack := rest }) target → Steps p.tables e below (T.setTop g) target := by
  obtain ⟨ka, A⟩ := F.arv (d := .int 0) hfa hn
  obtain ⟨kb, B⟩ := G.arv (d := .int 0) hgb hk
  have e0 : (0 : Int32).toInt = 0 := rfl
  have en := len_toInt hn; have ek := len_toInt hk
  have cn : n.toInt32.toNatClampNeg = n := by have e2 : n.toInt32.toNatClampNeg = n.toInt32.toInt.toNat := rfl; omega
  have ck : k.toInt32.toNatClampNeg = k := by have e2 : k.toInt32.toNatClampNeg = k.toInt32.toInt.toNat := rfl; omega
  have cnn : nn.toNatClampNeg = n := by have e2 : nn.toNatClampNeg = nn.toInt.toNat := rfl; omega
  have cd : dp.toNatClampNeg = D := by have e2 : dp.toNatClampNeg = dp.toInt.toNat := rfl; omega
  have c0 : (0 : Int32).toNatClampNeg = 0 := rfl
  obtain ⟨T', h', L, X', e', N', K, Dv, st⟩ := cpA X hx hZ hown w1 w2 w3 w4 eT A B (Or.inl ⟨rfl, rfl⟩) (sp := 0) (dp := dp) (nn := nn) (by decide) (by rw [Int32.lt_iff_toInt_lt, e0]; omega) (by rw [Int32.lt_iff_toInt_lt, e0]; omega) (by rw [cnn, cn, c0]; omega) (by rw [cnn, ck, cd]; omega) rfl (by rw [cnn, cd]; simp; omega) N ge hg hsize hs hd hf hW hlo
  refine ⟨T', h', L, X', e', N', K, ?_, st⟩
  obtain ⟨cl, A1, -, A3, -, A5, -⟩ := Dv
  refine ⟨cl, A1, by rw [A3, ck], fun i hi => ?_⟩
  rw [A5 i (by rw [A3, ck]; exact hi), cnn, c0, cd, cat_get h5 hi]
end OwnH
section OwnT
/-- the one word of the library's list that this sheet lacks -/
abbrev supX : Jvm.Cond := .lays tN tN "suppressedExceptions" Bundle.listD
abbrev XC : String := "com/example/ashlar_gate/ashlargate/model/InvalidValueException"
theorem ex_in : ∀ w ∈ Jvm.Free.Exc.excAtoms XC, w ≠ supX → w ∈ tables_1 := by decide +kernel
/-- Throwable's record, its links, and where its names are found: the entry of 'suppressedExceptions' by the exception's own layout -/
theorem own_thr {args : Array Value} {s : State} {pl : Platform} (howns : pl.frameOwnsMonitors = true) (hfin : pl.finalization = false) (hpl : pl.magicAccessors = ({} : Platform).magicAccessors)
    (W : ∀ w ∈ Jvm.Free.Exc.excAtoms XC, w ≠ supX → w.before args s = true) :
    ∃ T : ThrowableC, T.Links pl s ∧ s.vm.findClass tN = some T.cT ∧ s.methodNamed? tFill = some T.fill ∧ s.methodNamed? tFill0 = some T.fill0 ∧ s.fieldFound? tN "stackTrace" Bundle.steD = some (T.cT, T.kT, T.i17, T.fStack) ∧
      s.fieldFound? tN "UNASSIGNED_STACK" Bundle.steD = some (T.cT, T.kT, T.i13, T.fUnassigned) ∧ T.fStack.name = "stackTrace" ∧ T.fStack.type = .array (.object "java/lang/StackTraceElement") := by
  obtain ⟨⟨c, i0⟩, m0, n0, g0, nat0, code0, lk0, sg0⟩ := Cond.native_spec (W (.native tFill0) (by simp [Jvm.Free.Exc.excAtoms, throwableAtoms]) (by simp))
  have hc : s.vm.findClass tN = some c := findClass_of_methodNamed n0
  obtain ⟨k, hk, hname⟩ := Vm.findClass_spec hc
  obtain ⟨_, k1, _, _, hk1, _, _, _, _, hni⟩ := Cond.superclass_spec hc (W (.superclass tN "java/lang/Object") (by simp [Jvm.Free.Exc.excAtoms, throwableAtoms]) (by simp))
  cases hk.symm.trans hk1
  obtain ⟨iF, mF, nF, gF, atF, stF, abF, -, -⟩ := Cond.ownMethod (x := tFill) hc hk (W (.instanceMethod tFill) (by simp [Jvm.Free.Exc.excAtoms, throwableAtoms]) (by simp))
  obtain ⟨mF', cF, gF', cdF, bF, lF, rF, lkF, -, sgF⟩ := Cond.codeSync_spec nF (W (.codeSync tFill LibCode.Throwable.Fill.code 1 (some (.object tN))) (by simp [Jvm.Free.Exc.excAtoms, throwableAtoms]) (by simp))
  cases gF.symm.trans gF'
  obtain ⟨j0, m0', n0', g0', at0, st0, ab0, nm0, ds0⟩ := Cond.ownMethod (x := tFill0) hc hk (W (.instanceMethod tFill0) (by simp [Jvm.Free.Exc.excAtoms, throwableAtoms]) (by simp))
  cases n0.symm.trans n0'
  cases g0.symm.trans g0'
  obtain ⟨mO, methO, nO, gO, stO, abO⟩ := Cond.instanceMethod_spec (W (.instanceMethod oInit) (by simp [Jvm.Free.Exc.excAtoms, throwableAtoms]) (by simp))
  obtain ⟨mO', cO, gO', cdO, bO, lO, -, lkO, -, sgO⟩ := Cond.code_spec nO (W (.code oInit object_method_1_code 1 none) (by simp [Jvm.Free.Exc.excAtoms, throwableAtoms, object_method_1_code]) (by simp))
  cases gO.symm.trans gO'
  obtain ⟨kO, hkO, hnO⟩ := Vm.findClass_spec (findClass_of_methodNamed nO)
  obtain ⟨nmO, dsO⟩ := name_of_methodNamed nO gO
  obtain ⟨ci1, e1, cf, l1, r1, hcf, p1⟩ := Cond.linkedMethod hc hk nO (W (.methodLink tN 1 oInit) (by simp [Jvm.Free.Exc.excAtoms, throwableAtoms]) (by simp)) pl hpl
  obtain ⟨ci27, e27, cf2, l27, r27, hcf2, p27⟩ := Cond.linkedMethod hc hk nF (W (.methodLink tN 27 tFill) (by simp [Jvm.Free.Exc.excAtoms, throwableAtoms]) (by simp)) pl hpl
  cases hcf.symm.trans hcf2
  obtain ⟨ci202, e202, cf3, l202, r202, hcf3, p202⟩ := Cond.linkedMethod hc hk n0 (W (.methodLink tN 202 tFill0) (by simp [Jvm.Free.Exc.excAtoms, throwableAtoms]) (by simp)) pl hpl
  cases hcf.symm.trans hcf3
  obtain ⟨ci7, i7, f7, k7, q7, a7, s7, y7, -, -, -⟩ := Cond.ownField (t := .object tN) hc hk (by decide +kernel) (W (.fieldLink tN 7 tN "cause" "Ljava/lang/Throwable;") (by simp [Jvm.Free.Exc.excAtoms, throwableAtoms]) (by simp)) (W (.lays XC tN "cause" "Ljava/lang/Throwable;") (by simp [Jvm.Free.Exc.excAtoms]) (by decide)) pl hpl
  obtain ⟨ci17, i17, f17, k17, q17, a17, s17, y17, nm17, ty17, ff17⟩ := Cond.ownField (t := .array (.object "java/lang/StackTraceElement")) hc hk (by decide +kernel) (W (.fieldLink tN 17 tN "stackTrace" Bundle.steD) (by simp [Jvm.Free.Exc.excAtoms, throwableAtoms]) (by simp)) (W (.lays XC tN "stackTrace" Bundle.steD) (by simp [Jvm.Free.Exc.excAtoms]) (by decide)) pl hpl
  obtain ⟨ci24, i24, f24, k24, q24, a24, s24, y24, nm24, -, ff24⟩ := Cond.ownField (t := .object "java/util/List") hc hk (by decide +kernel) (W (.fieldLink tN 24 tN "suppressedExceptions" Bundle.listD) (by simp [Jvm.Free.Exc.excAtoms, throwableAtoms]) (by simp)) (W (.lays XC tN "suppressedExceptions" Bundle.listD) (by simp [Jvm.Free.Exc.excAtoms]) (by decide)) pl hpl
  obtain ⟨ci13, i13, f13, aS, cellS, k13, q13, a13, s13, -, -, hsta, -, -, -, -, ff13⟩ := Cond.ownStatic (t := .array (.object "java/lang/StackTraceElement")) hc hk (by decide +kernel) (W (.fieldLink tN 13 tN "UNASSIGNED_STACK" Bundle.steD) (by simp [Jvm.Free.Exc.excAtoms, throwableAtoms]) (by simp)) (W (.laysStatic tN "UNASSIGNED_STACK" Bundle.steD) (by simp [Jvm.Free.Exc.excAtoms, throwableAtoms]) (by simp)) pl hpl
  obtain ⟨ci20, i20, f20, _, _, k20, q20, a20, s20, -⟩ := Cond.ownStatic (t := .object "java/util/List") hc hk (by decide +kernel) (W (.fieldLink tN 20 tN "SUPPRESSED_SENTINEL" Bundle.listD) (by simp [Jvm.Free.Exc.excAtoms, throwableAtoms]) (by simp)) (W (.laysStatic tN "SUPPRESSED_SENTINEL" Bundle.listD) (by simp [Jvm.Free.Exc.excAtoms, throwableAtoms]) (by simp)) pl hpl
  obtain ⟨cx, kx, _, _, _, fM, hcx, hkx, -, sM, yM, -⟩ := Cond.lays_spec (W (.lays XC tN "detailMessage" "Ljava/lang/String;") (by simp [Jvm.Free.Exc.excAtoms]) (by decide))
  obtain ⟨-, d17, w17, z17⟩ := Cond.laysAt hcx hkx ff17 (W (.lays XC tN "stackTrace" Bundle.steD) (by simp [Jvm.Free.Exc.excAtoms]) (by decide))
  obtain ⟨-, d24, w24, z24⟩ := Cond.laysAt hcx hkx ff24 (W (.lays XC tN "suppressedExceptions" Bundle.listD) (by simp [Jvm.Free.Exc.excAtoms]) (by decide))
  have hapart : f17.slot ≠ f24.slot := Cond.laysApart w17 w24 z17 z24 (by rw [nm17, nm24]; decide)
  have pF : mF.sig.parameters = [] := by
    rw [show parseMethodDescriptor tFill.desc = some ⟨[], some (.object tN)⟩ from by decide +kernel] at sgF; rw [← Option.some.inj sgF]
  have p0 : m0.sig.parameters = [.int] := by
    rw [show parseMethodDescriptor tFill0.desc = some ⟨[.int], some (.object tN)⟩ from by decide +kernel] at sg0; rw [← Option.some.inj sg0]
  have pO : methO.sig.parameters.length = 0 := by
    rw [show parseMethodDescriptor oInit.desc = some ⟨[], none⟩ from by decide +kernel] at sgO; rw [← Option.some.inj sgO]; rfl
  refine ⟨{ cT := c, kT := k, cO := c, aS := aS, fillIdx := iF, fill0Idx := i0, initSIdx := iF, obj := mO, kObj := kO, methFill := mF, methFill0 := m0, methInitS := mF, methObj := methO, codeFill := cF, codeInitS := cF, codeObj := cO, fBack := f7, fDepth := f7, fStack := f17, fCause := f7, fSupp := f24, fMsg := fM, fUnassigned := f13, fSentinel := f20, cfT := cf, ci1 := ci1, n1 := e1, ci27 := ci27, n27 := e27, ci202 := ci202, n202 := e202, ci7 := ci7, i7 := i7, ci13 := ci13, i13 := i13, ci17 := ci17, i17 := i17, ci20 := ci20, i20 := i20, ci24 := ci24, i24 := i24 }, ?_, hc, nF, n0, ff17, ff13, nm17, ty17⟩
  exact { owns := howns, noFinalization := hfin, cls := hk, name := hname, boot := Vm.findClass_boot hc hk, notInterface := hni, initialized := Cond.initialized_spec hc hk (W (.initialized tN) (by simp [Jvm.Free.Exc.excAtoms, throwableAtoms]) (by simp)), statics := hsta, fillAt := atF, fillCode := cdF, fillBytes := bF, fillLocals := lF, fillLocks := lkF, fillStatic := stF, fillAbstract := abF, fillReturns := rF, fillParams := pF, fill0At := at0, fill0Name := nm0, fill0Desc := ds0, fill0Params := p0, fill0Static := st0, fill0Native := nat0, fill0Code := code0, fill0Locks := lk0, fill0Abstract := ab0, stackInstance := s17, stackNotFinal := y17, unassignedStatic := s13, objClass := hkO, objClassName := hnO, objMethod := gO, objName := nmO, objStatic := stO, objAbstract := abO, objFound := by rw [dsO]; exact lookupSpecial_of_named nO gO stO, objParams := pO, objCode := cdO, objBytes := bO, objLocks := lkO, causeInstance := s7, causeNotFinal := y7, sentinelStatic := s20, suppInstance := s24, suppNotFinal := y24, msgInstance := sM, msgNotFinal := yM, stackApartSupp := hapart, file := hcf, mlink1 := l1, mright1 := r1, pool1 := p1, mlink27 := l27, mright27 := r27, pool27 := p27, mlink202 := l202, mright202 := r202, pool202 := p202, link7 := k7, right7 := q7, at7 := a7, link13 := k13, right13 := q13, at13 := a13, link17 := k17, right17 := q17, at17 := a17, link20 := k20, right20 := q20, at20 := a20, link24 := k24, right24 := q24, at24 := a24 }
theorem narA {t : FieldType} (v : Value) : narrow (.array t) v = v := by cases v <;> rfl
theorem fitA {t : FieldType} {v : Value} (h : v.isRef = true) : fits (.array t) v = true := by cases v <;> first | rfl | (simp [Value.isRef] at h)
theorem own_untw {h h' : Heap} {a b : Addr} {sl : Nat} {v : Value} (N : Unt h b) (W : Wr h h' a sl v) : Unt h' b := by
  obtain ⟨c, u1, u2, u3⟩ := N
  obtain ⟨c0, w1, -, -, rfl⟩ := W
  by_cases q : b = a
  · subst q; cases w1.symm.trans u1
    exact ⟨c.setSlot sl v, by rw [Array.getElem?_setIfInBounds]; simp [(Array.getElem?_eq_some_iff.mp u1).1], u2, u3⟩
  · exact ⟨c, by rw [Array.getElem?_setIfInBounds_ne (Ne.symm q)]; exact u1, u2, u3⟩
theorem own_ride {Z s : State} (hal : Z.vm.Alike s.vm) {C n d : String} {c i : Nat} {k : Class} {f : Field} (q : Z.fieldFound? C n d = some (c, k, i, f)) : ∃ k', s.fieldFound? C n d = some (c, k', i, f) ∧ k'.statics = k.statics := by
  obtain ⟨k', h1, h2⟩ := State.fieldFound?_setVm (s := Z) hal q
  exact ⟨k', h1, by rw [h2]⟩
/-- Throwable.fillInStackTrace() on an exception that the walk has made -/
theorem own_fill {p : Program} {l : Launch} {e : Env} {R : Room} {s : State} {m : MethodId} {args : Array Value} {below : List Frame} {meth : Method} {c : Code} {T : State} {locs : List Loc} {cells slots : Nat} {Z : State} {a0 : Array Value} {h : Heap}
    (X : Stand p l e R s m args below meth c T locs cells slots) (hx : p.tables.exec = Jvm.exec) (hl : l.stackTraces = true) (hZ : Z.Warmed39 s.vm) (hw : ∀ d ∈ tables_1, d.before a0 Z = true) {kk : Nat} (wi : (Cond.instantiable XC kk).before a0 Z = true) (hT0 : ThS Z s.heap) (hTK : s.vm.MethodsKnown ∧ s.vm.FramesKnown below) (hown : s.vm.findClass tN = some m.cls)
    (eT : T.heap = h) {a : Addr} (E : Exa Z h a XC) (N : Unt h a) (B : Fld Z h a tN "backtrace" "Ljava/lang/Object;" .null) {u : Value} (hu : u.isRef = true) (S : Fld Z h a tN "stackTrace" Bundle.steD u) (U : Sta Z h tN "UNASSIGNED_STACK" Bundle.steD u) (hloc : ∀ y ∈ locs, y.base = a)
    {g : JFrame} (hg : g.method = m) (hsize : g.locals.size = c.maxLocals) (hs : g.stack = [.ref a]) (hd : decode c.code g.pc = .ok (.invokevirtual 27, 3)) (hf : 3 ≤ R.frames) (hlo : 2 * g.monitorRoom + 42 ≤ R.locals) (hc : cells + 1 ≤ R.cells) (hsl : slots + 2752 ≤ R.slots) :
    ∃ T' h' L, Stand p l e R s m args below meth c T' (locs ++ L) (cells + 1) (slots + 2752) ∧ T'.heap = h' ∧ (∀ y ∈ L, y.base = a) ∧ Keep s.heap h' [a] ∧ Exa Z h' a XC ∧
      (∀ {O n d : String} {w : Value}, Fld Z h a O n d w → Jvm.RoadKit.slotOf Z tN "backtrace" "Ljava/lang/Object;" ≠ Jvm.RoadKit.slotOf Z O n d → Jvm.RoadKit.slotOf Z tN "depth" "I" ≠ Jvm.RoadKit.slotOf Z O n d → Jvm.RoadKit.slotOf Z tN "stackTrace" Bundle.steD ≠ Jvm.RoadKit.slotOf Z O n d → Fld Z h' a O n d w) ∧
      ∀ target, Steps p.tables e below (T'.setTop { g with pc := g.pc + 3, stack := [.ref a] }) target → Steps p.tables e below (T.setTop g) target := by
  have htr : e.platform.stackTraces = true := by rw [X.admits.platform]; exact hl
  have howns : e.platform.frameOwnsMonitors = true := by rw [X.admits.platform]
  have hfin : e.platform.finalization = false := by rw [X.admits.platform]
  have hpl : e.platform.magicAccessors = ({} : Platform).magicAccessors := by rw [X.admits.platform]
  have W : ∀ d ∈ Jvm.Free.Exc.excAtoms XC, d ≠ supX → d.before args s = true := fun d hd hne => mvX hT0 hZ (List.all_eq_true.mp exc_ok d hd) (hw d (ex_in d hd hne))
  obtain ⟨T₀, L₀, Yf, Yfill, Yfill0, Yst, Yun, Ynm, Yty⟩ := own_thr howns hfin hpl W
  have hal : Z.vm.Alike s.vm := hZ.alike
  obtain ⟨cell, kz, e1, e2, e3, e4, e5⟩ := E
  obtain ⟨c2, u1, u2, u3⟩ := N
  cases e1.symm.trans u1
  have hfound : s.vm.findClass XC = some cell.cls := by rw [hal.findClass]; exact e2
  obtain ⟨kX, hk, hke⟩ := hal.2.2 _ _ e3
  obtain ⟨c4, k4, i1, i2, i3, -⟩ := Cond.instantiable_spec wi
  cases e2.symm.trans i1
  cases e3.symm.trans i2
  have hord : kX.kind = .ordinary := by rw [hke]; exact i3
  have hsz : cell.slots.size = kX.instanceTypes.size := by rw [hke]; exact e5 i3
  obtain ⟨cu, iu, ku, fu, st, cellS, s1, s2, s3, s4, s5, s6, s7⟩ := U
  obtain ⟨ku', su, hue⟩ := own_ride hal s1
  have qu := Option.some.inj (su.symm.trans Yun)
  simp only [Prod.mk.injEq] at qu
  obtain ⟨-, rfl, -, rfl⟩ := qu
  obtain rfl : st = T₀.aS := Option.some.inj ((hue.trans s4).symm.trans L₀.statics)
  obtain ⟨cS, cfS, kS, iS, fS, f1, f2, -, -, -, -, f7⟩ := S
  cases e1.symm.trans f1
  obtain ⟨kS', sS, -⟩ := own_ride hal f2
  have qS := Option.some.inj (sS.symm.trans Yst)
  simp only [Prod.mk.injEq] at qS
  obtain ⟨-, -, -, rfl⟩ := qS
  obtain ⟨cB, cfB, kB, iB, fB, b1, b2, -, -, -, -, b7⟩ := B
  cases e1.symm.trans b1
  obtain ⟨kB', sB, -⟩ := own_ride hal b2
  obtain ⟨ci198, i198, fB', hk198, hg198, ha198, hsB, -, hnB, htB, hffB⟩ := Cond.ownField (t := .object "java/lang/Object") Yf L₀.cls (by decide +kernel) (W (.fieldLink tN 198 tN "backtrace" Jvm.Free.Exc.obD) (by simp [Jvm.Free.Exc.excAtoms]) (by simp)) (W (.lays XC tN "backtrace" Jvm.Free.Exc.obD) (by simp [Jvm.Free.Exc.excAtoms]) (by decide)) e.platform hpl
  have qB := Option.some.inj (sB.symm.trans hffB)
  simp only [Prod.mk.injEq] at qB
  obtain ⟨-, -, -, rfl⟩ := qB
  obtain ⟨cD1, kD1, cD, kD, iD, fD, -, -, hffD, hstD, -⟩ := Cond.lays_spec (W (.lays XC tN "depth" "I") (by simp [Jvm.Free.Exc.excAtoms]) (by decide))
  cases Option.some.inj ((Cond.lays_declared (W (.lays XC tN "depth" "I") (by simp [Jvm.Free.Exc.excAtoms]) (by decide)) hffD).symm.trans Yf)
  obtain ⟨hkD, hatD⟩ := State.fieldFound?_spec hffD
  cases Option.some.inj (hkD.symm.trans L₀.cls)
  obtain ⟨hnD, htD⟩ := State.fieldFound?_type hffD (t := .int) (by decide +kernel)
  have hfb := Cond.soleField_find Yf L₀.cls (W (.soleField tN "backtrace") (by simp [Jvm.Free.Exc.excAtoms]) (by simp)) ha198 hnB hsB
  have hfd := Cond.soleField_find Yf L₀.cls (W (.soleField tN "depth") (by simp [Jvm.Free.Exc.excAtoms]) (by simp)) hatD hnD hstD
  obtain ⟨comp, cO, kO, -, -, hkO, hkindO, hO⟩ := Cond.arrayOver_spec (W (.arrayOver (.object "java/lang/Object")) (by simp [Jvm.Free.Exc.excAtoms]) (by simp))
  obtain ⟨tyS, -⟩ := Cond.laysAt hfound hk Yst (W (.lays XC tN "stackTrace" Bundle.steD) (by simp [Jvm.Free.Exc.excAtoms]) (by decide))
  obtain ⟨tyB, -⟩ := Cond.laysAt hfound hk hffB (W (.lays XC tN "backtrace" Jvm.Free.Exc.obD) (by simp [Jvm.Free.Exc.excAtoms]) (by decide))
  obtain ⟨tyD, -⟩ := Cond.laysAt hfound hk hffD (W (.lays XC tN "depth" "I") (by simp [Jvm.Free.Exc.excAtoms]) (by decide))
  have tk : ∀ {f : Field} {v : Value}, kX.instanceTypes[f.slot]? = some f.type → fits f.type v = true → Jvm.Takes s cell f v := fun {f v} h1 h2 => by
    obtain ⟨q1, q2⟩ := Takes.of_laid (v := v) hk hord h1 h2
    exact ⟨by rw [hsz]; simpa using q1, by rw [u2]; exact q2⟩
  have hsel0 : selectMethod e.platform s.vm cell.cls T₀.fill0 = .method T₀.fill0 := by
    obtain ⟨c2, r2, m2, q1, q2, q3, q4, -⟩ := Cond.selects_spec (W (.selects XC tFill0 tFill0) (by simp [Jvm.Free.Exc.excAtoms]) (by simp))
    cases Option.some.inj (q1.symm.trans hfound)
    cases Option.some.inj (q2.symm.trans (State.methodFound?_of_named Yfill0 (by decide)))
    cases Option.some.inj (q3.symm.trans Yfill0)
    rw [Launch.admits_selectMethod X.admits]; exact q4
  have hneS : T₀.aS ≠ a := fun q => by
    rw [q] at s5; cases e1.symm.trans s5; rw [s6] at e4; cases e4
  have hSE := W (.selects XC tFill tFill) (by simp [Jvm.Free.Exc.excAtoms]) (by simp)
  obtain ⟨v6, vm6, ⟨T6, L6, c6, n6⟩, hW6, X6, ⟨hv6, C6, n, hn, hD6, q1, q2, q3, q4, hL6, hc6, hn6⟩, st6⟩ := X.virtualBack hx (own := tN) (C := XC) (index := 27) (y := tFill) (z := tFill) hown (W (.methodLink tN 27 tFill) (by simp [Jvm.Free.Exc.excAtoms, throwableAtoms]) (by simp)) (W (.declares tFill) (by simp [Jvm.Free.Exc.excAtoms]) (by simp)) (notFace_of_selects hSE) hSE (W (.instanceMethod tFill) (by simp [Jvm.Free.Exc.excAtoms, throwableAtoms]) (by simp)) (by decide)
    (Jvm.Free.Exc.fillPaysAny (l := l) (W := 2 * g.monitorRoom) hx htr T₀ L₀ Yfill (u0 := ⟨u, hu⟩) (self := a) (cell := cell) (cellS := cellS) (fun _ => by rw [u2]; simp) (by rw [u2]; simp) (by rw [u3]) (by rw [u3]) f7 hsel0 hneS (fun q => by rw [q] at s6; cases s6) s7 (tk tyS (by rw [Yty]; exact fitA hu))
      ⟨{ ci198 := ci198, i198 := i198, fBack := fB }, ⟨hk198, hg198, ha198, hsB⟩, b7⟩ hTK.1 hTK.2 Yf hO hkO hkindO hfb hfd (fun x => tk tyB (by rw [htB]; rfl)) (fun x => tk tyD (by rw [htD]; rfl)) (by omega) hlo)
    (b := a) (cB := cell.cls) hfound ⟨cell, by rw [eT]; exact e1, rfl, e4⟩ (g := g) hg hsize (Steps.refl _) (argsL := []) (rest := [])
    (fun sig h => by rw [show parseMethodDescriptor tFill.desc = some ⟨[], some (.object tN)⟩ from by decide +kernel] at h; rw [← Option.some.inj h]; rfl) hs (by simp) hd
    (fun vmx hWx => ⟨rfl, hc, hsl, by show T.heap[a]? = _; rw [eT]; exact e1, by show T.heap[T₀.aS]? = _; rw [eT]; exact s5⟩)
  dsimp only [Pt.U, Pt.locs, Pt.cells, Pt.slots] at X6 hD6 hL6 hc6 hn6 st6
  subst hv6 hL6 hc6 hn6
  have hb : ∀ y ∈ ([⟨a, fB.slot⟩, ⟨a, fD.slot⟩, ⟨a, T₀.fStack.slot⟩] : List Loc), y.base = a := fun y hy => by
    simp only [List.mem_cons, List.not_mem_nil, or_false] at hy
    rcases hy with rfl | rfl | rfl <;> rfl
  have hK : Keep s.heap T6.heap [a] := by
    obtain ⟨-, z1, -, -, -, z2⟩ := X6.same
    refine ⟨z1, fun x cx qx nx => ?_, fun x cx qx => ?_⟩
    · obtain ⟨c', r1, r2, r3, r4⟩ := z2 x cx qx
      have : c'.slots = cx.slots := Array.ext_getElem? fun i => r4 i fun hm => nx (by
        rcases List.mem_append.mp hm with hm | hm
        · simp [show x = a from hloc _ hm]
        · simp [show x = a from hb _ hm])
      rw [show T6.heap[x]? = some c' from r1, r2, this]
    · obtain ⟨c', r1, r2, r3, r4⟩ := z2 x cx qx
      exact ⟨c', r1, by rw [r2], by rw [r2], r3⟩
  refine ⟨T6, T6.heap, _, X6.more (Nat.le_refl _) (Nat.add_le_add_left hn _), rfl, hb, hK, ⟨C6, kz, hD6, by rw [q1]; exact e2, by rw [q1]; exact e3, by rw [q2]; exact e4, fun ho => by rw [q3]; exact e5 ho⟩, ?_, fun t k => st6.trans k⟩
  intro O nm dd w F n1 n2 n3
  obtain ⟨cl, cf, k, i, f, g1, g2, g3, g4, g5, g6, g7⟩ := F
  cases e1.symm.trans g1
  have so : Jvm.RoadKit.slotOf Z O nm dd = f.slot := by simp [Jvm.RoadKit.slotOf, g2]
  obtain ⟨kD', zD, -⟩ := own_ride (Z := s) (s := Z) hal.symm hffD
  rw [so] at n1 n2 n3
  have o1 : Jvm.RoadKit.slotOf Z tN "backtrace" "Ljava/lang/Object;" = fB.slot := by simp [Jvm.RoadKit.slotOf, b2]
  have o2 : Jvm.RoadKit.slotOf Z tN "depth" "I" = fD.slot := by simp [Jvm.RoadKit.slotOf, zD]
  have o3 : Jvm.RoadKit.slotOf Z tN "stackTrace" Bundle.steD = T₀.fStack.slot := by simp [Jvm.RoadKit.slotOf, f2]
  rw [o1] at n1; rw [o2] at n2; rw [o3] at n3
  exact ⟨C6, cf, k, i, f, hD6, g2, g3, by rw [q2]; exact g4, by rw [q2]; exact g5, by rw [q1]; exact g6, by rw [q4 _ (Ne.symm n1) (Ne.symm n2) (Ne.symm n3)]; exact g7⟩
end OwnT
theorem d2_0 : decode jdk_29_method_69_code 0 = .ok (.iload_n 0, 1) := by decide +kernel
theorem d2_1 : decode jdk_29_method_69_code 1 = .ok (.iload_n 1, 1) := by decide +kernel
theorem d2_2 : decode jdk_29_method_69_code 2 = .ok (.if_icmp .gt 7, 3) := by decide +kernel
theorem d2_9 : decode jdk_29_method_69_code 9 = .ok (.iload_n 1, 1) := by decide +kernel
theorem d2_10 : decode jdk_29_method_69_code 10 = .ok (.ireturn, 1) := by decide +kernel
theorem d2_5 : decode jdk_29_method_69_code 5 = .ok (.iload_n 0, 1) := by decide +kernel
theorem d2_6 : decode jdk_29_method_69_code 6 = .ok (.goto 4, 3) := by decide +kernel
theorem pn_0 : plainName "java/lang/String" = true := by first | (simp [plainName, overriddenIn]; done) | decide +kernel
theorem d17_0 : decode jdk_42_method_152_code 0 = .ok (.getstatic 38, 3) := by decide +kernel
theorem d17_3 : decode jdk_42_method_152_code 3 = .ok (.ifCond .eq 10, 3) := by decide +kernel
theorem d17_6 : decode jdk_42_method_152_code 6 = .ok (.aload_n 0, 1) := by decide +kernel
theorem d17_7 : decode jdk_42_method_152_code 7 = .ok (.getfield 15, 3) := by decide +kernel
theorem d17_10 : decode jdk_42_method_152_code 10 = .ok (.goto 4, 3) := by decide +kernel
theorem d17_14 : decode jdk_42_method_152_code 14 = .ok (.ireturn, 1) := by decide +kernel
theorem d40_0 : decode jdk_42_method_154_code 0 = .ok (.getstatic 38, 3) := by decide +kernel
theorem d40_3 : decode jdk_42_method_154_code 3 = .ok (.ifCond .eq 14, 3) := by decide +kernel
theorem d40_6 : decode jdk_42_method_154_code 6 = .ok (.aload_n 0, 1) := by decide +kernel
theorem d40_7 : decode jdk_42_method_154_code 7 = .ok (.getfield 15, 3) := by decide +kernel
theorem d40_10 : decode jdk_42_method_154_code 10 = .ok (.ifCond .ne 7, 3) := by decide +kernel
theorem d40_13 : decode jdk_42_method_154_code 13 = .ok (.iconst 1, 1) := by decide +kernel
theorem d40_14 : decode jdk_42_method_154_code 14 = .ok (.goto 4, 3) := by decide +kernel
theorem d40_18 : decode jdk_42_method_154_code 18 = .ok (.ireturn, 1) := by decide +kernel
theorem d16_0 : decode jdk_42_method_54_code 0 = .ok (.aload_n 0, 1) := by decide +kernel
theorem d16_1 : decode jdk_42_method_54_code 1 = .ok (.getfield 9, 3) := by decide +kernel
theorem d16_4 : decode jdk_42_method_54_code 4 = .ok (.arraylength, 1) := by decide +kernel
theorem d16_5 : decode jdk_42_method_54_code 5 = .ok (.aload_n 0, 1) := by decide +kernel
theorem pd_0 : parseMethodDescriptor "()B" = some ⟨[], some .byte⟩ := by decide +kernel
theorem d16_6 : decode jdk_42_method_54_code 6 = .ok (.invokevirtual 335, 3) := by decide +kernel
theorem d16_9 : decode jdk_42_method_54_code 9 = .ok (.ishr, 1) := by decide +kernel
theorem d16_10 : decode jdk_42_method_54_code 10 = .ok (.ireturn, 1) := by decide +kernel
theorem pn_1 : plainName "jdk/internal/util/Preconditions" = true := by first | (simp [plainName, overriddenIn]; done) | decide +kernel
theorem d43_0 : decode jdk_41_method_11_code 0 = .ok (.iload_n 0, 1) := by decide +kernel
theorem d43_1 : decode jdk_41_method_11_code 1 = .ok (.ifCond .lt 8, 3) := by decide +kernel
theorem d43_4 : decode jdk_41_method_11_code 4 = .ok (.iload_n 0, 1) := by decide +kernel
theorem d43_5 : decode jdk_41_method_11_code 5 = .ok (.iload_n 1, 1) := by decide +kernel
theorem d43_6 : decode jdk_41_method_11_code 6 = .ok (.if_icmp .lt 10, 3) := by decide +kernel
theorem d43_16 : decode jdk_41_method_11_code 16 = .ok (.iload_n 0, 1) := by decide +kernel
theorem d43_17 : decode jdk_41_method_11_code 17 = .ok (.ireturn, 1) := by decide +kernel
theorem d42_0 : decode jdk_42_method_155_code 0 = .ok (.iload_n 0, 1) := by decide +kernel
theorem d42_1 : decode jdk_42_method_155_code 1 = .ok (.iload_n 1, 1) := by decide +kernel
theorem d42_2 : decode jdk_42_method_155_code 2 = .ok (.getstatic 1053, 3) := by decide +kernel
theorem pd_1 : parseMethodDescriptor "(IILjava/util/function/BiFunction;)I" = some ⟨[.int, .int, (.object "java/util/function/BiFunction")], some .int⟩ := by decide +kernel
theorem d42_5 : decode jdk_42_method_155_code 5 = .ok (.invokestatic 1059, 3) := by decide +kernel
theorem d42_8 : decode jdk_42_method_155_code 8 = .ok (.pop, 1) := by decide +kernel
theorem d42_9 : decode jdk_42_method_155_code 9 = .ok (.return_, 1) := by decide +kernel
theorem pn_2 : plainName "java/lang/StringLatin1" = true := by first | (simp [plainName, overriddenIn]; done) | decide +kernel
theorem d41_0 : decode jdk_43_method_2_code 0 = .ok (.iload_n 1, 1) := by decide +kernel
theorem d41_1 : decode jdk_43_method_2_code 1 = .ok (.aload_n 0, 1) := by decide +kernel
theorem d41_2 : decode jdk_43_method_2_code 2 = .ok (.arraylength, 1) := by decide +kernel
theorem pd_2 : parseMethodDescriptor "(II)V" = some ⟨[.int, .int], none⟩ := by decide +kernel
theorem d41_3 : decode jdk_43_method_2_code 3 = .ok (.invokestatic 9, 3) := by decide +kernel
theorem d41_6 : decode jdk_43_method_2_code 6 = .ok (.aload_n 0, 1) := by decide +kernel
theorem d41_7 : decode jdk_43_method_2_code 7 = .ok (.iload_n 1, 1) := by decide +kernel
theorem d41_8 : decode jdk_43_method_2_code 8 = .ok (.baload, 1) := by decide +kernel
theorem d41_9 : decode jdk_43_method_2_code 9 = .ok (.sipush 255, 3) := by decide +kernel
theorem d41_12 : decode jdk_43_method_2_code 12 = .ok (.iand, 1) := by decide +kernel
theorem d41_13 : decode jdk_43_method_2_code 13 = .ok (.i2c, 1) := by decide +kernel
theorem d41_14 : decode jdk_43_method_2_code 14 = .ok (.ireturn, 1) := by decide +kernel
theorem d39_0 : decode jdk_42_method_56_code 0 = .ok (.aload_n 0, 1) := by decide +kernel
theorem pd_3 : parseMethodDescriptor "()Z" = some ⟨[], some .boolean⟩ := by decide +kernel
theorem d39_1 : decode jdk_42_method_56_code 1 = .ok (.invokevirtual 492, 3) := by decide +kernel
theorem d39_4 : decode jdk_42_method_56_code 4 = .ok (.ifCond .eq 12, 3) := by decide +kernel
theorem d39_7 : decode jdk_42_method_56_code 7 = .ok (.aload_n 0, 1) := by decide +kernel
theorem d39_8 : decode jdk_42_method_56_code 8 = .ok (.getfield 9, 3) := by decide +kernel
theorem d39_11 : decode jdk_42_method_56_code 11 = .ok (.iload_n 1, 1) := by decide +kernel
theorem pd_4 : parseMethodDescriptor "([BI)C" = some ⟨[(.array .byte), .int], some .char⟩ := by decide +kernel
theorem d39_12 : decode jdk_42_method_56_code 12 = .ok (.invokestatic 495, 3) := by decide +kernel
theorem d39_15 : decode jdk_42_method_56_code 15 = .ok (.ireturn, 1) := by decide +kernel
theorem d38_0 : decode jdk_42_method_66_code 0 = .ok (.aload_n 0, 1) := by decide +kernel
theorem d38_1 : decode jdk_42_method_66_code 1 = .ok (.aload_n 1, 1) := by decide +kernel
theorem d38_2 : decode jdk_42_method_66_code 2 = .ok (.if_acmp .ne 5, 3) := by decide +kernel
theorem d38_5 : decode jdk_42_method_66_code 5 = .ok (.iconst 1, 1) := by decide +kernel
theorem d38_6 : decode jdk_42_method_66_code 6 = .ok (.ireturn, 1) := by decide +kernel
theorem pn_3 : plainName "java/lang/StringUTF16" = true := by first | (simp [plainName, overriddenIn]; done) | decide +kernel
theorem d45_0 : decode jdk_52_method_21_code 0 = .ok (.iconst 0, 1) := by decide +kernel
theorem d45_1 : decode jdk_52_method_21_code 1 = .ok (.istore 5, 2) := by decide +kernel
theorem d45_3 : decode jdk_52_method_21_code 3 = .ok (.iload 5, 2) := by decide +kernel
theorem d45_5 : decode jdk_52_method_21_code 5 = .ok (.iload 4, 2) := by decide +kernel
theorem d45_7 : decode jdk_52_method_21_code 7 = .ok (.if_icmp .ge 37, 3) := by decide +kernel
theorem d45_10 : decode jdk_52_method_21_code 10 = .ok (.aload_n 0, 1) := by decide +kernel
theorem d45_11 : decode jdk_52_method_21_code 11 = .ok (.iload_n 1, 1) := by decide +kernel
theorem d45_12 : decode jdk_52_method_21_code 12 = .ok (.caload, 1) := by decide +kernel
theorem d45_13 : decode jdk_52_method_21_code 13 = .ok (.istore 6, 2) := by decide +kernel
theorem d45_15 : decode jdk_52_method_21_code 15 = .ok (.iload 6, 2) := by decide +kernel
theorem d45_17 : decode jdk_52_method_21_code 17 = .ok (.sipush 255, 3) := by decide +kernel
theorem d45_20 : decode jdk_52_method_21_code 20 = .ok (.if_icmp .le 6, 3) := by decide +kernel
theorem d45_26 : decode jdk_52_method_21_code 26 = .ok (.aload_n 2, 1) := by decide +kernel
theorem d45_27 : decode jdk_52_method_21_code 27 = .ok (.iload_n 3, 1) := by decide +kernel
theorem d45_28 : decode jdk_52_method_21_code 28 = .ok (.iload 6, 2) := by decide +kernel
theorem d45_30 : decode jdk_52_method_21_code 30 = .ok (.i2b, 1) := by decide +kernel
theorem d45_31 : decode jdk_52_method_21_code 31 = .ok (.bastore, 1) := by decide +kernel
theorem d45_32 : decode jdk_52_method_21_code 32 = .ok (.iinc 1 1, 3) := by decide +kernel
theorem d45_35 : decode jdk_52_method_21_code 35 = .ok (.iinc 3 1, 3) := by decide +kernel
theorem d45_38 : decode jdk_52_method_21_code 38 = .ok (.iinc 5 1, 3) := by decide +kernel
theorem d45_41 : decode jdk_52_method_21_code 41 = .ok (.goto (-38), 3) := by decide +kernel
theorem d45_44 : decode jdk_52_method_21_code 44 = .ok (.iload 4, 2) := by decide +kernel
theorem d45_46 : decode jdk_52_method_21_code 46 = .ok (.ireturn, 1) := by decide +kernel
theorem d44_0 : decode jdk_52_method_16_code 0 = .ok (.iload_n 2, 1) := by decide +kernel
theorem d44_1 : decode jdk_52_method_16_code 1 = .ok (.newarray .byte, 2) := by decide +kernel
theorem d44_3 : decode jdk_52_method_16_code 3 = .ok (.astore_n 3, 1) := by decide +kernel
theorem d44_4 : decode jdk_52_method_16_code 4 = .ok (.aload_n 0, 1) := by decide +kernel
theorem d44_5 : decode jdk_52_method_16_code 5 = .ok (.iload_n 1, 1) := by decide +kernel
theorem d44_6 : decode jdk_52_method_16_code 6 = .ok (.aload_n 3, 1) := by decide +kernel
theorem d44_7 : decode jdk_52_method_16_code 7 = .ok (.iconst 0, 1) := by decide +kernel
theorem d44_8 : decode jdk_52_method_16_code 8 = .ok (.iload_n 2, 1) := by decide +kernel
theorem pd_5 : parseMethodDescriptor "([CI[BII)I" = some ⟨[(.array .char), .int, (.array .byte), .int, .int], some .int⟩ := by decide +kernel
theorem d44_9 : decode jdk_52_method_16_code 9 = .ok (.invokestatic 115, 3) := by decide +kernel
theorem d44_12 : decode jdk_52_method_16_code 12 = .ok (.istore 4, 2) := by decide +kernel
theorem d44_14 : decode jdk_52_method_16_code 14 = .ok (.iload 4, 2) := by decide +kernel
theorem d44_16 : decode jdk_52_method_16_code 16 = .ok (.iload_n 2, 1) := by decide +kernel
theorem d44_17 : decode jdk_52_method_16_code 17 = .ok (.if_icmp .eq 40, 3) := by decide +kernel
theorem d44_57 : decode jdk_52_method_16_code 57 = .ok (.aload_n 3, 1) := by decide +kernel
theorem d44_58 : decode jdk_52_method_16_code 58 = .ok (.areturn, 1) := by decide +kernel
theorem d46_0 : decode jdk_52_method_15_code 0 = .ok (.iload_n 1, 1) := by decide +kernel
theorem d46_1 : decode jdk_52_method_15_code 1 = .ok (.aload_n 0, 1) := by decide +kernel
theorem d46_2 : decode jdk_52_method_15_code 2 = .ok (.arraylength, 1) := by decide +kernel
theorem d46_3 : decode jdk_52_method_15_code 3 = .ok (.isub, 1) := by decide +kernel
theorem d46_4 : decode jdk_52_method_15_code 4 = .ok (.bipush 31, 2) := by decide +kernel
theorem d46_6 : decode jdk_52_method_15_code 6 = .ok (.iushr, 1) := by decide +kernel
theorem d46_7 : decode jdk_52_method_15_code 7 = .ok (.i2b, 1) := by decide +kernel
theorem d46_8 : decode jdk_52_method_15_code 8 = .ok (.ireturn, 1) := by decide +kernel
theorem d4_0 : decode jdk_42_method_149_code 0 = .ok (.aload_n 0, 1) := by decide +kernel
theorem d4_1 : decode jdk_42_method_149_code 1 = .ok (.invokespecial 1, 3) := by decide +kernel
theorem d4_4 : decode jdk_42_method_149_code 4 = .ok (.iload_n 3, 1) := by decide +kernel
theorem d4_5 : decode jdk_42_method_149_code 5 = .ok (.ifCond .ne 22, 3) := by decide +kernel
theorem d4_27 : decode jdk_42_method_149_code 27 = .ok (.getstatic 38, 3) := by decide +kernel
theorem d4_30 : decode jdk_42_method_149_code 30 = .ok (.ifCond .eq 28, 3) := by decide +kernel
theorem d4_33 : decode jdk_42_method_149_code 33 = .ok (.aload_n 1, 1) := by decide +kernel
theorem d4_34 : decode jdk_42_method_149_code 34 = .ok (.iload_n 2, 1) := by decide +kernel
theorem d4_35 : decode jdk_42_method_149_code 35 = .ok (.iload_n 3, 1) := by decide +kernel
theorem pd_6 : parseMethodDescriptor "([CII)[B" = some ⟨[(.array .char), .int, .int], some (.array .byte)⟩ := by decide +kernel
theorem d4_36 : decode jdk_42_method_149_code 36 = .ok (.invokestatic 177, 3) := by decide +kernel
theorem d4_39 : decode jdk_42_method_149_code 39 = .ok (.astore 5, 2) := by decide +kernel
theorem d4_41 : decode jdk_42_method_149_code 41 = .ok (.aload_n 0, 1) := by decide +kernel
theorem d4_42 : decode jdk_42_method_149_code 42 = .ok (.aload 5, 2) := by decide +kernel
theorem d4_44 : decode jdk_42_method_149_code 44 = .ok (.iload_n 3, 1) := by decide +kernel
theorem pd_7 : parseMethodDescriptor "([BI)B" = some ⟨[(.array .byte), .int], some .byte⟩ := by decide +kernel
theorem d4_45 : decode jdk_42_method_149_code 45 = .ok (.invokestatic 47, 3) := by decide +kernel
theorem d4_48 : decode jdk_42_method_149_code 48 = .ok (.putfield 15, 3) := by decide +kernel
theorem d4_51 : decode jdk_42_method_149_code 51 = .ok (.aload_n 0, 1) := by decide +kernel
theorem d4_52 : decode jdk_42_method_149_code 52 = .ok (.aload 5, 2) := by decide +kernel
theorem d4_54 : decode jdk_42_method_149_code 54 = .ok (.putfield 9, 3) := by decide +kernel
theorem d4_57 : decode jdk_42_method_149_code 57 = .ok (.return_, 1) := by decide +kernel
theorem d3_0 : decode jdk_42_method_3_code 0 = .ok (.aload_n 0, 1) := by decide +kernel
theorem d3_1 : decode jdk_42_method_3_code 1 = .ok (.aload_n 1, 1) := by decide +kernel
theorem d3_2 : decode jdk_42_method_3_code 2 = .ok (.iconst 0, 1) := by decide +kernel
theorem d3_3 : decode jdk_42_method_3_code 3 = .ok (.aload_n 1, 1) := by decide +kernel
theorem d3_4 : decode jdk_42_method_3_code 4 = .ok (.arraylength, 1) := by decide +kernel
theorem d3_5 : decode jdk_42_method_3_code 5 = .ok (.aconst_null, 1) := by decide +kernel
theorem pd_8 : parseMethodDescriptor "([CIILjava/lang/Void;)V" = some ⟨[(.array .char), .int, .int, (.object "java/lang/Void")], none⟩ := by decide +kernel
theorem d3_6 : decode jdk_42_method_3_code 6 = .ok (.invokespecial 27, 3) := by decide +kernel
theorem d3_9 : decode jdk_42_method_3_code 9 = .ok (.return_, 1) := by decide +kernel
theorem d48_0 : decode jdk_43_method_3_code 0 = .ok (.iload_n 0, 1) := by decide +kernel
theorem d48_1 : decode jdk_43_method_3_code 1 = .ok (.sipush 255, 3) := by decide +kernel
theorem d48_4 : decode jdk_43_method_3_code 4 = .ok (.if_icmp .gt 7, 3) := by decide +kernel
theorem d48_7 : decode jdk_43_method_3_code 7 = .ok (.iconst 1, 1) := by decide +kernel
theorem d48_8 : decode jdk_43_method_3_code 8 = .ok (.goto 4, 3) := by decide +kernel
theorem d48_12 : decode jdk_43_method_3_code 12 = .ok (.ireturn, 1) := by decide +kernel
theorem d49_0 : decode jdk_43_method_46_code 0 = .ok (.iconst 1, 1) := by decide +kernel
theorem d49_1 : decode jdk_43_method_46_code 1 = .ok (.newarray .byte, 2) := by decide +kernel
theorem d49_3 : decode jdk_43_method_46_code 3 = .ok (.dup, 1) := by decide +kernel
theorem d49_4 : decode jdk_43_method_46_code 4 = .ok (.iconst 0, 1) := by decide +kernel
theorem d49_5 : decode jdk_43_method_46_code 5 = .ok (.iload_n 0, 1) := by decide +kernel
theorem d49_6 : decode jdk_43_method_46_code 6 = .ok (.i2b, 1) := by decide +kernel
theorem d49_7 : decode jdk_43_method_46_code 7 = .ok (.bastore, 1) := by decide +kernel
theorem d49_8 : decode jdk_43_method_46_code 8 = .ok (.areturn, 1) := by decide +kernel
theorem d50_0 : decode jdk_42_method_151_code 0 = .ok (.aload_n 0, 1) := by decide +kernel
theorem d50_1 : decode jdk_42_method_151_code 1 = .ok (.invokespecial 1, 3) := by decide +kernel
theorem d50_4 : decode jdk_42_method_151_code 4 = .ok (.aload_n 0, 1) := by decide +kernel
theorem d50_5 : decode jdk_42_method_151_code 5 = .ok (.aload_n 1, 1) := by decide +kernel
theorem d50_6 : decode jdk_42_method_151_code 6 = .ok (.putfield 9, 3) := by decide +kernel
theorem d50_9 : decode jdk_42_method_151_code 9 = .ok (.aload_n 0, 1) := by decide +kernel
theorem d50_10 : decode jdk_42_method_151_code 10 = .ok (.iload_n 2, 1) := by decide +kernel
theorem d50_11 : decode jdk_42_method_151_code 11 = .ok (.putfield 15, 3) := by decide +kernel
theorem d50_14 : decode jdk_42_method_151_code 14 = .ok (.return_, 1) := by decide +kernel
theorem d47_0 : decode jdk_42_method_139_code 0 = .ok (.getstatic 38, 3) := by decide +kernel
theorem d47_3 : decode jdk_42_method_139_code 3 = .ok (.ifCond .eq 23, 3) := by decide +kernel
theorem d47_6 : decode jdk_42_method_139_code 6 = .ok (.iload_n 0, 1) := by decide +kernel
theorem pd_9 : parseMethodDescriptor "(C)Z" = some ⟨[.char], some .boolean⟩ := by decide +kernel
theorem d47_7 : decode jdk_42_method_139_code 7 = .ok (.invokestatic 1015, 3) := by decide +kernel
theorem d47_10 : decode jdk_42_method_139_code 10 = .ok (.ifCond .eq 16, 3) := by decide +kernel
theorem d47_13 : decode jdk_42_method_139_code 13 = .ok (.new 10, 3) := by decide +kernel
theorem d47_16 : decode jdk_42_method_139_code 16 = .ok (.dup, 1) := by decide +kernel
theorem d47_17 : decode jdk_42_method_139_code 17 = .ok (.iload_n 0, 1) := by decide +kernel
theorem pd_10 : parseMethodDescriptor "(C)[B" = some ⟨[.char], some (.array .byte)⟩ := by decide +kernel
theorem d47_18 : decode jdk_42_method_139_code 18 = .ok (.invokestatic 1018, 3) := by decide +kernel
theorem d47_21 : decode jdk_42_method_139_code 21 = .ok (.iconst 0, 1) := by decide +kernel
theorem pd_11 : parseMethodDescriptor "([BB)V" = some ⟨[(.array .byte), .byte], none⟩ := by decide +kernel
theorem d47_22 : decode jdk_42_method_139_code 22 = .ok (.invokespecial 209, 3) := by decide +kernel
theorem d47_25 : decode jdk_42_method_139_code 25 = .ok (.areturn, 1) := by decide +kernel
theorem d4_8 : decode jdk_42_method_149_code 8 = .ok (.aload_n 0, 1) := by decide +kernel
theorem d4_9 : decode jdk_42_method_149_code 9 = .ok (.ldc 7, 2) := by decide +kernel
theorem d4_11 : decode jdk_42_method_149_code 11 = .ok (.getfield 9, 3) := by decide +kernel
theorem d4_14 : decode jdk_42_method_149_code 14 = .ok (.putfield 9, 3) := by decide +kernel
theorem d4_17 : decode jdk_42_method_149_code 17 = .ok (.aload_n 0, 1) := by decide +kernel
theorem d4_18 : decode jdk_42_method_149_code 18 = .ok (.ldc 7, 2) := by decide +kernel
theorem d4_20 : decode jdk_42_method_149_code 20 = .ok (.getfield 15, 3) := by decide +kernel
theorem d4_23 : decode jdk_42_method_149_code 23 = .ok (.putfield 15, 3) := by decide +kernel
theorem d4_26 : decode jdk_42_method_149_code 26 = .ok (.return_, 1) := by decide +kernel
theorem pn_4 : plainName "com/example/ashlar_gate/ashlargate/model/InvalidValueExceptionAtPinLaw" = true := by first | (simp [plainName, overriddenIn]; done) | decide +kernel
theorem d1_0 : decode method_2_code 0 = .ok (.iload_n 0, 1) := by decide +kernel
theorem d1_1 : decode method_2_code 1 = .ok (.bipush 16, 2) := by decide +kernel
theorem d1_3 : decode method_2_code 3 = .ok (.iushr, 1) := by decide +kernel
theorem d1_4 : decode method_2_code 4 = .ok (.iconst 3, 1) := by decide +kernel
theorem d1_5 : decode method_2_code 5 = .ok (.iand, 1) := by decide +kernel
theorem d1_6 : decode method_2_code 6 = .ok (.iconst 2, 1) := by decide +kernel
theorem pd_12 : parseMethodDescriptor "(II)I" = some ⟨[.int, .int], some .int⟩ := by decide +kernel
theorem d1_7 : decode method_2_code 7 = .ok (.invokestatic 7, 3) := by decide +kernel
theorem d1_10 : decode method_2_code 10 = .ok (.istore_n 1, 1) := by decide +kernel
theorem d1_11 : decode method_2_code 11 = .ok (.iload_n 0, 1) := by decide +kernel
theorem d1_12 : decode method_2_code 12 = .ok (.sipush 255, 3) := by decide +kernel
theorem d1_15 : decode method_2_code 15 = .ok (.iand, 1) := by decide +kernel
theorem d1_16 : decode method_2_code 16 = .ok (.i2c, 1) := by decide +kernel
theorem d1_17 : decode method_2_code 17 = .ok (.istore_n 2, 1) := by decide +kernel
theorem d1_18 : decode method_2_code 18 = .ok (.iload_n 0, 1) := by decide +kernel
theorem d1_19 : decode method_2_code 19 = .ok (.bipush 8, 2) := by decide +kernel
theorem d1_21 : decode method_2_code 21 = .ok (.iushr, 1) := by decide +kernel
theorem d1_22 : decode method_2_code 22 = .ok (.sipush 255, 3) := by decide +kernel
theorem d1_25 : decode method_2_code 25 = .ok (.iand, 1) := by decide +kernel
theorem d1_26 : decode method_2_code 26 = .ok (.i2c, 1) := by decide +kernel
theorem d1_27 : decode method_2_code 27 = .ok (.istore_n 3, 1) := by decide +kernel
theorem d1_28 : decode method_2_code 28 = .ok (.iload_n 1, 1) := by decide +kernel
theorem d1_29 : decode method_2_code 29 = .ok (.ifCond .ne 14, 3) := by decide +kernel
theorem d1_32 : decode method_2_code 32 = .ok (.new 13, 3) := by decide +kernel
theorem d1_35 : decode method_2_code 35 = .ok (.dup, 1) := by decide +kernel
theorem d1_36 : decode method_2_code 36 = .ok (.iconst 0, 1) := by decide +kernel
theorem d1_37 : decode method_2_code 37 = .ok (.newarray .char, 2) := by decide +kernel
theorem pd_13 : parseMethodDescriptor "([C)V" = some ⟨[(.array .char)], none⟩ := by decide +kernel
theorem d1_39 : decode method_2_code 39 = .ok (.invokespecial 15, 3) := by decide +kernel
theorem d1_42 : decode method_2_code 42 = .ok (.areturn, 1) := by decide +kernel
theorem d1_43 : decode method_2_code 43 = .ok (.iload_n 1, 1) := by decide +kernel
theorem d1_44 : decode method_2_code 44 = .ok (.iconst 1, 1) := by decide +kernel
theorem d1_45 : decode method_2_code 45 = .ok (.if_icmp .ne 8, 3) := by decide +kernel
theorem d1_48 : decode method_2_code 48 = .ok (.iload_n 2, 1) := by decide +kernel
theorem pd_14 : parseMethodDescriptor "(C)Ljava/lang/String;" = some ⟨[.char], some (.object "java/lang/String")⟩ := by decide +kernel
theorem d1_49 : decode method_2_code 49 = .ok (.invokestatic 18, 3) := by decide +kernel
theorem d1_52 : decode method_2_code 52 = .ok (.areturn, 1) := by decide +kernel
theorem d1_53 : decode method_2_code 53 = .ok (.new 13, 3) := by decide +kernel
theorem d1_56 : decode method_2_code 56 = .ok (.dup, 1) := by decide +kernel
theorem d1_57 : decode method_2_code 57 = .ok (.iconst 2, 1) := by decide +kernel
theorem d1_58 : decode method_2_code 58 = .ok (.newarray .char, 2) := by decide +kernel
theorem d1_60 : decode method_2_code 60 = .ok (.dup, 1) := by decide +kernel
theorem d1_61 : decode method_2_code 61 = .ok (.iconst 0, 1) := by decide +kernel
theorem d1_62 : decode method_2_code 62 = .ok (.iload_n 2, 1) := by decide +kernel
theorem d1_63 : decode method_2_code 63 = .ok (.castore, 1) := by decide +kernel
theorem d1_64 : decode method_2_code 64 = .ok (.dup, 1) := by decide +kernel
theorem d1_65 : decode method_2_code 65 = .ok (.iconst 1, 1) := by decide +kernel
theorem d1_66 : decode method_2_code 66 = .ok (.iload_n 3, 1) := by decide +kernel
theorem d1_67 : decode method_2_code 67 = .ok (.castore, 1) := by decide +kernel
theorem d1_68 : decode method_2_code 68 = .ok (.invokespecial 15, 3) := by decide +kernel
theorem d1_71 : decode method_2_code 71 = .ok (.areturn, 1) := by decide +kernel
theorem pn_5 : plainName "java/lang/Throwable" = true := by first | (simp [plainName, overriddenIn]; done) | decide +kernel
theorem d8_0 : decode jdk_78_method_2_code 0 = .ok (.aload_n 0, 1) := by decide +kernel
theorem d8_1 : decode jdk_78_method_2_code 1 = .ok (.invokespecial 1, 3) := by decide +kernel
theorem d8_4 : decode jdk_78_method_2_code 4 = .ok (.aload_n 0, 1) := by decide +kernel
theorem d8_5 : decode jdk_78_method_2_code 5 = .ok (.aload_n 0, 1) := by decide +kernel
theorem d8_6 : decode jdk_78_method_2_code 6 = .ok (.putfield 7, 3) := by decide +kernel
theorem d8_9 : decode jdk_78_method_2_code 9 = .ok (.aload_n 0, 1) := by decide +kernel
theorem d8_10 : decode jdk_78_method_2_code 10 = .ok (.getstatic 13, 3) := by decide +kernel
theorem d8_13 : decode jdk_78_method_2_code 13 = .ok (.putfield 17, 3) := by decide +kernel
theorem d8_16 : decode jdk_78_method_2_code 16 = .ok (.aload_n 0, 1) := by decide +kernel
theorem d8_17 : decode jdk_78_method_2_code 17 = .ok (.getstatic 20, 3) := by decide +kernel
theorem d8_20 : decode jdk_78_method_2_code 20 = .ok (.putfield 24, 3) := by decide +kernel
theorem d8_23 : decode jdk_78_method_2_code 23 = .ok (.aload_n 0, 1) := by decide +kernel
theorem d8_24 : decode jdk_78_method_2_code 24 = .ok (.invokevirtual 27, 3) := by decide +kernel
theorem d8_27 : decode jdk_78_method_2_code 27 = .ok (.pop, 1) := by decide +kernel
theorem d8_28 : decode jdk_78_method_2_code 28 = .ok (.aload_n 0, 1) := by decide +kernel
theorem d8_29 : decode jdk_78_method_2_code 29 = .ok (.aload_n 1, 1) := by decide +kernel
theorem d8_30 : decode jdk_78_method_2_code 30 = .ok (.putfield 31, 3) := by decide +kernel
theorem d8_33 : decode jdk_78_method_2_code 33 = .ok (.return_, 1) := by decide +kernel
theorem pn_6 : plainName "java/lang/Exception" = true := by first | (simp [plainName, overriddenIn]; done) | decide +kernel
theorem d7_0 : decode jdk_59_method_2_code 0 = .ok (.aload_n 0, 1) := by decide +kernel
theorem d7_1 : decode jdk_59_method_2_code 1 = .ok (.aload_n 1, 1) := by decide +kernel
theorem pd_15 : parseMethodDescriptor "(Ljava/lang/String;)V" = some ⟨[(.object "java/lang/String")], none⟩ := by decide +kernel
theorem d7_2 : decode jdk_59_method_2_code 2 = .ok (.invokespecial 7, 3) := by decide +kernel
theorem d7_5 : decode jdk_59_method_2_code 5 = .ok (.return_, 1) := by decide +kernel
theorem pn_7 : plainName "com/example/ashlar_gate/ashlargate/model/InvalidValueException" = true := by first | (simp [plainName, overriddenIn]; done) | decide +kernel
theorem d6_0 : decode prog_12_method_1_code 0 = .ok (.aload_n 0, 1) := by decide +kernel
theorem d6_1 : decode prog_12_method_1_code 1 = .ok (.aload_n 2, 1) := by decide +kernel
theorem d6_2 : decode prog_12_method_1_code 2 = .ok (.invokespecial 1, 3) := by decide +kernel
theorem d6_5 : decode prog_12_method_1_code 5 = .ok (.aload_n 0, 1) := by decide +kernel
theorem d6_6 : decode prog_12_method_1_code 6 = .ok (.aload_n 1, 1) := by decide +kernel
theorem d6_7 : decode prog_12_method_1_code 7 = .ok (.putfield 7, 3) := by decide +kernel
theorem d6_10 : decode prog_12_method_1_code 10 = .ok (.return_, 1) := by decide +kernel
theorem pn_8 : plainName "java/lang/AbstractStringBuilder" = true := by first | (simp [plainName, overriddenIn]; done) | decide +kernel
theorem d13_0 : decode jdk_68_method_2_code 0 = .ok (.aload_n 0, 1) := by decide +kernel
theorem d13_1 : decode jdk_68_method_2_code 1 = .ok (.invokespecial 3, 3) := by decide +kernel
theorem d13_4 : decode jdk_68_method_2_code 4 = .ok (.getstatic 18, 3) := by decide +kernel
theorem d13_7 : decode jdk_68_method_2_code 7 = .ok (.ifCond .eq 18, 3) := by decide +kernel
theorem d13_10 : decode jdk_68_method_2_code 10 = .ok (.aload_n 0, 1) := by decide +kernel
theorem d13_11 : decode jdk_68_method_2_code 11 = .ok (.iload_n 1, 1) := by decide +kernel
theorem d13_12 : decode jdk_68_method_2_code 12 = .ok (.newarray .byte, 2) := by decide +kernel
theorem d13_14 : decode jdk_68_method_2_code 14 = .ok (.putfield 15, 3) := by decide +kernel
theorem d13_17 : decode jdk_68_method_2_code 17 = .ok (.aload_n 0, 1) := by decide +kernel
theorem d13_18 : decode jdk_68_method_2_code 18 = .ok (.iconst 0, 1) := by decide +kernel
theorem d13_19 : decode jdk_68_method_2_code 19 = .ok (.putfield 22, 3) := by decide +kernel
theorem d13_22 : decode jdk_68_method_2_code 22 = .ok (.goto 16, 3) := by decide +kernel
theorem d13_38 : decode jdk_68_method_2_code 38 = .ok (.return_, 1) := by decide +kernel
theorem pn_9 : plainName "java/lang/StringBuilder" = true := by first | (simp [plainName, overriddenIn]; done) | decide +kernel
theorem d12_0 : decode jdk_67_method_1_code 0 = .ok (.aload_n 0, 1) := by decide +kernel
theorem d12_1 : decode jdk_67_method_1_code 1 = .ok (.bipush 16, 2) := by decide +kernel
theorem pd_16 : parseMethodDescriptor "(I)V" = some ⟨[.int], none⟩ := by decide +kernel
theorem d12_3 : decode jdk_67_method_1_code 3 = .ok (.invokespecial 1, 3) := by decide +kernel
theorem d12_6 : decode jdk_67_method_1_code 6 = .ok (.return_, 1) := by decide +kernel
theorem d18_0 : decode jdk_68_method_9_code 0 = .ok (.aload_n 0, 1) := by decide +kernel
theorem d18_1 : decode jdk_68_method_9_code 1 = .ok (.getfield 15, 3) := by decide +kernel
theorem d18_4 : decode jdk_68_method_9_code 4 = .ok (.arraylength, 1) := by decide +kernel
theorem d18_5 : decode jdk_68_method_9_code 5 = .ok (.aload_n 0, 1) := by decide +kernel
theorem d18_6 : decode jdk_68_method_9_code 6 = .ok (.getfield 22, 3) := by decide +kernel
theorem d18_9 : decode jdk_68_method_9_code 9 = .ok (.ishr, 1) := by decide +kernel
theorem d18_10 : decode jdk_68_method_9_code 10 = .ok (.istore_n 2, 1) := by decide +kernel
theorem d18_11 : decode jdk_68_method_9_code 11 = .ok (.iload_n 1, 1) := by decide +kernel
theorem d18_12 : decode jdk_68_method_9_code 12 = .ok (.iload_n 2, 1) := by decide +kernel
theorem d18_13 : decode jdk_68_method_9_code 13 = .ok (.isub, 1) := by decide +kernel
theorem d18_14 : decode jdk_68_method_9_code 14 = .ok (.ifCond .le 24, 3) := by decide +kernel
theorem d18_38 : decode jdk_68_method_9_code 38 = .ok (.return_, 1) := by decide +kernel
theorem d20_0 : decode jdk_68_method_71_code 0 = .ok (.getstatic 18, 3) := by decide +kernel
theorem d20_3 : decode jdk_68_method_71_code 3 = .ok (.ifCond .eq 18, 3) := by decide +kernel
theorem d20_6 : decode jdk_68_method_71_code 6 = .ok (.aload_n 0, 1) := by decide +kernel
theorem d20_7 : decode jdk_68_method_71_code 7 = .ok (.getfield 22, 3) := by decide +kernel
theorem d20_10 : decode jdk_68_method_71_code 10 = .ok (.aload_n 1, 1) := by decide +kernel
theorem d20_11 : decode jdk_68_method_71_code 11 = .ok (.invokevirtual 40, 3) := by decide +kernel
theorem d20_14 : decode jdk_68_method_71_code 14 = .ok (.if_icmp .eq 7, 3) := by decide +kernel
theorem d20_21 : decode jdk_68_method_71_code 21 = .ok (.return_, 1) := by decide +kernel
theorem d21_0 : decode jdk_42_method_147_code 0 = .ok (.aload_n 0, 1) := by decide +kernel
theorem d21_1 : decode jdk_42_method_147_code 1 = .ok (.invokevirtual 335, 3) := by decide +kernel
theorem d21_4 : decode jdk_42_method_147_code 4 = .ok (.iload_n 3, 1) := by decide +kernel
theorem d21_5 : decode jdk_42_method_147_code 5 = .ok (.if_icmp .ne 23, 3) := by decide +kernel
theorem d21_8 : decode jdk_42_method_147_code 8 = .ok (.aload_n 0, 1) := by decide +kernel
theorem d21_9 : decode jdk_42_method_147_code 9 = .ok (.getfield 9, 3) := by decide +kernel
theorem d21_12 : decode jdk_42_method_147_code 12 = .ok (.iconst 0, 1) := by decide +kernel
theorem d21_13 : decode jdk_42_method_147_code 13 = .ok (.aload_n 1, 1) := by decide +kernel
theorem d21_14 : decode jdk_42_method_147_code 14 = .ok (.iload_n 2, 1) := by decide +kernel
theorem d21_15 : decode jdk_42_method_147_code 15 = .ok (.iload_n 3, 1) := by decide +kernel
theorem d21_16 : decode jdk_42_method_147_code 16 = .ok (.ishl, 1) := by decide +kernel
theorem d21_17 : decode jdk_42_method_147_code 17 = .ok (.aload_n 0, 1) := by decide +kernel
theorem d21_18 : decode jdk_42_method_147_code 18 = .ok (.getfield 9, 3) := by decide +kernel
theorem d21_21 : decode jdk_42_method_147_code 21 = .ok (.arraylength, 1) := by decide +kernel
theorem d21_22 : decode jdk_42_method_147_code 22 = .ok (.invokestatic 212, 3) := by decide +kernel
theorem d21_25 : decode jdk_42_method_147_code 25 = .ok (.goto 18, 3) := by decide +kernel
theorem d21_43 : decode jdk_42_method_147_code 43 = .ok (.return_, 1) := by decide +kernel
theorem d19_0 : decode jdk_68_method_73_code 0 = .ok (.aload_n 0, 1) := by decide +kernel
theorem d19_1 : decode jdk_68_method_73_code 1 = .ok (.aload_n 2, 1) := by decide +kernel
theorem d19_2 : decode jdk_68_method_73_code 2 = .ok (.invokevirtual 397, 3) := by decide +kernel
theorem d19_5 : decode jdk_68_method_73_code 5 = .ok (.aload_n 2, 1) := by decide +kernel
theorem d19_6 : decode jdk_68_method_73_code 6 = .ok (.aload_n 0, 1) := by decide +kernel
theorem d19_7 : decode jdk_68_method_73_code 7 = .ok (.getfield 15, 3) := by decide +kernel
theorem d19_10 : decode jdk_68_method_73_code 10 = .ok (.iload_n 1, 1) := by decide +kernel
theorem d19_11 : decode jdk_68_method_73_code 11 = .ok (.aload_n 0, 1) := by decide +kernel
theorem d19_12 : decode jdk_68_method_73_code 12 = .ok (.getfield 22, 3) := by decide +kernel
theorem pd_17 : parseMethodDescriptor "([BIB)V" = some ⟨[(.array .byte), .int, .byte], none⟩ := by decide +kernel
theorem d19_15 : decode jdk_68_method_73_code 15 = .ok (.invokevirtual 399, 3) := by decide +kernel
theorem d19_18 : decode jdk_68_method_73_code 18 = .ok (.return_, 1) := by decide +kernel
theorem d15_0 : decode jdk_68_method_22_code 0 = .ok (.aload_n 1, 1) := by decide +kernel
theorem d15_1 : decode jdk_68_method_22_code 1 = .ok (.ifnonnull 8, 3) := by decide +kernel
theorem d15_9 : decode jdk_68_method_22_code 9 = .ok (.aload_n 1, 1) := by decide +kernel
theorem pd_18 : parseMethodDescriptor "()I" = some ⟨[], some .int⟩ := by decide +kernel
theorem d15_10 : decode jdk_68_method_22_code 10 = .ok (.invokevirtual 32, 3) := by decide +kernel
theorem d15_13 : decode jdk_68_method_22_code 13 = .ok (.istore_n 2, 1) := by decide +kernel
theorem d15_14 : decode jdk_68_method_22_code 14 = .ok (.aload_n 0, 1) := by decide +kernel
theorem d15_15 : decode jdk_68_method_22_code 15 = .ok (.aload_n 0, 1) := by decide +kernel
theorem d15_16 : decode jdk_68_method_22_code 16 = .ok (.getfield 79, 3) := by decide +kernel
theorem d15_19 : decode jdk_68_method_22_code 19 = .ok (.iload_n 2, 1) := by decide +kernel
theorem d15_20 : decode jdk_68_method_22_code 20 = .ok (.iadd, 1) := by decide +kernel
theorem d15_21 : decode jdk_68_method_22_code 21 = .ok (.invokevirtual 100, 3) := by decide +kernel
theorem d15_24 : decode jdk_68_method_22_code 24 = .ok (.aload_n 0, 1) := by decide +kernel
theorem d15_25 : decode jdk_68_method_22_code 25 = .ok (.aload_n 0, 1) := by decide +kernel
theorem d15_26 : decode jdk_68_method_22_code 26 = .ok (.getfield 79, 3) := by decide +kernel
theorem d15_29 : decode jdk_68_method_22_code 29 = .ok (.aload_n 1, 1) := by decide +kernel
theorem pd_19 : parseMethodDescriptor "(ILjava/lang/String;)V" = some ⟨[.int, (.object "java/lang/String")], none⟩ := by decide +kernel
theorem d15_30 : decode jdk_68_method_22_code 30 = .ok (.invokevirtual 208, 3) := by decide +kernel
theorem d15_33 : decode jdk_68_method_22_code 33 = .ok (.aload_n 0, 1) := by decide +kernel
theorem d15_34 : decode jdk_68_method_22_code 34 = .ok (.dup, 1) := by decide +kernel
theorem d15_35 : decode jdk_68_method_22_code 35 = .ok (.getfield 79, 3) := by decide +kernel
theorem d15_38 : decode jdk_68_method_22_code 38 = .ok (.iload_n 2, 1) := by decide +kernel
theorem d15_39 : decode jdk_68_method_22_code 39 = .ok (.iadd, 1) := by decide +kernel
theorem d15_40 : decode jdk_68_method_22_code 40 = .ok (.putfield 79, 3) := by decide +kernel
theorem d15_43 : decode jdk_68_method_22_code 43 = .ok (.aload_n 0, 1) := by decide +kernel
theorem d15_44 : decode jdk_68_method_22_code 44 = .ok (.areturn, 1) := by decide +kernel
theorem d14_0 : decode jdk_67_method_7_code 0 = .ok (.aload_n 0, 1) := by decide +kernel
theorem d14_1 : decode jdk_67_method_7_code 1 = .ok (.aload_n 1, 1) := by decide +kernel
theorem pd_20 : parseMethodDescriptor "(Ljava/lang/String;)Ljava/lang/AbstractStringBuilder;" = some ⟨[(.object "java/lang/String")], some (.object "java/lang/AbstractStringBuilder")⟩ := by decide +kernel
theorem d14_2 : decode jdk_67_method_7_code 2 = .ok (.invokespecial 29, 3) := by decide +kernel
theorem d14_5 : decode jdk_67_method_7_code 5 = .ok (.pop, 1) := by decide +kernel
theorem d14_6 : decode jdk_67_method_7_code 6 = .ok (.aload_n 0, 1) := by decide +kernel
theorem d14_7 : decode jdk_67_method_7_code 7 = .ok (.areturn, 1) := by decide +kernel
theorem d22_0 : decode jdk_78_method_6_code 0 = .ok (.aload_n 0, 1) := by decide +kernel
theorem d22_1 : decode jdk_78_method_6_code 1 = .ok (.getfield 31, 3) := by decide +kernel
theorem d22_4 : decode jdk_78_method_6_code 4 = .ok (.areturn, 1) := by decide +kernel
theorem d26_0 : decode jdk_68_method_64_code 0 = .ok (.aload_n 0, 1) := by decide +kernel
theorem d26_1 : decode jdk_68_method_64_code 1 = .ok (.getfield 15, 3) := by decide +kernel
theorem d26_4 : decode jdk_68_method_64_code 4 = .ok (.areturn, 1) := by decide +kernel
theorem d28_0 : decode jdk_68_method_6_code 0 = .ok (.aload_n 0, 1) := by decide +kernel
theorem d28_1 : decode jdk_68_method_6_code 1 = .ok (.getfield 79, 3) := by decide +kernel
theorem d28_4 : decode jdk_68_method_6_code 4 = .ok (.ireturn, 1) := by decide +kernel
theorem d27_0 : decode jdk_67_method_93_code 0 = .ok (.aload_n 0, 1) := by decide +kernel
theorem d27_1 : decode jdk_67_method_93_code 1 = .ok (.invokespecial 343, 3) := by decide +kernel
theorem d27_4 : decode jdk_67_method_93_code 4 = .ok (.ireturn, 1) := by decide +kernel
theorem d29_0 : decode jdk_68_method_68_code 0 = .ok (.getstatic 18, 3) := by decide +kernel
theorem d29_3 : decode jdk_68_method_68_code 3 = .ok (.ifCond .eq 14, 3) := by decide +kernel
theorem d29_6 : decode jdk_68_method_68_code 6 = .ok (.aload_n 0, 1) := by decide +kernel
theorem d29_7 : decode jdk_68_method_68_code 7 = .ok (.getfield 22, 3) := by decide +kernel
theorem d29_10 : decode jdk_68_method_68_code 10 = .ok (.ifCond .ne 7, 3) := by decide +kernel
theorem d29_13 : decode jdk_68_method_68_code 13 = .ok (.iconst 1, 1) := by decide +kernel
theorem d29_14 : decode jdk_68_method_68_code 14 = .ok (.goto 4, 3) := by decide +kernel
theorem d29_18 : decode jdk_68_method_68_code 18 = .ok (.ireturn, 1) := by decide +kernel
theorem pn_10 : plainName "java/util/Arrays" = true := by first | (simp [plainName, overriddenIn]; done) | decide +kernel
theorem d32_0 : decode jdk_65_method_131_code 0 = .ok (.iload_n 1, 1) := by decide +kernel
theorem d32_1 : decode jdk_65_method_131_code 1 = .ok (.iload_n 0, 1) := by decide +kernel
theorem d32_2 : decode jdk_65_method_131_code 2 = .ok (.if_icmp .ge 35, 3) := by decide +kernel
theorem d32_37 : decode jdk_65_method_131_code 37 = .ok (.return_, 1) := by decide +kernel
theorem d31_0 : decode jdk_65_method_133_code 0 = .ok (.iload_n 1, 1) := by decide +kernel
theorem d31_1 : decode jdk_65_method_133_code 1 = .ok (.iload_n 2, 1) := by decide +kernel
theorem d31_2 : decode jdk_65_method_133_code 2 = .ok (.invokestatic 343, 3) := by decide +kernel
theorem d31_5 : decode jdk_65_method_133_code 5 = .ok (.iload_n 2, 1) := by decide +kernel
theorem d31_6 : decode jdk_65_method_133_code 6 = .ok (.iload_n 1, 1) := by decide +kernel
theorem d31_7 : decode jdk_65_method_133_code 7 = .ok (.isub, 1) := by decide +kernel
theorem d31_8 : decode jdk_65_method_133_code 8 = .ok (.istore_n 3, 1) := by decide +kernel
theorem d31_9 : decode jdk_65_method_133_code 9 = .ok (.iload_n 3, 1) := by decide +kernel
theorem d31_10 : decode jdk_65_method_133_code 10 = .ok (.newarray .byte, 2) := by decide +kernel
theorem d31_12 : decode jdk_65_method_133_code 12 = .ok (.astore 4, 2) := by decide +kernel
theorem d31_14 : decode jdk_65_method_133_code 14 = .ok (.aload_n 0, 1) := by decide +kernel
theorem d31_15 : decode jdk_65_method_133_code 15 = .ok (.iload_n 1, 1) := by decide +kernel
theorem d31_16 : decode jdk_65_method_133_code 16 = .ok (.aload 4, 2) := by decide +kernel
theorem d31_18 : decode jdk_65_method_133_code 18 = .ok (.iconst 0, 1) := by decide +kernel
theorem d31_19 : decode jdk_65_method_133_code 19 = .ok (.aload_n 0, 1) := by decide +kernel
theorem d31_20 : decode jdk_65_method_133_code 20 = .ok (.arraylength, 1) := by decide +kernel
theorem d31_21 : decode jdk_65_method_133_code 21 = .ok (.iload_n 1, 1) := by decide +kernel
theorem d31_22 : decode jdk_65_method_133_code 22 = .ok (.isub, 1) := by decide +kernel
theorem d31_23 : decode jdk_65_method_133_code 23 = .ok (.iload_n 3, 1) := by decide +kernel
theorem d31_24 : decode jdk_65_method_133_code 24 = .ok (.invokestatic 304, 3) := by decide +kernel
theorem d31_27 : decode jdk_65_method_133_code 27 = .ok (.invokestatic 150, 3) := by decide +kernel
theorem d31_30 : decode jdk_65_method_133_code 30 = .ok (.aload 4, 2) := by decide +kernel
theorem d31_32 : decode jdk_65_method_133_code 32 = .ok (.areturn, 1) := by decide +kernel
theorem d30_0 : decode jdk_65_method_132_code 0 = .ok (.iload_n 1, 1) := by decide +kernel
theorem d30_1 : decode jdk_65_method_132_code 1 = .ok (.ifCond .ne 9, 3) := by decide +kernel
theorem d30_4 : decode jdk_65_method_132_code 4 = .ok (.iload_n 2, 1) := by decide +kernel
theorem d30_5 : decode jdk_65_method_132_code 5 = .ok (.aload_n 0, 1) := by decide +kernel
theorem d30_6 : decode jdk_65_method_132_code 6 = .ok (.arraylength, 1) := by decide +kernel
theorem d30_7 : decode jdk_65_method_132_code 7 = .ok (.if_icmp .eq 10, 3) := by decide +kernel
theorem d30_10 : decode jdk_65_method_132_code 10 = .ok (.aload_n 0, 1) := by decide +kernel
theorem d30_11 : decode jdk_65_method_132_code 11 = .ok (.iload_n 1, 1) := by decide +kernel
theorem d30_12 : decode jdk_65_method_132_code 12 = .ok (.iload_n 2, 1) := by decide +kernel
theorem pd_21 : parseMethodDescriptor "([BII)[B" = some ⟨[(.array .byte), .int, .int], some (.array .byte)⟩ := by decide +kernel
theorem d30_13 : decode jdk_65_method_132_code 13 = .ok (.invokestatic 339, 3) := by decide +kernel
theorem d30_16 : decode jdk_65_method_132_code 16 = .ok (.areturn, 1) := by decide +kernel
theorem d25_0 : decode jdk_42_method_150_code 0 = .ok (.aload_n 0, 1) := by decide +kernel
theorem d25_1 : decode jdk_42_method_150_code 1 = .ok (.invokespecial 1, 3) := by decide +kernel
theorem d25_4 : decode jdk_42_method_150_code 4 = .ok (.aload_n 1, 1) := by decide +kernel
theorem pd_22 : parseMethodDescriptor "()[B" = some ⟨[], some (.array .byte)⟩ := by decide +kernel
theorem d25_5 : decode jdk_42_method_150_code 5 = .ok (.invokevirtual 552, 3) := by decide +kernel
theorem d25_8 : decode jdk_42_method_150_code 8 = .ok (.astore_n 3, 1) := by decide +kernel
theorem d25_9 : decode jdk_42_method_150_code 9 = .ok (.aload_n 1, 1) := by decide +kernel
theorem d25_10 : decode jdk_42_method_150_code 10 = .ok (.invokevirtual 549, 3) := by decide +kernel
theorem d25_13 : decode jdk_42_method_150_code 13 = .ok (.istore 4, 2) := by decide +kernel
theorem d25_15 : decode jdk_42_method_150_code 15 = .ok (.aload_n 1, 1) := by decide +kernel
theorem d25_16 : decode jdk_42_method_150_code 16 = .ok (.invokevirtual 1047, 3) := by decide +kernel
theorem d25_19 : decode jdk_42_method_150_code 19 = .ok (.ifCond .eq 22, 3) := by decide +kernel
theorem d25_22 : decode jdk_42_method_150_code 22 = .ok (.aload_n 0, 1) := by decide +kernel
theorem d25_23 : decode jdk_42_method_150_code 23 = .ok (.iconst 0, 1) := by decide +kernel
theorem d25_24 : decode jdk_42_method_150_code 24 = .ok (.putfield 15, 3) := by decide +kernel
theorem d25_27 : decode jdk_42_method_150_code 27 = .ok (.aload_n 0, 1) := by decide +kernel
theorem d25_28 : decode jdk_42_method_150_code 28 = .ok (.aload_n 3, 1) := by decide +kernel
theorem d25_29 : decode jdk_42_method_150_code 29 = .ok (.iconst 0, 1) := by decide +kernel
theorem d25_30 : decode jdk_42_method_150_code 30 = .ok (.iload 4, 2) := by decide +kernel
theorem d25_32 : decode jdk_42_method_150_code 32 = .ok (.invokestatic 54, 3) := by decide +kernel
theorem d25_35 : decode jdk_42_method_150_code 35 = .ok (.putfield 9, 3) := by decide +kernel
theorem d25_38 : decode jdk_42_method_150_code 38 = .ok (.goto 59, 3) := by decide +kernel
theorem d25_97 : decode jdk_42_method_150_code 97 = .ok (.return_, 1) := by decide +kernel
theorem d24_0 : decode jdk_42_method_53_code 0 = .ok (.aload_n 0, 1) := by decide +kernel
theorem d24_1 : decode jdk_42_method_53_code 1 = .ok (.aload_n 1, 1) := by decide +kernel
theorem d24_2 : decode jdk_42_method_53_code 2 = .ok (.aconst_null, 1) := by decide +kernel
theorem pd_23 : parseMethodDescriptor "(Ljava/lang/AbstractStringBuilder;Ljava/lang/Void;)V" = some ⟨[(.object "java/lang/AbstractStringBuilder"), (.object "java/lang/Void")], none⟩ := by decide +kernel
theorem d24_3 : decode jdk_42_method_53_code 3 = .ok (.invokespecial 489, 3) := by decide +kernel
theorem d24_6 : decode jdk_42_method_53_code 6 = .ok (.return_, 1) := by decide +kernel
theorem d23_0 : decode jdk_67_method_42_code 0 = .ok (.new 18, 3) := by decide +kernel
theorem d23_3 : decode jdk_67_method_42_code 3 = .ok (.dup, 1) := by decide +kernel
theorem d23_4 : decode jdk_67_method_42_code 4 = .ok (.aload_n 0, 1) := by decide +kernel
theorem pd_24 : parseMethodDescriptor "(Ljava/lang/StringBuilder;)V" = some ⟨[(.object "java/lang/StringBuilder")], none⟩ := by decide +kernel
theorem d23_5 : decode jdk_67_method_42_code 5 = .ok (.invokespecial 137, 3) := by decide +kernel
theorem d23_8 : decode jdk_67_method_42_code 8 = .ok (.areturn, 1) := by decide +kernel
theorem pn_11 : plainName "java/lang/Record" = true := by first | (simp [plainName, overriddenIn]; done) | decide +kernel
theorem d34_0 : decode jdk_30_method_1_code 0 = .ok (.aload_n 0, 1) := by decide +kernel
theorem d34_1 : decode jdk_30_method_1_code 1 = .ok (.invokespecial 1, 3) := by decide +kernel
theorem d34_4 : decode jdk_30_method_1_code 4 = .ok (.return_, 1) := by decide +kernel
theorem pn_12 : plainName "com/example/ashlar_gate/ashlargate/model/Violation" = true := by first | (simp [plainName, overriddenIn]; done) | decide +kernel
theorem d33_0 : decode prog_16_method_1_code 0 = .ok (.aload_n 0, 1) := by decide +kernel
theorem pd_25 : parseMethodDescriptor "()V" = some ⟨[], none⟩ := by decide +kernel
theorem d33_1 : decode prog_16_method_1_code 1 = .ok (.invokespecial 1, 3) := by decide +kernel
theorem d33_4 : decode prog_16_method_1_code 4 = .ok (.aload_n 0, 1) := by decide +kernel
theorem d33_5 : decode prog_16_method_1_code 5 = .ok (.aload_n 1, 1) := by decide +kernel
theorem d33_6 : decode prog_16_method_1_code 6 = .ok (.putfield 7, 3) := by decide +kernel
theorem d33_9 : decode prog_16_method_1_code 9 = .ok (.aload_n 0, 1) := by decide +kernel
theorem d33_10 : decode prog_16_method_1_code 10 = .ok (.aload_n 2, 1) := by decide +kernel
theorem d33_11 : decode prog_16_method_1_code 11 = .ok (.putfield 13, 3) := by decide +kernel
theorem d33_14 : decode prog_16_method_1_code 14 = .ok (.aload_n 0, 1) := by decide +kernel
theorem d33_15 : decode prog_16_method_1_code 15 = .ok (.aload_n 3, 1) := by decide +kernel
theorem d33_16 : decode prog_16_method_1_code 16 = .ok (.putfield 16, 3) := by decide +kernel
theorem d33_19 : decode prog_16_method_1_code 19 = .ok (.return_, 1) := by decide +kernel
theorem d35_0 : decode prog_16_method_5_code 0 = .ok (.aload_n 0, 1) := by decide +kernel
theorem d35_1 : decode prog_16_method_5_code 1 = .ok (.getfield 7, 3) := by decide +kernel
theorem d35_4 : decode prog_16_method_5_code 4 = .ok (.areturn, 1) := by decide +kernel
theorem d36_0 : decode prog_16_method_6_code 0 = .ok (.aload_n 0, 1) := by decide +kernel
theorem d36_1 : decode prog_16_method_6_code 1 = .ok (.getfield 13, 3) := by decide +kernel
theorem d36_4 : decode prog_16_method_6_code 4 = .ok (.areturn, 1) := by decide +kernel
theorem d37_0 : decode prog_16_method_7_code 0 = .ok (.aload_n 0, 1) := by decide +kernel
theorem d37_1 : decode prog_16_method_7_code 1 = .ok (.getfield 16, 3) := by decide +kernel
theorem d37_4 : decode prog_16_method_7_code 4 = .ok (.areturn, 1) := by decide +kernel
theorem d11_0 : decode prog_12_method_2_code 0 = .ok (.new 13, 3) := by decide +kernel
theorem d11_3 : decode prog_12_method_2_code 3 = .ok (.dup, 1) := by decide +kernel
theorem d11_4 : decode prog_12_method_2_code 4 = .ok (.aload_n 1, 1) := by decide +kernel
theorem d11_5 : decode prog_12_method_2_code 5 = .ok (.aload_n 0, 1) := by decide +kernel
theorem d11_6 : decode prog_12_method_2_code 6 = .ok (.getfield 7, 3) := by decide +kernel
theorem d11_9 : decode prog_12_method_2_code 9 = .ok (.new 15, 3) := by decide +kernel
theorem d11_12 : decode prog_12_method_2_code 12 = .ok (.dup, 1) := by decide +kernel
theorem d11_13 : decode prog_12_method_2_code 13 = .ok (.invokespecial 17, 3) := by decide +kernel
theorem d11_16 : decode prog_12_method_2_code 16 = .ok (.aload_n 1, 1) := by decide +kernel
theorem pd_26 : parseMethodDescriptor "(Ljava/lang/String;)Ljava/lang/StringBuilder;" = some ⟨[(.object "java/lang/String")], some (.object "java/lang/StringBuilder")⟩ := by decide +kernel
theorem d11_17 : decode prog_12_method_2_code 17 = .ok (.invokevirtual 20, 3) := by decide +kernel
theorem d11_20 : decode prog_12_method_2_code 20 = .ok (.ldc 24, 2) := by decide +kernel
theorem d11_22 : decode prog_12_method_2_code 22 = .ok (.invokevirtual 20, 3) := by decide +kernel
theorem d11_25 : decode prog_12_method_2_code 25 = .ok (.aload_n 0, 1) := by decide +kernel
theorem pd_27 : parseMethodDescriptor "()Ljava/lang/String;" = some ⟨[], some (.object "java/lang/String")⟩ := by decide +kernel
theorem d11_26 : decode prog_12_method_2_code 26 = .ok (.invokevirtual 26, 3) := by decide +kernel
theorem d11_29 : decode prog_12_method_2_code 29 = .ok (.invokevirtual 20, 3) := by decide +kernel
theorem d11_32 : decode prog_12_method_2_code 32 = .ok (.invokevirtual 30, 3) := by decide +kernel
theorem pd_28 : parseMethodDescriptor "(Ljava/lang/String;Ljava/lang/String;Ljava/lang/String;)V" = some ⟨[(.object "java/lang/String"), (.object "java/lang/String"), (.object "java/lang/String")], none⟩ := by decide +kernel
theorem d11_35 : decode prog_12_method_2_code 35 = .ok (.invokespecial 33, 3) := by decide +kernel
theorem d11_38 : decode prog_12_method_2_code 38 = .ok (.areturn, 1) := by decide +kernel
theorem pd_29 : parseMethodDescriptor "(I)Ljava/lang/String;" = some ⟨[.int], some (.object "java/lang/String")⟩ := by decide +kernel
theorem pd_30 : parseMethodDescriptor "(Ljava/lang/String;Ljava/lang/String;)V" = some ⟨[(.object "java/lang/String"), (.object "java/lang/String")], none⟩ := by decide +kernel
theorem pd_31 : parseMethodDescriptor "(Ljava/lang/String;)Lcom/example/ashlar_gate/ashlargate/model/Violation;" = some ⟨[(.object "java/lang/String")], some (.object "com/example/ashlar_gate/ashlargate/model/Violation")⟩ := by decide +kernel
theorem pd_32 : parseMethodDescriptor "(Ljava/lang/Object;)Z" = some ⟨[(.object "java/lang/Object")], some .boolean⟩ := by decide +kernel
theorem pd_33 : parseMethodDescriptor "(I)C" = some ⟨[.int], some .char⟩ := by decide +kernel
theorem k0i : (0 : Int32).toInt = 0 := by decide
theorem k1i : (1 : Int32).toInt = 1 := by decide
theorem k2i : (2 : Int32).toInt = 2 := by decide
theorem k16i : (16 : Int32).toInt = 16 := by decide
theorem k255i : (255 : Int32).toInt = 255 := by decide
theorem nc0 : (0 : Int32).toNatClampNeg = 0 := by decide
theorem nc1 : (1 : Int32).toNatClampNeg = 1 := by decide
theorem adI {x y : Int32} (h : 0 ≤ x.toInt + y.toInt ∧ x.toInt + y.toInt ≤ 1000) : (x + y).toInt = x.toInt + y.toInt := by
  have := c_iadd x y; have := rng32 (x + y); omega
theorem ncI {x : Int32} (h : 0 ≤ x.toInt) : (x.toNatClampNeg : Int) = x.toInt := by have e3 : x.toNatClampNeg = x.toInt.toNat := rfl; omega
theorem ltI {x y : Int32} (h : x.toInt < y.toInt) : x < y := Int32.lt_iff_toInt_lt.mpr h
theorem ltN {x y : Int32} (h : y.toInt ≤ x.toInt) : ¬ x < y := fun q => by have := Int32.lt_iff_toInt_lt.mp q; omega
theorem toI {n : Nat} (h : n ≤ 16) : n.toInt32.toInt = n := len_toInt (by omega)
theorem toN {n : Nat} (h : n ≤ 16) : n.toInt32.toNatClampNeg = n := by have := toI h; have := ncI (x := n.toInt32) (by omega); omega
theorem adN {n k : Nat} (h : n + k ≤ 16) : n.toInt32 + k.toInt32 = (n + k).toInt32 := by
  apply Int32.toInt_inj.mp; rw [toI h, adI (by rw [toI (n := n) (by omega), toI (n := k) (by omega)]; omega), toI (n := n) (by omega), toI (n := k) (by omega)]; omega
theorem shl0 (x : Int32) : x <<< ((0 : Int32) &&& 31) = x := by
  rw [show ((0 : Int32) &&& 31) = 0 from by decide]; exact Int32.shiftLeft_zero
theorem shr0 (x : Int32) : x >>> ((0 : Int32) &&& 31) = x := by
  rw [show ((0 : Int32) &&& 31) = 0 from by decide]; exact Int32.shiftRight_zero
theorem sub0 (x : Int32) : x - (0 : Int32) = x := by simp
def isB (v : Int32) : Prop := -128 ≤ v.toInt ∧ v.toInt < 128
theorem fixB (v : Int32) : v.toInt8.toInt32.toInt8.toInt32 = v.toInt8.toInt32 := by
  apply Int32.toInt_inj.mp; have := c_i2b v; have := c_i2b v.toInt8.toInt32; omega
theorem isB_i2b (v : Int32) : isB v.toInt8.toInt32 := by have := c_i2b v; unfold isB; omega
theorem fitsB {v : Int32} (h : isB v) : fits .byte (.int v) = true := by
  unfold isB at h
  have e1 : (-128 : Int32).toInt = -128 := by decide
  have e2 : (127 : Int32).toInt = 127 := by decide
  simp only [fits, Bool.and_eq_true, decide_eq_true_eq, Int32.le_iff_toInt_le, e1, e2]; omega
def laB (v : Int32) : Int32 := v.toInt8.toInt32
def Ch (g : Nat → Int32) : Prop := ∀ i, 0 ≤ (g i).toInt ∧ (g i).toInt ≤ 255
theorem lat_ch {v : Int32} (h : 0 ≤ v.toInt ∧ v.toInt ≤ 255) : ((laB v &&& (255 : Int32)).toUInt32.toUInt16.toUInt32.toInt32) = v := by
  apply Int32.toInt_inj.mp
  have h1 := c_i2b v
  have h2 : (laB v &&& (255 : Int32)).toInt = (laB v).toInt % (256 : Nat) := c_mask (laB v) 255 8 (by decide) (by decide)
  have h3 := c_i2c (laB v &&& (255 : Int32))
  have h4 : (laB v).toInt = v.toInt8.toInt32.toInt := rfl
  omega
theorem idC {v : Int32} (h : 0 ≤ v.toInt ∧ v.toInt ≤ 255) : nar .char v = v := by
  show v.toUInt32.toUInt16.toUInt32.toInt32 = v
  apply Int32.toInt_inj.mp; have := c_i2c v; omega
theorem chB (x : Int32) : 0 ≤ ((x &&& (255 : Int32)).toUInt32.toUInt16.toUInt32.toInt32).toInt ∧ ((x &&& (255 : Int32)).toUInt32.toUInt16.toUInt32.toInt32).toInt ≤ 255 := by
  have h2 : (x &&& (255 : Int32)).toInt = x.toInt % (256 : Nat) := c_mask x 255 8 (by decide) (by decide)
  have h3 := c_i2c (x &&& (255 : Int32))
  omega
theorem n255 {v : Int32} (h : 0 ≤ v.toInt ∧ v.toInt ≤ 255) : ¬ (255 : Int32) < v := ltN (by rw [k255i]; exact h.2)
theorem K2 {i : Nat} {P : Nat → Prop} (h0 : P 0) (h1 : P 1) (hi : i < 2) : P i := by
  match i, hi with
  | 0, _ => exact h0
  | 1, _ => exact h1
theorem laJ2 {Z : State} {h : Heap} {b : Addr} {f : Nat → Value} {g : Nat → Int32} (J : Jar Z h b .byte 2 f) (h0 : f 0 = .int (laB (g 0))) (h1 : f 1 = .int (laB (g 1))) : Jar Z h b .byte 2 (fun i => .int (laB (g i))) := J.congr fun i hi => K2 (P := fun i => f i = .int (laB (g i))) h0 h1 hi
theorem jc2 {Z : State} {h : Heap} {a : Addr} {f : Nat → Value} {g : Nat → Int32} (J : Jar Z h a .char 2 f) (h0 : f 0 = .int (g 0)) (h1 : f 1 = .int (g 1)) : Jar Z h a .char 2 (fun i => .int (g i)) := J.congr fun i hi => K2 (P := fun i => f i = .int (g i)) h0 h1 hi
def gg (x y : Int32) : Nat → Int32 := fun i => if i = 0 then x else y
theorem gg_ch {x y : Int32} (hx : 0 ≤ x.toInt ∧ x.toInt ≤ 255) (hy : 0 ≤ y.toInt ∧ y.toInt ≤ 255) : Ch (gg x y) := fun i => by
  unfold gg; split
  · exact hx
  · exact hy
/-- a String of these bytes (Latin1) -/
def Str (Z : State) (h : Heap) (a : Addr) (n : Nat) (F : Nat → Int32) : Prop := Exa Z h a "java/lang/String" ∧ ∃ y, Fld Z h a "java/lang/String" "value" "[B" (.ref y) ∧ Fld Z h a "java/lang/String" "coder" "B" (.int (0 : Int32)) ∧ Jar Z h y .byte n (fun i => .int (F i))
def Stt (Z : State) (cs : Int32) (fv : Value) : Prop := cs ≠ 0 ∧ fv.isRef = true ∧ Sta Z Z.heap "java/lang/String" "COMPACT_STRINGS" "Z" (.int cs) ∧ Sta Z Z.heap "jdk/internal/util/Preconditions" "SIOOBE_FORMATTER" "Ljava/util/function/BiFunction;" fv
/-- bytes after an append -/
def apF (F : Nat → Int32) (d : Nat) (g : Nat → Int32) (k : Nat) : Nat → Int32 := fun i => if d ≤ i ∧ i < d + k then laB (g (i - d)) else F i
theorem apF_B {F : Nat → Int32} {d : Nat} {g : Nat → Int32} {k : Nat} (h : ∀ j, isB (F j)) : ∀ j, isB (apF F d g k j) := fun j => by
  unfold apF; split
  · exact isB_i2b _
  · exact h j
/-- the message's characters -/
def gm (nf : Nat) (gf gr : Nat → Int32) : Nat → Int32 := fun i => if i < nf then gf i else if i = nf then 32 else gr (i - (nf + 1))
theorem gm_f {nf j : Nat} {gf gr : Nat → Int32} (h : j < nf) : gm nf gf gr j = gf j := by unfold gm; rw [if_pos h]
theorem gm_s {nf : Nat} {gf gr : Nat → Int32} : gm nf gf gr nf = 32 := by unfold gm; rw [if_neg (by omega), if_pos rfl]
theorem gm_r {nf j : Nat} {gf gr : Nat → Int32} : gm nf gf gr (nf + 1 + j) = gr j := by unfold gm; rw [if_neg (by omega), if_neg (by omega)]; congr 1; omega
theorem gm_ch {nf : Nat} {gf gr : Nat → Int32} (h1 : Ch gf) (h2 : Ch gr) : Ch (gm nf gf gr) := fun i => by
  unfold gm; split
  · exact h1 i
  · split
    · exact ⟨by decide, by decide⟩
    · exact h2 _
theorem gm_ap {nf nr j : Nat} {gf gr F0 : Nat → Int32} (h : j < nf + 1 + nr) : apF (apF (apF F0 0 gf nf) nf (fun _ => 32) 1) (nf + 1) gr nr j = laB (gm nf gf gr j) := by
  unfold apF gm
  by_cases q1 : j < nf
  · rw [if_neg (by omega), if_neg (by omega), if_pos (by omega), if_pos q1]; rfl
  · by_cases q2 : j = nf
    · rw [if_neg (by omega), if_pos (by omega), if_neg q1, if_pos q2]
    · rw [if_pos (by omega), if_neg q1, if_neg q2]
theorem ef_c_mn (m : MethodId) (x0 : Int32) (x1 : Int32) : entryFrame m #[(.int x0), (.int x1)] 2 = mkF m 0 #[.val (.int x0), .val (.int x1)] [] := by first | (simp [entryFrame, mkF, argsToLocals, Value.category]; done) | rfl
set_option maxRecDepth 65536 in
set_option maxHeartbeats 40000000 in
theorem c_mn (l : Launch) (Z : State) (a0 : Array Value) (hw : ∀ d ∈ tables_1, d.before a0 Z = true) (x y : Int32) (h0 : Heap)  :
    Con l Z (⟨"java/lang/Math", "min", "(II)I"⟩ : MethodName) jdk_29_method_69_code 2 (some .int) ({ frames := 0, cells := 0, slots := 0, locals := 0 } : Room) #[(.int x), (.int y)] h0 (PQ (some (.int (if y < x then y else x))) h0) := by
  refine Con.intro (Jvm.Free.JP.mathPlain rfl (by decide +kernel)) ?_
  intro p e s m below meth c s₁ hx hby hml hrt hlk hZ hown hnm X0 e0
  replace hown : s.vm.findClass "java/lang/Math" = some m.cls := hown
  refine GoOn.cast (ef_c_mn m x y) ?_
  show GoOn p e below _ (s₁.setTop (mkF m 0 #[.val (.int x), .val (.int y)] []))
  refine GoOn.step (fun t₀ k₀ => XS.iloadN X0.here hx rfl (hb hby d2_0) rfl k₀) ?_
  show GoOn p e below _ (s₁.setTop (mkF m 1 #[.val (.int x), .val (.int y)] [(.int x)]))
  refine GoOn.step (fun t₀ k₀ => XS.iloadN X0.here hx rfl (hb hby d2_1) rfl k₀) ?_
  show GoOn p e below _ (s₁.setTop (mkF m 2 #[.val (.int x), .val (.int y)] [(.int y), (.int x)]))
  by_cases q : y < x
  · refine GoOn.step (fun t₀ k₀ => XS.icmpYes X0.here hx rfl (pc0 := 2) (pc' := 9) rfl (hb hby d2_2) rfl (tlt q).2.2.1 (by decide) (by decide) k₀) ?_
    show GoOn p e below _ (s₁.setTop (mkF m 9 #[.val (.int x), .val (.int y)] []))
    refine GoOn.step (fun t₀ k₀ => XS.iloadN X0.here hx rfl (hb hby d2_9) rfl k₀) ?_
    show GoOn p e below _ (s₁.setTop (mkF m 10 #[.val (.int x), .val (.int y)] [(.int y)]))
    exact GoOn.retI X0 hx hrt hlk (hb hby d2_10) (by decide) (by decide) (by first | exact ⟨by rw [if_pos q], rfl, rfl⟩ | (rw [e0]; exact ⟨by rw [if_pos q], rfl, rfl⟩))
  · refine GoOn.step (fun t₀ k₀ => XS.icmpNo X0.here hx rfl (hb hby d2_2) rfl (flt q).2.2.1 k₀) ?_
    show GoOn p e below _ (s₁.setTop (mkF m 5 #[.val (.int x), .val (.int y)] []))
    refine GoOn.step (fun t₀ k₀ => XS.iloadN X0.here hx rfl (hb hby d2_5) rfl k₀) ?_
    show GoOn p e below _ (s₁.setTop (mkF m 6 #[.val (.int x), .val (.int y)] [(.int x)]))
    refine GoOn.step (fun t₀ k₀ => XS.goto X0.here hx rfl (pc0 := 6) (pc' := 10) rfl (hb hby d2_6) (by decide) (by decide) k₀) ?_
    show GoOn p e below _ (s₁.setTop (mkF m 10 #[.val (.int x), .val (.int y)] [(.int x)]))
    exact GoOn.retI X0 hx hrt hlk (hb hby d2_10) (by decide) (by decide) (by first | exact ⟨by rw [if_neg q], rfl, rfl⟩ | (rw [e0]; exact ⟨by rw [if_neg q], rfl, rfl⟩))
theorem ef_c_cod (m : MethodId) (x0 : Addr) : entryFrame m #[(.ref x0)] 1 = mkF m 0 #[.val (.ref x0)] [] := by first | (simp [entryFrame, mkF, argsToLocals, Value.category]; done) | rfl
set_option maxRecDepth 65536 in
set_option maxHeartbeats 40000000 in
theorem c_cod (l : Launch) (Z : State) (a0 : Array Value) (hw : ∀ d ∈ tables_1, d.before a0 Z = true) (a : Addr) (cs : Int32) (fv : Value) (h0 : Heap) (n0 : Nat) (O : Old Z n0 h0) (SS : Stt Z cs fv) (Fc : Fld Z h0 a "java/lang/String" "coder" "B" (.int (0 : Int32))) :
    Con l Z (⟨"java/lang/String", "coder", "()B"⟩ : MethodName) jdk_42_method_152_code 1 (some .byte) ({ frames := 0, cells := 0, slots := 0, locals := 0 } : Room) #[(.ref a)] h0 (PQ (some (.int (0 : Int32))) h0) := by
  refine Con.intro (plainFor_of_name pn_0) ?_
  intro p e s m below meth c s₁ hx hby hml hrt hlk hZ hown hnm X0 e0
  replace hown : s.vm.findClass "java/lang/String" = some m.cls := hown
  refine GoOn.cast (ef_c_cod m a) ?_
  show GoOn p e below _ (s₁.setTop (mkF m 0 #[.val (.ref a)] []))
  obtain ⟨hcs, hfv, S1, S2⟩ := id SS
  replace S1 := S1.ext O.2
  replace S2 := S2.ext O.2
  obtain ⟨T1, X1, e1, st1⟩ := getS2 X0 hx hZ hown (host := "") (Or.inl (hw _ (List.mem_of_getElem? (i := 132) rfl))) Via.refl e0 S1 (g := (mkF m 0 #[.val (.ref a)] [])) rfl (hb hby d17_0)
  refine GoOn.step st1 ?_
  show GoOn p e below _ (T1.setTop (mkF m 3 #[.val (.ref a)] [(.int cs)]))
  have hf2 : ¬ (cs = (0 : Int32)) := hcs
  refine GoOn.step (fun t₀ k₀ => XS.ifNo X1.here hx rfl (hb hby d17_3) rfl ((if0 _ _).trans (feq hf2).1) k₀) ?_
  show GoOn p e below _ (T1.setTop (mkF m 6 #[.val (.ref a)] []))
  refine GoOn.step (fun t₀ k₀ => XS.aloadN X1.here hx rfl (hb hby d17_6) rfl rfl k₀) ?_
  show GoOn p e below _ (T1.setTop (mkF m 7 #[.val (.ref a)] [(.ref a)]))
  obtain ⟨T3, X3, e3, st3⟩ := getF X1 hx hZ hown (host := "") (Or.inl (hw _ (List.mem_of_getElem? (i := 29) rfl))) Via.refl e1 Fc (g := (mkF m 7 #[.val (.ref a)] [(.ref a)])) rfl rfl (hb hby d17_7)
  refine GoOn.step st3 ?_
  show GoOn p e below _ (T3.setTop (mkF m 10 #[.val (.ref a)] [(.int (0 : Int32))]))
  refine GoOn.step (fun t₀ k₀ => XS.goto X3.here hx rfl (pc0 := 10) (pc' := 14) rfl (hb hby d17_10) (by decide) (by decide) k₀) ?_
  show GoOn p e below _ (T3.setTop (mkF m 14 #[.val (.ref a)] [(.int (0 : Int32))]))
  exact GoOn.retN X3 hx hrt hlk (by simp) (hb hby d17_14) (by decide) (by decide) (by first | exact ⟨rfl, rfl, rfl⟩ | (rw [e3]; exact ⟨rfl, rfl, rfl⟩))
theorem ef_c_isl (m : MethodId) (x0 : Addr) : entryFrame m #[(.ref x0)] 1 = mkF m 0 #[.val (.ref x0)] [] := by first | (simp [entryFrame, mkF, argsToLocals, Value.category]; done) | rfl
set_option maxRecDepth 65536 in
set_option maxHeartbeats 40000000 in
theorem c_isl (l : Launch) (Z : State) (a0 : Array Value) (hw : ∀ d ∈ tables_1, d.before a0 Z = true) (a : Addr) (cs : Int32) (fv : Value) (h0 : Heap) (n0 : Nat) (O : Old Z n0 h0) (SS : Stt Z cs fv) (Fc : Fld Z h0 a "java/lang/String" "coder" "B" (.int (0 : Int32))) :
    Con l Z (⟨"java/lang/String", "isLatin1", "()Z"⟩ : MethodName) jdk_42_method_154_code 1 (some .boolean) ({ frames := 0, cells := 0, slots := 0, locals := 0 } : Room) #[(.ref a)] h0 (PQ (some (.int (1 : Int32))) h0) := by
  refine Con.intro (plainFor_of_name pn_0) ?_
  intro p e s m below meth c s₁ hx hby hml hrt hlk hZ hown hnm X0 e0
  replace hown : s.vm.findClass "java/lang/String" = some m.cls := hown
  refine GoOn.cast (ef_c_isl m a) ?_
  show GoOn p e below _ (s₁.setTop (mkF m 0 #[.val (.ref a)] []))
  obtain ⟨hcs, hfv, S1, S2⟩ := id SS
  replace S1 := S1.ext O.2
  replace S2 := S2.ext O.2
  obtain ⟨T4, X4, e4, st4⟩ := getS2 X0 hx hZ hown (host := "") (Or.inl (hw _ (List.mem_of_getElem? (i := 132) rfl))) Via.refl e0 S1 (g := (mkF m 0 #[.val (.ref a)] [])) rfl (hb hby d40_0)
  refine GoOn.step st4 ?_
  show GoOn p e below _ (T4.setTop (mkF m 3 #[.val (.ref a)] [(.int cs)]))
  have hf5 : ¬ (cs = (0 : Int32)) := hcs
  refine GoOn.step (fun t₀ k₀ => XS.ifNo X4.here hx rfl (hb hby d40_3) rfl ((if0 _ _).trans (feq hf5).1) k₀) ?_
  show GoOn p e below _ (T4.setTop (mkF m 6 #[.val (.ref a)] []))
  refine GoOn.step (fun t₀ k₀ => XS.aloadN X4.here hx rfl (hb hby d40_6) rfl rfl k₀) ?_
  show GoOn p e below _ (T4.setTop (mkF m 7 #[.val (.ref a)] [(.ref a)]))
  obtain ⟨T6, X6, e6, st6⟩ := getF X4 hx hZ hown (host := "") (Or.inl (hw _ (List.mem_of_getElem? (i := 29) rfl))) Via.refl e4 Fc (g := (mkF m 7 #[.val (.ref a)] [(.ref a)])) rfl rfl (hb hby d40_7)
  refine GoOn.step st6 ?_
  show GoOn p e below _ (T6.setTop (mkF m 10 #[.val (.ref a)] [(.int (0 : Int32))]))
  have hf7 : (0 : Int32) = (0 : Int32) := rfl
  refine GoOn.step (fun t₀ k₀ => XS.ifNo X6.here hx rfl (hb hby d40_10) rfl ((if0 _ _).trans (teq hf7).2) k₀) ?_
  show GoOn p e below _ (T6.setTop (mkF m 13 #[.val (.ref a)] []))
  refine GoOn.step (fun t₀ k₀ => XS.iconst X6.here hx rfl (hb hby d40_13) k₀) ?_
  show GoOn p e below _ (T6.setTop (mkF m 14 #[.val (.ref a)] [(.int (1 : Int32))]))
  refine GoOn.step (fun t₀ k₀ => XS.goto X6.here hx rfl (pc0 := 14) (pc' := 18) rfl (hb hby d40_14) (by decide) (by decide) k₀) ?_
  show GoOn p e below _ (T6.setTop (mkF m 18 #[.val (.ref a)] [(.int (1 : Int32))]))
  exact GoOn.retN X6 hx hrt hlk (by simp) (hb hby d40_18) (by decide) (by decide) (by first | exact ⟨rfl, rfl, rfl⟩ | (rw [e6]; exact ⟨rfl, rfl, rfl⟩))
theorem ef_c_len (m : MethodId) (x0 : Addr) : entryFrame m #[(.ref x0)] 1 = mkF m 0 #[.val (.ref x0)] [] := by first | (simp [entryFrame, mkF, argsToLocals, Value.category]; done) | rfl
set_option maxRecDepth 65536 in
set_option maxHeartbeats 40000000 in
theorem c_len (l : Launch) (Z : State) (a0 : Array Value) (hw : ∀ d ∈ tables_1, d.before a0 Z = true) (a : Addr) (n : Nat) (F : Nat → Int32) (cs : Int32) (fv : Value) (h0 : Heap) (n0 : Nat) (O : Old Z n0 h0) (SS : Stt Z cs fv) (SO : Str Z h0 a n F) (hn : n ≤ 16) :
    Con l Z (⟨"java/lang/String", "length", "()I"⟩ : MethodName) jdk_42_method_54_code 1 (some .int) ({ frames := 1, cells := 0, slots := 0, locals := 14 } : Room) #[(.ref a)] h0 (PQ (some (.int n.toInt32)) h0) := by
  refine Con.intro (plainFor_of_name pn_0) ?_
  intro p e s m below meth c s₁ hx hby hml hrt hlk hZ hown hnm X0 e0
  replace hown : s.vm.findClass "java/lang/String" = some m.cls := hown
  refine GoOn.cast (ef_c_len m a) ?_
  show GoOn p e below _ (s₁.setTop (mkF m 0 #[.val (.ref a)] []))
  obtain ⟨Ex, y, Fv, Fc, Jy⟩ := SO
  refine GoOn.step (fun t₀ k₀ => XS.aloadN X0.here hx rfl (hb hby d16_0) rfl rfl k₀) ?_
  show GoOn p e below _ (s₁.setTop (mkF m 1 #[.val (.ref a)] [(.ref a)]))
  obtain ⟨T8, X8, e8, st8⟩ := getF X0 hx hZ hown (host := "") (Or.inl (hw _ (List.mem_of_getElem? (i := 28) rfl))) Via.refl e0 Fv (g := (mkF m 1 #[.val (.ref a)] [(.ref a)])) rfl rfl (hb hby d16_1)
  refine GoOn.step st8 ?_
  show GoOn p e below _ (T8.setTop (mkF m 4 #[.val (.ref a)] [(.ref y)]))
  refine GoOn.step (fun t₀ k₀ => kLen X8 hx hZ e8 Jy (z := n.toInt32) rfl (g := (mkF m 4 #[.val (.ref a)] [(.ref y)])) rfl rfl (hb hby d16_4) t₀ k₀) ?_
  show GoOn p e below _ (T8.setTop (mkF m 5 #[.val (.ref a)] [(.int n.toInt32)]))
  refine GoOn.step (fun t₀ k₀ => XS.aloadN X8.here hx rfl (hb hby d16_5) rfl rfl k₀) ?_
  show GoOn p e below _ (T8.setTop (mkF m 6 #[.val (.ref a)] [(.ref a), (.int n.toInt32)]))
  obtain ⟨_, T9, L9, X9, hQ9, st9⟩ := kCallV X8 hx hZ (a := a) (argsL := []) (rest := [(.int n.toInt32)]) (c_cod l Z a0 hw a cs fv h0 n0 O SS Fc) hown (hw _ (List.mem_of_getElem? (i := 127) rfl)) (hw _ (List.mem_of_getElem? (i := 128) rfl)) (notFace_of_selects (args := #[]) (mvT hZ (hw _ (List.mem_of_getElem? (i := 130) rfl)))) (hw _ (List.mem_of_getElem? (i := 130) rfl)) (hw _ (List.mem_of_getElem? (i := 129) rfl)) (hw _ (List.mem_of_getElem? (i := 10) rfl)) (hw _ (List.mem_of_getElem? (i := 131) rfl)) (by decide) e8 Ex (g := (mkF m 6 #[.val (.ref a)] [(.ref a), (.int n.toInt32)])) rfl (by rw [hml]; rfl) (lenOf pd_0 rfl) rfl (W := 1) (by show 2 * 0 + _ ≤ _; exact Nat.le_of_eq rfl) (hb hby d16_6) (by decide) (by decide) (by decide) (by decide)
  obtain ⟨rfl, rfl, e9⟩ := hQ9
  rw [List.append_nil] at X9
  refine GoOn.step st9 ?_
  show GoOn p e below _ (T9.setTop (mkF m 9 #[.val (.ref a)] [(.int (0 : Int32)), (.int n.toInt32)]))
  refine GoOn.step (fun t₀ k₀ => XS.ishr X9.here hx rfl (hb hby d16_9) rfl k₀) ?_
  show GoOn p e below _ (T9.setTop (mkF m 10 #[.val (.ref a)] [(.int (n.toInt32 >>> ((0 : Int32) &&& 31)))]))
  rw [show (n.toInt32 >>> ((0 : Int32) &&& 31)) = n.toInt32 from (shr0 _)]
  exact GoOn.retI X9 hx hrt hlk (hb hby d16_10) (by decide) (by decide) (by first | exact ⟨rfl, rfl, rfl⟩ | (rw [e9]; exact ⟨rfl, rfl, rfl⟩))
theorem ef_c_pc (m : MethodId) (x0 : Int32) (x1 : Int32) (x2 : Value) (hx2 : x2.isRef = true) : entryFrame m #[(.int x0), (.int x1), x2] 3 = mkF m 0 #[.val (.int x0), .val (.int x1), .val x2] [] := by (rcases ref_cases hx2 with rfl | ⟨_, rfl⟩) <;> first | (simp [entryFrame, mkF, argsToLocals, Value.category]; done) | rfl
set_option maxRecDepth 65536 in
set_option maxHeartbeats 40000000 in
theorem c_pc (l : Launch) (Z : State) (a0 : Array Value) (hw : ∀ d ∈ tables_1, d.before a0 Z = true) (i k : Int32) (fv : Value) (h0 : Heap) (hfv : fv.isRef = true) (hi : 0 ≤ i.toInt) (hlt : i < k) :
    Con l Z (⟨"jdk/internal/util/Preconditions", "checkIndex", "(IILjava/util/function/BiFunction;)I"⟩ : MethodName) jdk_41_method_11_code 3 (some .int) ({ frames := 0, cells := 0, slots := 0, locals := 0 } : Room) #[(.int i), (.int k), fv] h0 (PQ (some (.int i)) h0) := by
  refine Con.intro (plainFor_of_name pn_1) ?_
  intro p e s m below meth c s₁ hx hby hml hrt hlk hZ hown hnm X0 e0
  replace hown : s.vm.findClass "jdk/internal/util/Preconditions" = some m.cls := hown
  refine GoOn.cast (ef_c_pc m i k fv hfv) ?_
  show GoOn p e below _ (s₁.setTop (mkF m 0 #[.val (.int i), .val (.int k), .val fv] []))
  refine GoOn.step (fun t₀ k₀ => XS.iloadN X0.here hx rfl (hb hby d43_0) rfl k₀) ?_
  show GoOn p e below _ (s₁.setTop (mkF m 1 #[.val (.int i), .val (.int k), .val fv] [(.int i)]))
  have hf10 : ¬ (i < (0 : Int32)) := (ltN (by rw [k0i]; exact hi))
  refine GoOn.step (fun t₀ k₀ => XS.ifNo X0.here hx rfl (hb hby d43_1) rfl ((if0 _ _).trans (flt hf10).1) k₀) ?_
  show GoOn p e below _ (s₁.setTop (mkF m 4 #[.val (.int i), .val (.int k), .val fv] []))
  refine GoOn.step (fun t₀ k₀ => XS.iloadN X0.here hx rfl (hb hby d43_4) rfl k₀) ?_
  show GoOn p e below _ (s₁.setTop (mkF m 5 #[.val (.int i), .val (.int k), .val fv] [(.int i)]))
  refine GoOn.step (fun t₀ k₀ => XS.iloadN X0.here hx rfl (hb hby d43_5) rfl k₀) ?_
  show GoOn p e below _ (s₁.setTop (mkF m 6 #[.val (.int i), .val (.int k), .val fv] [(.int k), (.int i)]))
  have hf11 : i < k := hlt
  refine GoOn.step (fun t₀ k₀ => XS.icmpYes X0.here hx rfl (pc0 := 6) (pc' := 16) rfl (hb hby d43_6) rfl (tlt hf11).1 (by decide) (by decide) k₀) ?_
  show GoOn p e below _ (s₁.setTop (mkF m 16 #[.val (.int i), .val (.int k), .val fv] []))
  refine GoOn.step (fun t₀ k₀ => XS.iloadN X0.here hx rfl (hb hby d43_16) rfl k₀) ?_
  show GoOn p e below _ (s₁.setTop (mkF m 17 #[.val (.int i), .val (.int k), .val fv] [(.int i)]))
  exact GoOn.retI X0 hx hrt hlk (hb hby d43_17) (by decide) (by decide) (by first | exact ⟨rfl, rfl, rfl⟩ | (rw [e0]; exact ⟨rfl, rfl, rfl⟩))
theorem ef_c_ci (m : MethodId) (x0 : Int32) (x1 : Int32) : entryFrame m #[(.int x0), (.int x1)] 2 = mkF m 0 #[.val (.int x0), .val (.int x1)] [] := by first | (simp [entryFrame, mkF, argsToLocals, Value.category]; done) | rfl
set_option maxRecDepth 65536 in
set_option maxHeartbeats 40000000 in
theorem c_ci (l : Launch) (Z : State) (a0 : Array Value) (hw : ∀ d ∈ tables_1, d.before a0 Z = true) (i k : Int32) (cs : Int32) (fv : Value) (h0 : Heap) (n0 : Nat) (O : Old Z n0 h0) (SS : Stt Z cs fv) (hi : 0 ≤ i.toInt) (hlt : i < k) :
    Con l Z (⟨"java/lang/String", "checkIndex", "(II)V"⟩ : MethodName) jdk_42_method_155_code 2 none ({ frames := 1, cells := 0, slots := 0, locals := 16 } : Room) #[(.int i), (.int k)] h0 (PQ none h0) := by
  refine Con.intro (plainFor_of_name pn_0) ?_
  intro p e s m below meth c s₁ hx hby hml hrt hlk hZ hown hnm X0 e0
  replace hown : s.vm.findClass "java/lang/String" = some m.cls := hown
  refine GoOn.cast (ef_c_ci m i k) ?_
  show GoOn p e below _ (s₁.setTop (mkF m 0 #[.val (.int i), .val (.int k)] []))
  obtain ⟨hcs, hfv, S1, S2⟩ := id SS
  replace S1 := S1.ext O.2
  replace S2 := S2.ext O.2
  refine GoOn.step (fun t₀ k₀ => XS.iloadN X0.here hx rfl (hb hby d42_0) rfl k₀) ?_
  show GoOn p e below _ (s₁.setTop (mkF m 1 #[.val (.int i), .val (.int k)] [(.int i)]))
  refine GoOn.step (fun t₀ k₀ => XS.iloadN X0.here hx rfl (hb hby d42_1) rfl k₀) ?_
  show GoOn p e below _ (s₁.setTop (mkF m 2 #[.val (.int i), .val (.int k)] [(.int k), (.int i)]))
  obtain ⟨T12, X12, e12, st12⟩ := getS2 X0 hx hZ hown (host := "") (Or.inl (hw _ (List.mem_of_getElem? (i := 262) rfl))) Via.refl e0 S2 (g := (mkF m 2 #[.val (.int i), .val (.int k)] [(.int k), (.int i)])) rfl (hb hby d42_2)
  refine GoOn.step st12 ?_
  show GoOn p e below _ (T12.setTop (mkF m 5 #[.val (.int i), .val (.int k)] [fv, (.int k), (.int i)]))
  obtain ⟨_, T13, L13, X13, hQ13, st13⟩ := kCallS X12 hx hZ (argsL := [(.int i), (.int k), fv]) (rest := []) (c_pc l Z a0 hw i k fv h0 hfv hi hlt) hown (hw _ (List.mem_of_getElem? (i := 264) rfl)) (hw _ (List.mem_of_getElem? (i := 265) rfl)) (hw _ (List.mem_of_getElem? (i := 263) rfl)) (hw _ (List.mem_of_getElem? (i := 266) rfl)) (by decide) e12 (g := (mkF m 5 #[.val (.int i), .val (.int k)] [fv, (.int k), (.int i)])) rfl (by rw [hml]; rfl) (lenOf pd_1 rfl) rfl (W := 0) (by show 2 * 0 + _ ≤ _; exact Nat.le_of_eq rfl) (hb hby d42_5) (by decide) (by decide) (by decide) (by decide)
  obtain ⟨rfl, rfl, e13⟩ := hQ13
  rw [List.append_nil] at X13
  refine GoOn.step st13 ?_
  show GoOn p e below _ (T13.setTop (mkF m 8 #[.val (.int i), .val (.int k)] [(.int i)]))
  refine GoOn.step (fun t₀ k₀ => XS.pop X13.here hx rfl (hb hby d42_8) rfl rfl k₀) ?_
  show GoOn p e below _ (T13.setTop (mkF m 9 #[.val (.int i), .val (.int k)] []))
  exact GoOn.ret0 X13 hx hrt hlk (hb hby d42_9) (by decide) (by decide) (by first | exact ⟨rfl, rfl, rfl⟩ | (rw [e13]; exact ⟨rfl, rfl, rfl⟩))
theorem ef_c_l1 (m : MethodId) (x0 : Addr) (x1 : Int32) : entryFrame m #[(.ref x0), (.int x1)] 2 = mkF m 0 #[.val (.ref x0), .val (.int x1)] [] := by first | (simp [entryFrame, mkF, argsToLocals, Value.category]; done) | rfl
set_option maxRecDepth 65536 in
set_option maxHeartbeats 40000000 in
theorem c_l1 (l : Launch) (Z : State) (a0 : Array Value) (hw : ∀ d ∈ tables_1, d.before a0 Z = true) (y : Addr) (i : Int32) (n : Nat) (g : Nat → Int32) (cs : Int32) (fv : Value) (h0 : Heap) (n0 : Nat) (O : Old Z n0 h0) (SS : Stt Z cs fv) (Jy : Jar Z h0 y .byte n (fun i => .int (laB (g i)))) (hn : n ≤ 16) (hi : 0 ≤ i.toInt ∧ i.toInt < n) (Cg : Ch g) :
    Con l Z (⟨"java/lang/StringLatin1", "charAt", "([BI)C"⟩ : MethodName) jdk_43_method_2_code 2 (some .char) ({ frames := 2, cells := 0, slots := 0, locals := 32 } : Room) #[(.ref y), (.int i)] h0 (PQ (some (.int (g i.toNatClampNeg))) h0) := by
  refine Con.intro (plainFor_of_name pn_2) ?_
  intro p e s m below meth c s₁ hx hby hml hrt hlk hZ hown hnm X0 e0
  replace hown : s.vm.findClass "java/lang/StringLatin1" = some m.cls := hown
  refine GoOn.cast (ef_c_l1 m y i) ?_
  show GoOn p e below _ (s₁.setTop (mkF m 0 #[.val (.ref y), .val (.int i)] []))
  refine GoOn.step (fun t₀ k₀ => XS.iloadN X0.here hx rfl (hb hby d41_0) rfl k₀) ?_
  show GoOn p e below _ (s₁.setTop (mkF m 1 #[.val (.ref y), .val (.int i)] [(.int i)]))
  refine GoOn.step (fun t₀ k₀ => XS.aloadN X0.here hx rfl (hb hby d41_1) rfl rfl k₀) ?_
  show GoOn p e below _ (s₁.setTop (mkF m 2 #[.val (.ref y), .val (.int i)] [(.ref y), (.int i)]))
  refine GoOn.step (fun t₀ k₀ => kLen X0 hx hZ e0 Jy (z := n.toInt32) rfl (g := (mkF m 2 #[.val (.ref y), .val (.int i)] [(.ref y), (.int i)])) rfl rfl (hb hby d41_2) t₀ k₀) ?_
  show GoOn p e below _ (s₁.setTop (mkF m 3 #[.val (.ref y), .val (.int i)] [(.int n.toInt32), (.int i)]))
  obtain ⟨_, T14, L14, X14, hQ14, st14⟩ := kCallS X0 hx hZ (argsL := [(.int i), (.int n.toInt32)]) (rest := []) (c_ci l Z a0 hw i n.toInt32 cs fv h0 n0 O SS hi.1 (ltI (by rw [toI hn]; exact hi.2))) hown (hw _ (List.mem_of_getElem? (i := 259) rfl)) (hw _ (List.mem_of_getElem? (i := 260) rfl)) (hw _ (List.mem_of_getElem? (i := 10) rfl)) (hw _ (List.mem_of_getElem? (i := 261) rfl)) (by decide) e0 (g := (mkF m 3 #[.val (.ref y), .val (.int i)] [(.int n.toInt32), (.int i)])) rfl (by rw [hml]; rfl) (lenOf pd_2 rfl) rfl (W := 0) (by show 2 * 0 + _ ≤ _; exact Nat.le_of_eq rfl) (hb hby d41_3) (by decide) (by decide) (by decide) (by decide)
  obtain ⟨rfl, rfl, e14⟩ := hQ14
  rw [List.append_nil] at X14
  refine GoOn.step st14 ?_
  show GoOn p e below _ (T14.setTop (mkF m 6 #[.val (.ref y), .val (.int i)] []))
  refine GoOn.step (fun t₀ k₀ => XS.aloadN X14.here hx rfl (hb hby d41_6) rfl rfl k₀) ?_
  show GoOn p e below _ (T14.setTop (mkF m 7 #[.val (.ref y), .val (.int i)] [(.ref y)]))
  refine GoOn.step (fun t₀ k₀ => XS.iloadN X14.here hx rfl (hb hby d41_7) rfl k₀) ?_
  show GoOn p e below _ (T14.setTop (mkF m 8 #[.val (.ref y), .val (.int i)] [(.int i), (.ref y)]))
  refine GoOn.step (fun t₀ k₀ => kLdB X14 hx hZ e14 Jy (j := i) (v := (.int (laB (g i.toNatClampNeg)))) hi rfl (g := (mkF m 8 #[.val (.ref y), .val (.int i)] [(.int i), (.ref y)])) rfl rfl (hb hby d41_8) t₀ k₀) ?_
  show GoOn p e below _ (T14.setTop (mkF m 9 #[.val (.ref y), .val (.int i)] [(.int (laB (g i.toNatClampNeg)))]))
  refine GoOn.step (fun t₀ k₀ => XS.sipush X14.here hx rfl (hb hby d41_9) k₀) ?_
  show GoOn p e below _ (T14.setTop (mkF m 12 #[.val (.ref y), .val (.int i)] [(.int (255 : Int32)), (.int (laB (g i.toNatClampNeg)))]))
  refine GoOn.step (fun t₀ k₀ => XS.iand X14.here hx rfl (hb hby d41_12) rfl k₀) ?_
  show GoOn p e below _ (T14.setTop (mkF m 13 #[.val (.ref y), .val (.int i)] [(.int ((laB (g i.toNatClampNeg)) &&& (255 : Int32)))]))
  refine GoOn.step (fun t₀ k₀ => XS.i2c X14.here hx rfl (hb hby d41_13) rfl k₀) ?_
  show GoOn p e below _ (T14.setTop (mkF m 14 #[.val (.ref y), .val (.int i)] [(.int (((laB (g i.toNatClampNeg)) &&& (255 : Int32)).toUInt32.toUInt16.toUInt32.toInt32))]))
  rw [show (((laB (g i.toNatClampNeg)) &&& (255 : Int32)).toUInt32.toUInt16.toUInt32.toInt32) = (g i.toNatClampNeg) from (lat_ch (Cg _))]
  exact GoOn.retN X14 hx hrt hlk (by simp) (hb hby d41_14) (by decide) (by decide) (by first | exact ⟨by rw [idC (Cg _)], rfl, rfl⟩ | (rw [e14]; exact ⟨by rw [idC (Cg _)], rfl, rfl⟩))
theorem ef_c_at (m : MethodId) (x0 : Addr) (x1 : Int32) : entryFrame m #[(.ref x0), (.int x1)] 2 = mkF m 0 #[.val (.ref x0), .val (.int x1)] [] := by first | (simp [entryFrame, mkF, argsToLocals, Value.category]; done) | rfl
set_option maxRecDepth 65536 in
set_option maxHeartbeats 40000000 in
theorem c_at (l : Launch) (Z : State) (a0 : Array Value) (hw : ∀ d ∈ tables_1, d.before a0 Z = true) (a : Addr) (n : Nat) (g : Nat → Int32) (i : Int32) (cs : Int32) (fv : Value) (h0 : Heap) (n0 : Nat) (O : Old Z n0 h0) (SS : Stt Z cs fv) (SO : Str Z h0 a n (fun i => laB (g i))) (hn : n ≤ 16) (hi : 0 ≤ i.toInt ∧ i.toInt < n) (Cg : Ch g) :
    Con l Z (⟨"java/lang/String", "charAt", "(I)C"⟩ : MethodName) jdk_42_method_56_code 2 (some .char) ({ frames := 3, cells := 0, slots := 0, locals := 50 } : Room) #[(.ref a), (.int i)] h0 (PQ (some (.int (g i.toNatClampNeg))) h0) := by
  refine Con.intro (plainFor_of_name pn_0) ?_
  intro p e s m below meth c s₁ hx hby hml hrt hlk hZ hown hnm X0 e0
  replace hown : s.vm.findClass "java/lang/String" = some m.cls := hown
  refine GoOn.cast (ef_c_at m a i) ?_
  show GoOn p e below _ (s₁.setTop (mkF m 0 #[.val (.ref a), .val (.int i)] []))
  obtain ⟨Ex, y, Fv, Fc, Jy⟩ := SO
  refine GoOn.step (fun t₀ k₀ => XS.aloadN X0.here hx rfl (hb hby d39_0) rfl rfl k₀) ?_
  show GoOn p e below _ (s₁.setTop (mkF m 1 #[.val (.ref a), .val (.int i)] [(.ref a)]))
  obtain ⟨_, T15, L15, X15, hQ15, st15⟩ := kCallV X0 hx hZ (a := a) (argsL := []) (rest := []) (c_isl l Z a0 hw a cs fv h0 n0 O SS Fc) hown (hw _ (List.mem_of_getElem? (i := 250) rfl)) (hw _ (List.mem_of_getElem? (i := 251) rfl)) (notFace_of_selects (args := #[]) (mvT hZ (hw _ (List.mem_of_getElem? (i := 253) rfl)))) (hw _ (List.mem_of_getElem? (i := 253) rfl)) (hw _ (List.mem_of_getElem? (i := 252) rfl)) (hw _ (List.mem_of_getElem? (i := 10) rfl)) (hw _ (List.mem_of_getElem? (i := 254) rfl)) (by decide) e0 Ex (g := (mkF m 1 #[.val (.ref a), .val (.int i)] [(.ref a)])) rfl (by rw [hml]; rfl) (lenOf pd_3 rfl) rfl (W := 0) (by show 2 * 0 + _ ≤ _; exact Nat.le_of_eq rfl) (hb hby d39_1) (by decide) (by decide) (by decide) (by decide)
  obtain ⟨rfl, rfl, e15⟩ := hQ15
  rw [List.append_nil] at X15
  refine GoOn.step st15 ?_
  show GoOn p e below _ (T15.setTop (mkF m 4 #[.val (.ref a), .val (.int i)] [(.int (1 : Int32))]))
  have hf16 : ¬ ((1 : Int32) = (0 : Int32)) := (by decide)
  refine GoOn.step (fun t₀ k₀ => XS.ifNo X15.here hx rfl (hb hby d39_4) rfl ((if0 _ _).trans (feq hf16).1) k₀) ?_
  show GoOn p e below _ (T15.setTop (mkF m 7 #[.val (.ref a), .val (.int i)] []))
  refine GoOn.step (fun t₀ k₀ => XS.aloadN X15.here hx rfl (hb hby d39_7) rfl rfl k₀) ?_
  show GoOn p e below _ (T15.setTop (mkF m 8 #[.val (.ref a), .val (.int i)] [(.ref a)]))
  obtain ⟨T17, X17, e17, st17⟩ := getF X15 hx hZ hown (host := "") (Or.inl (hw _ (List.mem_of_getElem? (i := 28) rfl))) Via.refl e15 Fv (g := (mkF m 8 #[.val (.ref a), .val (.int i)] [(.ref a)])) rfl rfl (hb hby d39_8)
  refine GoOn.step st17 ?_
  show GoOn p e below _ (T17.setTop (mkF m 11 #[.val (.ref a), .val (.int i)] [(.ref y)]))
  refine GoOn.step (fun t₀ k₀ => XS.iloadN X17.here hx rfl (hb hby d39_11) rfl k₀) ?_
  show GoOn p e below _ (T17.setTop (mkF m 12 #[.val (.ref a), .val (.int i)] [(.int i), (.ref y)]))
  obtain ⟨_, T18, L18, X18, hQ18, st18⟩ := kCallS X17 hx hZ (argsL := [(.ref y), (.int i)]) (rest := []) (c_l1 l Z a0 hw y i n g cs fv h0 n0 O SS Jy hn hi Cg) hown (hw _ (List.mem_of_getElem? (i := 255) rfl)) (hw _ (List.mem_of_getElem? (i := 256) rfl)) (hw _ (List.mem_of_getElem? (i := 257) rfl)) (hw _ (List.mem_of_getElem? (i := 258) rfl)) (by decide) e17 (g := (mkF m 12 #[.val (.ref a), .val (.int i)] [(.int i), (.ref y)])) rfl (by rw [hml]; rfl) (lenOf pd_4 rfl) rfl (W := 0) (by show 2 * 0 + _ ≤ _; exact Nat.le_of_eq rfl) (hb hby d39_12) (by decide) (by decide) (by decide) (by decide)
  obtain ⟨rfl, rfl, e18⟩ := hQ18
  rw [List.append_nil] at X18
  refine GoOn.step st18 ?_
  show GoOn p e below _ (T18.setTop (mkF m 15 #[.val (.ref a), .val (.int i)] [(.int (g i.toNatClampNeg))]))
  exact GoOn.retN X18 hx hrt hlk (by simp) (hb hby d39_15) (by decide) (by decide) (by first | exact ⟨by rw [idC (Cg _)], rfl, rfl⟩ | (rw [e18]; exact ⟨by rw [idC (Cg _)], rfl, rfl⟩))
theorem ef_c_eq (m : MethodId) (x0 : Addr) (x1 : Addr) : entryFrame m #[(.ref x0), (.ref x1)] 3 = mkF m 0 #[.val (.ref x0), .val (.ref x1), .unset] [] := by first | (simp [entryFrame, mkF, argsToLocals, Value.category]; done) | rfl
set_option maxRecDepth 65536 in
set_option maxHeartbeats 40000000 in
theorem c_eq (l : Launch) (Z : State) (a0 : Array Value) (hw : ∀ d ∈ tables_1, d.before a0 Z = true) (a : Addr) (h0 : Heap)  :
    Con l Z (⟨"java/lang/String", "equals", "(Ljava/lang/Object;)Z"⟩ : MethodName) jdk_42_method_66_code 3 (some .boolean) ({ frames := 0, cells := 0, slots := 0, locals := 0 } : Room) #[(.ref a), (.ref a)] h0 (PQ (some (.int (1 : Int32))) h0) := by
  refine Con.intro (plainFor_of_name pn_0) ?_
  intro p e s m below meth c s₁ hx hby hml hrt hlk hZ hown hnm X0 e0
  replace hown : s.vm.findClass "java/lang/String" = some m.cls := hown
  refine GoOn.cast (ef_c_eq m a a) ?_
  show GoOn p e below _ (s₁.setTop (mkF m 0 #[.val (.ref a), .val (.ref a), .unset] []))
  refine GoOn.step (fun t₀ k₀ => XS.aloadN X0.here hx rfl (hb hby d38_0) rfl rfl k₀) ?_
  show GoOn p e below _ (s₁.setTop (mkF m 1 #[.val (.ref a), .val (.ref a), .unset] [(.ref a)]))
  refine GoOn.step (fun t₀ k₀ => XS.aloadN X0.here hx rfl (hb hby d38_1) rfl rfl k₀) ?_
  show GoOn p e below _ (s₁.setTop (mkF m 2 #[.val (.ref a), .val (.ref a), .unset] [(.ref a), (.ref a)]))
  have hf19 : ((.ref a) : Value) = (.ref a) := rfl
  refine GoOn.step (fun t₀ k₀ => Jvm.RoadKit.acmp (g := (mkF m 2 #[.val (.ref a), .val (.ref a), .unset] [(.ref a), (.ref a)])) X0 hx rfl rfl rfl (pc0 := 2) (pc' := 5) (same := true) rfl (hb hby d38_2) rfl (decide_eq_true hf19) (by decide) (by decide) k₀) ?_
  show GoOn p e below _ (s₁.setTop (mkF m 5 #[.val (.ref a), .val (.ref a), .unset] []))
  refine GoOn.step (fun t₀ k₀ => XS.iconst X0.here hx rfl (hb hby d38_5) k₀) ?_
  show GoOn p e below _ (s₁.setTop (mkF m 6 #[.val (.ref a), .val (.ref a), .unset] [(.int (1 : Int32))]))
  exact GoOn.retN X0 hx hrt hlk (by simp) (hb hby d38_6) (by decide) (by decide) (by first | exact ⟨rfl, rfl, rfl⟩ | (rw [e0]; exact ⟨rfl, rfl, rfl⟩))
def C5Q (Z : State) (b : Addr) (g : Nat → Int32) (h0 : Heap) (n0 : Nat) : Option Value → Heap → List Loc → Prop := fun v h L => v = some (.int (2 : Int32)) ∧ Fr n0 L ∧ Keep h0 h [b] ∧ Jar Z h b .byte 2 (fun i => .int (laB (g i)))
def NbQ (Z : State) (n : Nat) (F : Nat → Int32) (h0 : Heap) (n0 : Nat) : Option Value → Heap → List Loc → Prop := fun v h L => ∃ y, v = some (.ref y) ∧ Fr n0 L ∧ Keep h0 h [] ∧ h0.size ≤ y ∧ Jar Z h y .byte n (fun i => .int (F i))
def StQ (Z : State) (a : Addr) (n : Nat) (F : Nat → Int32) (h0 : Heap) (n0 : Nat) : Option Value → Heap → List Loc → Prop := fun v h L => v = none ∧ Fr n0 L ∧ Keep h0 h [a] ∧ Str Z h a n F
def TxQ (Z : State) (n : Nat) (F : Nat → Int32) (h0 : Heap) (n0 : Nat) : Option Value → Heap → List Loc → Prop := fun v h L => ∃ so, v = some (.ref so) ∧ Fr n0 L ∧ Keep h0 h [] ∧ h0.size ≤ so ∧ Str Z h so n F
theorem ef_c_c5 (m : MethodId) (x0 : Addr) (x1 : Int32) (x2 : Addr) (x3 : Int32) (x4 : Int32) : entryFrame m #[(.ref x0), (.int x1), (.ref x2), (.int x3), (.int x4)] 7 = mkF m 0 #[.val (.ref x0), .val (.int x1), .val (.ref x2), .val (.int x3), .val (.int x4), .unset, .unset] [] := by first | (simp [entryFrame, mkF, argsToLocals, Value.category]; done) | rfl
set_option maxRecDepth 65536 in
set_option maxHeartbeats 40000000 in
theorem c_c5 (l : Launch) (Z : State) (a0 : Array Value) (hw : ∀ d ∈ tables_1, d.before a0 Z = true) (ca b : Addr) (g : Nat → Int32) (f : Nat → Value) (h0 : Heap) (n0 : Nat) (Z0 : n0 ≤ h0.size) (Jc : Jar Z h0 ca .char 2 (fun i => .int (g i))) (Cg : Ch g) (Jb : Jar Z h0 b .byte 2 f) (gb : n0 ≤ b) (ncb : ca ≠ b) :
    Con l Z (⟨"java/lang/StringUTF16", "compress", "([CI[BII)I"⟩ : MethodName) jdk_52_method_21_code 7 (some .int) ({ frames := 0, cells := 0, slots := 0, locals := 0 } : Room) #[(.ref ca), (.int (0 : Int32)), (.ref b), (.int (0 : Int32)), (.int (2 : Int32))] h0 (C5Q Z b g h0 n0) := by
  refine Con.intro (plainFor_of_name pn_3) ?_
  intro p e s m below meth c s₁ hx hby hml hrt hlk hZ hown hnm X0 e0
  replace hown : s.vm.findClass "java/lang/StringUTF16" = some m.cls := hown
  have N0 := Fr.nil n0
  refine GoOn.cast (ef_c_c5 m ca (0 : Int32) b (0 : Int32) (2 : Int32)) ?_
  show GoOn p e below _ (s₁.setTop (mkF m 0 #[.val (.ref ca), .val (.int (0 : Int32)), .val (.ref b), .val (.int (0 : Int32)), .val (.int (2 : Int32)), .unset, .unset] []))
  have K0 : Keep h0 h0 [b] := Keep.refl _ _
  refine GoOn.step (fun t₀ k₀ => XS.iconst X0.here hx rfl (hb hby d45_0) k₀) ?_
  show GoOn p e below _ (s₁.setTop (mkF m 1 #[.val (.ref ca), .val (.int (0 : Int32)), .val (.ref b), .val (.int (0 : Int32)), .val (.int (2 : Int32)), .unset, .unset] [(.int (0 : Int32))]))
  refine GoOn.step (fun t₀ k₀ => XS.istore X0.here hx rfl (hb hby d45_1) rfl (l' := #[.val (.ref ca), .val (.int (0 : Int32)), .val (.ref b), .val (.int (0 : Int32)), .val (.int (2 : Int32)), .val (.int (0 : Int32)), .unset]) rfl k₀) ?_
  show GoOn p e below _ (s₁.setTop (mkF m 3 #[.val (.ref ca), .val (.int (0 : Int32)), .val (.ref b), .val (.int (0 : Int32)), .val (.int (2 : Int32)), .val (.int (0 : Int32)), .unset] []))
  refine GoOn.step (fun t₀ k₀ => XS.iload X0.here hx rfl (hb hby d45_3) rfl k₀) ?_
  show GoOn p e below _ (s₁.setTop (mkF m 5 #[.val (.ref ca), .val (.int (0 : Int32)), .val (.ref b), .val (.int (0 : Int32)), .val (.int (2 : Int32)), .val (.int (0 : Int32)), .unset] [(.int (0 : Int32))]))
  refine GoOn.step (fun t₀ k₀ => XS.iload X0.here hx rfl (hb hby d45_5) rfl k₀) ?_
  show GoOn p e below _ (s₁.setTop (mkF m 7 #[.val (.ref ca), .val (.int (0 : Int32)), .val (.ref b), .val (.int (0 : Int32)), .val (.int (2 : Int32)), .val (.int (0 : Int32)), .unset] [(.int (2 : Int32)), (.int (0 : Int32))]))
  have hf20 : (0 : Int32) < (2 : Int32) := (by decide)
  refine GoOn.step (fun t₀ k₀ => XS.icmpNo X0.here hx rfl (hb hby d45_7) rfl (tlt hf20).2.1 k₀) ?_
  show GoOn p e below _ (s₁.setTop (mkF m 10 #[.val (.ref ca), .val (.int (0 : Int32)), .val (.ref b), .val (.int (0 : Int32)), .val (.int (2 : Int32)), .val (.int (0 : Int32)), .unset] []))
  refine GoOn.step (fun t₀ k₀ => XS.aloadN X0.here hx rfl (hb hby d45_10) rfl rfl k₀) ?_
  show GoOn p e below _ (s₁.setTop (mkF m 11 #[.val (.ref ca), .val (.int (0 : Int32)), .val (.ref b), .val (.int (0 : Int32)), .val (.int (2 : Int32)), .val (.int (0 : Int32)), .unset] [(.ref ca)]))
  refine GoOn.step (fun t₀ k₀ => XS.iloadN X0.here hx rfl (hb hby d45_11) rfl k₀) ?_
  show GoOn p e below _ (s₁.setTop (mkF m 12 #[.val (.ref ca), .val (.int (0 : Int32)), .val (.ref b), .val (.int (0 : Int32)), .val (.int (2 : Int32)), .val (.int (0 : Int32)), .unset] [(.int (0 : Int32)), (.ref ca)]))
  refine GoOn.step (fun t₀ k₀ => kLdC X0 hx hZ e0 Jc (j := (0 : Int32)) (v := (.int (g 0))) ⟨by decide, by decide⟩ rfl (g := (mkF m 12 #[.val (.ref ca), .val (.int (0 : Int32)), .val (.ref b), .val (.int (0 : Int32)), .val (.int (2 : Int32)), .val (.int (0 : Int32)), .unset] [(.int (0 : Int32)), (.ref ca)])) rfl rfl (hb hby d45_12) t₀ k₀) ?_
  show GoOn p e below _ (s₁.setTop (mkF m 13 #[.val (.ref ca), .val (.int (0 : Int32)), .val (.ref b), .val (.int (0 : Int32)), .val (.int (2 : Int32)), .val (.int (0 : Int32)), .unset] [(.int (g 0))]))
  refine GoOn.step (fun t₀ k₀ => XS.istore X0.here hx rfl (hb hby d45_13) rfl (l' := #[.val (.ref ca), .val (.int (0 : Int32)), .val (.ref b), .val (.int (0 : Int32)), .val (.int (2 : Int32)), .val (.int (0 : Int32)), .val (.int (g 0))]) rfl k₀) ?_
  show GoOn p e below _ (s₁.setTop (mkF m 15 #[.val (.ref ca), .val (.int (0 : Int32)), .val (.ref b), .val (.int (0 : Int32)), .val (.int (2 : Int32)), .val (.int (0 : Int32)), .val (.int (g 0))] []))
  refine GoOn.step (fun t₀ k₀ => XS.iload X0.here hx rfl (hb hby d45_15) rfl k₀) ?_
  show GoOn p e below _ (s₁.setTop (mkF m 17 #[.val (.ref ca), .val (.int (0 : Int32)), .val (.ref b), .val (.int (0 : Int32)), .val (.int (2 : Int32)), .val (.int (0 : Int32)), .val (.int (g 0))] [(.int (g 0))]))
  refine GoOn.step (fun t₀ k₀ => XS.sipush X0.here hx rfl (hb hby d45_17) k₀) ?_
  show GoOn p e below _ (s₁.setTop (mkF m 20 #[.val (.ref ca), .val (.int (0 : Int32)), .val (.ref b), .val (.int (0 : Int32)), .val (.int (2 : Int32)), .val (.int (0 : Int32)), .val (.int (g 0))] [(.int (255 : Int32)), (.int (g 0))]))
  have hf21 : ¬ ((255 : Int32) < (g 0)) := (n255 (Cg 0))
  refine GoOn.step (fun t₀ k₀ => XS.icmpYes X0.here hx rfl (pc0 := 20) (pc' := 26) rfl (hb hby d45_20) rfl (flt hf21).2.2.2 (by decide) (by decide) k₀) ?_
  show GoOn p e below _ (s₁.setTop (mkF m 26 #[.val (.ref ca), .val (.int (0 : Int32)), .val (.ref b), .val (.int (0 : Int32)), .val (.int (2 : Int32)), .val (.int (0 : Int32)), .val (.int (g 0))] []))
  refine GoOn.step (fun t₀ k₀ => XS.aloadN X0.here hx rfl (hb hby d45_26) rfl rfl k₀) ?_
  show GoOn p e below _ (s₁.setTop (mkF m 27 #[.val (.ref ca), .val (.int (0 : Int32)), .val (.ref b), .val (.int (0 : Int32)), .val (.int (2 : Int32)), .val (.int (0 : Int32)), .val (.int (g 0))] [(.ref b)]))
  refine GoOn.step (fun t₀ k₀ => XS.iloadN X0.here hx rfl (hb hby d45_27) rfl k₀) ?_
  show GoOn p e below _ (s₁.setTop (mkF m 28 #[.val (.ref ca), .val (.int (0 : Int32)), .val (.ref b), .val (.int (0 : Int32)), .val (.int (2 : Int32)), .val (.int (0 : Int32)), .val (.int (g 0))] [(.int (0 : Int32)), (.ref b)]))
  refine GoOn.step (fun t₀ k₀ => XS.iload X0.here hx rfl (hb hby d45_28) rfl k₀) ?_
  show GoOn p e below _ (s₁.setTop (mkF m 30 #[.val (.ref ca), .val (.int (0 : Int32)), .val (.ref b), .val (.int (0 : Int32)), .val (.int (2 : Int32)), .val (.int (0 : Int32)), .val (.int (g 0))] [(.int (g 0)), (.int (0 : Int32)), (.ref b)]))
  refine GoOn.step (fun t₀ k₀ => XS.i2b X0.here hx rfl (hb hby d45_30) rfl k₀) ?_
  show GoOn p e below _ (s₁.setTop (mkF m 31 #[.val (.ref ca), .val (.int (0 : Int32)), .val (.ref b), .val (.int (0 : Int32)), .val (.int (2 : Int32)), .val (.int (0 : Int32)), .val (.int (g 0))] [(.int ((g 0).toInt8.toInt32)), (.int (0 : Int32)), (.ref b)]))
  obtain ⟨T22, h22, X22, e22, W22, st22⟩ := kStB X0 hx hZ e0 Jb (j := (0 : Int32)) ⟨by decide, by decide⟩ (g := (mkF m 31 #[.val (.ref ca), .val (.int (0 : Int32)), .val (.ref b), .val (.int (0 : Int32)), .val (.int (2 : Int32)), .val (.int (0 : Int32)), .val (.int (g 0))] [(.int ((g 0).toInt8.toInt32)), (.int (0 : Int32)), (.ref b)])) rfl rfl (hb hby d45_31)
  replace N0 := Fr.snoc X22 N0 gb
  replace Jc := Jc.other W22 ncb
  replace Jb := Jb.set W22
  replace Z0 := Nat.le_trans Z0 (Nat.le_of_eq W22.size.symm)
  replace K0 := K0.wr W22 (Or.inl (by simp))
  refine GoOn.step st22 ?_
  show GoOn p e below _ (T22.setTop (mkF m 32 #[.val (.ref ca), .val (.int (0 : Int32)), .val (.ref b), .val (.int (0 : Int32)), .val (.int (2 : Int32)), .val (.int (0 : Int32)), .val (.int (g 0))] []))
  refine GoOn.step (fun t₀ k₀ => XS.iinc X22.here hx rfl (hb hby d45_32) rfl (l' := #[.val (.ref ca), .val (.int ((0 : Int32) + (1 : Int32))), .val (.ref b), .val (.int (0 : Int32)), .val (.int (2 : Int32)), .val (.int (0 : Int32)), .val (.int (g 0))]) rfl k₀) ?_
  show GoOn p e below _ (T22.setTop (mkF m 35 #[.val (.ref ca), .val (.int ((0 : Int32) + (1 : Int32))), .val (.ref b), .val (.int (0 : Int32)), .val (.int (2 : Int32)), .val (.int (0 : Int32)), .val (.int (g 0))] []))
  refine GoOn.step (fun t₀ k₀ => XS.iinc X22.here hx rfl (hb hby d45_35) rfl (l' := #[.val (.ref ca), .val (.int ((0 : Int32) + (1 : Int32))), .val (.ref b), .val (.int ((0 : Int32) + (1 : Int32))), .val (.int (2 : Int32)), .val (.int (0 : Int32)), .val (.int (g 0))]) rfl k₀) ?_
  show GoOn p e below _ (T22.setTop (mkF m 38 #[.val (.ref ca), .val (.int ((0 : Int32) + (1 : Int32))), .val (.ref b), .val (.int ((0 : Int32) + (1 : Int32))), .val (.int (2 : Int32)), .val (.int (0 : Int32)), .val (.int (g 0))] []))
  refine GoOn.step (fun t₀ k₀ => XS.iinc X22.here hx rfl (hb hby d45_38) rfl (l' := #[.val (.ref ca), .val (.int ((0 : Int32) + (1 : Int32))), .val (.ref b), .val (.int ((0 : Int32) + (1 : Int32))), .val (.int (2 : Int32)), .val (.int ((0 : Int32) + (1 : Int32))), .val (.int (g 0))]) rfl k₀) ?_
  show GoOn p e below _ (T22.setTop (mkF m 41 #[.val (.ref ca), .val (.int ((0 : Int32) + (1 : Int32))), .val (.ref b), .val (.int ((0 : Int32) + (1 : Int32))), .val (.int (2 : Int32)), .val (.int ((0 : Int32) + (1 : Int32))), .val (.int (g 0))] []))
  rw [show ((0 : Int32) + (1 : Int32)) = (1 : Int32) from (by decide)]
  refine GoOn.step (fun t₀ k₀ => XS.goto X22.here hx rfl (pc0 := 41) (pc' := 3) rfl (hb hby d45_41) (by decide) (by decide) k₀) ?_
  show GoOn p e below _ (T22.setTop (mkF m 3 #[.val (.ref ca), .val (.int (1 : Int32)), .val (.ref b), .val (.int (1 : Int32)), .val (.int (2 : Int32)), .val (.int (1 : Int32)), .val (.int (g 0))] []))
  refine GoOn.step (fun t₀ k₀ => XS.iload X22.here hx rfl (hb hby d45_3) rfl k₀) ?_
  show GoOn p e below _ (T22.setTop (mkF m 5 #[.val (.ref ca), .val (.int (1 : Int32)), .val (.ref b), .val (.int (1 : Int32)), .val (.int (2 : Int32)), .val (.int (1 : Int32)), .val (.int (g 0))] [(.int (1 : Int32))]))
  refine GoOn.step (fun t₀ k₀ => XS.iload X22.here hx rfl (hb hby d45_5) rfl k₀) ?_
  show GoOn p e below _ (T22.setTop (mkF m 7 #[.val (.ref ca), .val (.int (1 : Int32)), .val (.ref b), .val (.int (1 : Int32)), .val (.int (2 : Int32)), .val (.int (1 : Int32)), .val (.int (g 0))] [(.int (2 : Int32)), (.int (1 : Int32))]))
  have hf23 : (1 : Int32) < (2 : Int32) := (by decide)
  refine GoOn.step (fun t₀ k₀ => XS.icmpNo X22.here hx rfl (hb hby d45_7) rfl (tlt hf23).2.1 k₀) ?_
  show GoOn p e below _ (T22.setTop (mkF m 10 #[.val (.ref ca), .val (.int (1 : Int32)), .val (.ref b), .val (.int (1 : Int32)), .val (.int (2 : Int32)), .val (.int (1 : Int32)), .val (.int (g 0))] []))
  refine GoOn.step (fun t₀ k₀ => XS.aloadN X22.here hx rfl (hb hby d45_10) rfl rfl k₀) ?_
  show GoOn p e below _ (T22.setTop (mkF m 11 #[.val (.ref ca), .val (.int (1 : Int32)), .val (.ref b), .val (.int (1 : Int32)), .val (.int (2 : Int32)), .val (.int (1 : Int32)), .val (.int (g 0))] [(.ref ca)]))
  refine GoOn.step (fun t₀ k₀ => XS.iloadN X22.here hx rfl (hb hby d45_11) rfl k₀) ?_
  show GoOn p e below _ (T22.setTop (mkF m 12 #[.val (.ref ca), .val (.int (1 : Int32)), .val (.ref b), .val (.int (1 : Int32)), .val (.int (2 : Int32)), .val (.int (1 : Int32)), .val (.int (g 0))] [(.int (1 : Int32)), (.ref ca)]))
  refine GoOn.step (fun t₀ k₀ => kLdC X22 hx hZ e22 Jc (j := (1 : Int32)) (v := (.int (g 1))) ⟨by decide, by decide⟩ rfl (g := (mkF m 12 #[.val (.ref ca), .val (.int (1 : Int32)), .val (.ref b), .val (.int (1 : Int32)), .val (.int (2 : Int32)), .val (.int (1 : Int32)), .val (.int (g 0))] [(.int (1 : Int32)), (.ref ca)])) rfl rfl (hb hby d45_12) t₀ k₀) ?_
  show GoOn p e below _ (T22.setTop (mkF m 13 #[.val (.ref ca), .val (.int (1 : Int32)), .val (.ref b), .val (.int (1 : Int32)), .val (.int (2 : Int32)), .val (.int (1 : Int32)), .val (.int (g 0))] [(.int (g 1))]))
  refine GoOn.step (fun t₀ k₀ => XS.istore X22.here hx rfl (hb hby d45_13) rfl (l' := #[.val (.ref ca), .val (.int (1 : Int32)), .val (.ref b), .val (.int (1 : Int32)), .val (.int (2 : Int32)), .val (.int (1 : Int32)), .val (.int (g 1))]) rfl k₀) ?_
  show GoOn p e below _ (T22.setTop (mkF m 15 #[.val (.ref ca), .val (.int (1 : Int32)), .val (.ref b), .val (.int (1 : Int32)), .val (.int (2 : Int32)), .val (.int (1 : Int32)), .val (.int (g 1))] []))
  refine GoOn.step (fun t₀ k₀ => XS.iload X22.here hx rfl (hb hby d45_15) rfl k₀) ?_
  show GoOn p e below _ (T22.setTop (mkF m 17 #[.val (.ref ca), .val (.int (1 : Int32)), .val (.ref b), .val (.int (1 : Int32)), .val (.int (2 : Int32)), .val (.int (1 : Int32)), .val (.int (g 1))] [(.int (g 1))]))
  refine GoOn.step (fun t₀ k₀ => XS.sipush X22.here hx rfl (hb hby d45_17) k₀) ?_
  show GoOn p e below _ (T22.setTop (mkF m 20 #[.val (.ref ca), .val (.int (1 : Int32)), .val (.ref b), .val (.int (1 : Int32)), .val (.int (2 : Int32)), .val (.int (1 : Int32)), .val (.int (g 1))] [(.int (255 : Int32)), (.int (g 1))]))
  have hf24 : ¬ ((255 : Int32) < (g 1)) := (n255 (Cg 1))
  refine GoOn.step (fun t₀ k₀ => XS.icmpYes X22.here hx rfl (pc0 := 20) (pc' := 26) rfl (hb hby d45_20) rfl (flt hf24).2.2.2 (by decide) (by decide) k₀) ?_
  show GoOn p e below _ (T22.setTop (mkF m 26 #[.val (.ref ca), .val (.int (1 : Int32)), .val (.ref b), .val (.int (1 : Int32)), .val (.int (2 : Int32)), .val (.int (1 : Int32)), .val (.int (g 1))] []))
  refine GoOn.step (fun t₀ k₀ => XS.aloadN X22.here hx rfl (hb hby d45_26) rfl rfl k₀) ?_
  show GoOn p e below _ (T22.setTop (mkF m 27 #[.val (.ref ca), .val (.int (1 : Int32)), .val (.ref b), .val (.int (1 : Int32)), .val (.int (2 : Int32)), .val (.int (1 : Int32)), .val (.int (g 1))] [(.ref b)]))
  refine GoOn.step (fun t₀ k₀ => XS.iloadN X22.here hx rfl (hb hby d45_27) rfl k₀) ?_
  show GoOn p e below _ (T22.setTop (mkF m 28 #[.val (.ref ca), .val (.int (1 : Int32)), .val (.ref b), .val (.int (1 : Int32)), .val (.int (2 : Int32)), .val (.int (1 : Int32)), .val (.int (g 1))] [(.int (1 : Int32)), (.ref b)]))
  refine GoOn.step (fun t₀ k₀ => XS.iload X22.here hx rfl (hb hby d45_28) rfl k₀) ?_
  show GoOn p e below _ (T22.setTop (mkF m 30 #[.val (.ref ca), .val (.int (1 : Int32)), .val (.ref b), .val (.int (1 : Int32)), .val (.int (2 : Int32)), .val (.int (1 : Int32)), .val (.int (g 1))] [(.int (g 1)), (.int (1 : Int32)), (.ref b)]))
  refine GoOn.step (fun t₀ k₀ => XS.i2b X22.here hx rfl (hb hby d45_30) rfl k₀) ?_
  show GoOn p e below _ (T22.setTop (mkF m 31 #[.val (.ref ca), .val (.int (1 : Int32)), .val (.ref b), .val (.int (1 : Int32)), .val (.int (2 : Int32)), .val (.int (1 : Int32)), .val (.int (g 1))] [(.int ((g 1).toInt8.toInt32)), (.int (1 : Int32)), (.ref b)]))
  obtain ⟨T25, h25, X25, e25, W25, st25⟩ := kStB X22 hx hZ e22 Jb (j := (1 : Int32)) ⟨by decide, by decide⟩ (g := (mkF m 31 #[.val (.ref ca), .val (.int (1 : Int32)), .val (.ref b), .val (.int (1 : Int32)), .val (.int (2 : Int32)), .val (.int (1 : Int32)), .val (.int (g 1))] [(.int ((g 1).toInt8.toInt32)), (.int (1 : Int32)), (.ref b)])) rfl rfl (hb hby d45_31)
  replace N0 := Fr.snoc X25 N0 gb
  replace Jc := Jc.other W25 ncb
  replace Jb := Jb.set W25
  replace Z0 := Nat.le_trans Z0 (Nat.le_of_eq W25.size.symm)
  replace K0 := K0.wr W25 (Or.inl (by simp))
  refine GoOn.step st25 ?_
  show GoOn p e below _ (T25.setTop (mkF m 32 #[.val (.ref ca), .val (.int (1 : Int32)), .val (.ref b), .val (.int (1 : Int32)), .val (.int (2 : Int32)), .val (.int (1 : Int32)), .val (.int (g 1))] []))
  refine GoOn.step (fun t₀ k₀ => XS.iinc X25.here hx rfl (hb hby d45_32) rfl (l' := #[.val (.ref ca), .val (.int ((1 : Int32) + (1 : Int32))), .val (.ref b), .val (.int (1 : Int32)), .val (.int (2 : Int32)), .val (.int (1 : Int32)), .val (.int (g 1))]) rfl k₀) ?_
  show GoOn p e below _ (T25.setTop (mkF m 35 #[.val (.ref ca), .val (.int ((1 : Int32) + (1 : Int32))), .val (.ref b), .val (.int (1 : Int32)), .val (.int (2 : Int32)), .val (.int (1 : Int32)), .val (.int (g 1))] []))
  refine GoOn.step (fun t₀ k₀ => XS.iinc X25.here hx rfl (hb hby d45_35) rfl (l' := #[.val (.ref ca), .val (.int ((1 : Int32) + (1 : Int32))), .val (.ref b), .val (.int ((1 : Int32) + (1 : Int32))), .val (.int (2 : Int32)), .val (.int (1 : Int32)), .val (.int (g 1))]) rfl k₀) ?_
  show GoOn p e below _ (T25.setTop (mkF m 38 #[.val (.ref ca), .val (.int ((1 : Int32) + (1 : Int32))), .val (.ref b), .val (.int ((1 : Int32) + (1 : Int32))), .val (.int (2 : Int32)), .val (.int (1 : Int32)), .val (.int (g 1))] []))
  refine GoOn.step (fun t₀ k₀ => XS.iinc X25.here hx rfl (hb hby d45_38) rfl (l' := #[.val (.ref ca), .val (.int ((1 : Int32) + (1 : Int32))), .val (.ref b), .val (.int ((1 : Int32) + (1 : Int32))), .val (.int (2 : Int32)), .val (.int ((1 : Int32) + (1 : Int32))), .val (.int (g 1))]) rfl k₀) ?_
  show GoOn p e below _ (T25.setTop (mkF m 41 #[.val (.ref ca), .val (.int ((1 : Int32) + (1 : Int32))), .val (.ref b), .val (.int ((1 : Int32) + (1 : Int32))), .val (.int (2 : Int32)), .val (.int ((1 : Int32) + (1 : Int32))), .val (.int (g 1))] []))
  rw [show ((1 : Int32) + (1 : Int32)) = (2 : Int32) from (by decide)]
  refine GoOn.step (fun t₀ k₀ => XS.goto X25.here hx rfl (pc0 := 41) (pc' := 3) rfl (hb hby d45_41) (by decide) (by decide) k₀) ?_
  show GoOn p e below _ (T25.setTop (mkF m 3 #[.val (.ref ca), .val (.int (2 : Int32)), .val (.ref b), .val (.int (2 : Int32)), .val (.int (2 : Int32)), .val (.int (2 : Int32)), .val (.int (g 1))] []))
  refine GoOn.step (fun t₀ k₀ => XS.iload X25.here hx rfl (hb hby d45_3) rfl k₀) ?_
  show GoOn p e below _ (T25.setTop (mkF m 5 #[.val (.ref ca), .val (.int (2 : Int32)), .val (.ref b), .val (.int (2 : Int32)), .val (.int (2 : Int32)), .val (.int (2 : Int32)), .val (.int (g 1))] [(.int (2 : Int32))]))
  refine GoOn.step (fun t₀ k₀ => XS.iload X25.here hx rfl (hb hby d45_5) rfl k₀) ?_
  show GoOn p e below _ (T25.setTop (mkF m 7 #[.val (.ref ca), .val (.int (2 : Int32)), .val (.ref b), .val (.int (2 : Int32)), .val (.int (2 : Int32)), .val (.int (2 : Int32)), .val (.int (g 1))] [(.int (2 : Int32)), (.int (2 : Int32))]))
  have hf26 : ¬ ((2 : Int32) < (2 : Int32)) := (by decide)
  refine GoOn.step (fun t₀ k₀ => XS.icmpYes X25.here hx rfl (pc0 := 7) (pc' := 44) rfl (hb hby d45_7) rfl (flt hf26).2.1 (by decide) (by decide) k₀) ?_
  show GoOn p e below _ (T25.setTop (mkF m 44 #[.val (.ref ca), .val (.int (2 : Int32)), .val (.ref b), .val (.int (2 : Int32)), .val (.int (2 : Int32)), .val (.int (2 : Int32)), .val (.int (g 1))] []))
  refine GoOn.step (fun t₀ k₀ => XS.iload X25.here hx rfl (hb hby d45_44) rfl k₀) ?_
  show GoOn p e below _ (T25.setTop (mkF m 46 #[.val (.ref ca), .val (.int (2 : Int32)), .val (.ref b), .val (.int (2 : Int32)), .val (.int (2 : Int32)), .val (.int (2 : Int32)), .val (.int (g 1))] [(.int (2 : Int32))]))
  exact GoOn.retI X25 hx hrt hlk (hb hby d45_46) (by decide) (by decide) (by first | exact ⟨rfl, N0, K0, laJ2 Jb (by simp [nc0, nc1, fixB, laB]) (by simp [nc0, nc1, fixB, laB])⟩ | (rw [e25]; exact ⟨rfl, N0, K0, laJ2 Jb (by simp [nc0, nc1, fixB, laB]) (by simp [nc0, nc1, fixB, laB])⟩))
theorem ef_c_c3 (m : MethodId) (x0 : Addr) (x1 : Int32) (x2 : Int32) : entryFrame m #[(.ref x0), (.int x1), (.int x2)] 6 = mkF m 0 #[.val (.ref x0), .val (.int x1), .val (.int x2), .unset, .unset, .unset] [] := by first | (simp [entryFrame, mkF, argsToLocals, Value.category]; done) | rfl
set_option maxRecDepth 65536 in
set_option maxHeartbeats 40000000 in
theorem c_c3 (l : Launch) (Z : State) (a0 : Array Value) (hw : ∀ d ∈ tables_1, d.before a0 Z = true) (ca : Addr) (g : Nat → Int32) (h0 : Heap) (n0 : Nat) (Z0 : n0 ≤ h0.size) (Jc : Jar Z h0 ca .char 2 (fun i => .int (g i))) (Cg : Ch g) :
    Con l Z (⟨"java/lang/StringUTF16", "compress", "([CII)[B"⟩ : MethodName) jdk_52_method_16_code 6 (some (.array .byte)) ({ frames := 1, cells := 1, slots := 2, locals := 20 } : Room) #[(.ref ca), (.int (0 : Int32)), (.int (2 : Int32))] h0 (NbQ Z 2 (fun i => laB (g i)) h0 n0) := by
  refine Con.intro (plainFor_of_name pn_3) ?_
  intro p e s m below meth c s₁ hx hby hml hrt hlk hZ hown hnm X0 e0
  replace hown : s.vm.findClass "java/lang/StringUTF16" = some m.cls := hown
  have N0 := Fr.nil n0
  refine GoOn.cast (ef_c_c3 m ca (0 : Int32) (2 : Int32)) ?_
  show GoOn p e below _ (s₁.setTop (mkF m 0 #[.val (.ref ca), .val (.int (0 : Int32)), .val (.int (2 : Int32)), .unset, .unset, .unset] []))
  have K0 : Keep h0 h0 [] := Keep.refl _ _
  refine GoOn.step (fun t₀ k₀ => XS.iloadN X0.here hx rfl (hb hby d44_0) rfl k₀) ?_
  show GoOn p e below _ (s₁.setTop (mkF m 1 #[.val (.ref ca), .val (.int (0 : Int32)), .val (.int (2 : Int32)), .unset, .unset, .unset] [(.int (2 : Int32))]))
  obtain ⟨T27, h27, k27, X27, e27, E27, A27, st27⟩ := newP X0 hx hZ (hw _ (List.mem_of_getElem? (i := 23) rfl)) e0 (g := (mkF m 1 #[.val (.ref ca), .val (.int (0 : Int32)), .val (.int (2 : Int32)), .unset, .unset, .unset] [(.int (2 : Int32))])) rfl (hb hby d44_1) rfl (by decide) (cap := 2) (by decide) (by decide) (by decide) (by decide)
  obtain ⟨b, g27⟩ : ∃ z, z = h0.size := ⟨_, rfl⟩
  rw [← g27] at A27 st27
  have lt_ca_b : ca < b := by rw [g27]; exact Jc.lt
  have ne_ca_b : ca ≠ b := Nat.ne_of_lt lt_ca_b
  have le_b : n0 ≤ b := by rw [g27]; exact Z0
  have sz_b : h0.size ≤ b := by rw [g27]; exact K0.1
  replace Jc := Jc.ext E27
  replace Z0 := Nat.le_trans Z0 E27.1
  replace K0 := K0.ext E27
  have J_b : Jar Z h27 b .byte 2 (fun _ => defaultValue .byte) := Jar.new A27 (by decide)
  refine GoOn.step st27 ?_
  show GoOn p e below _ (T27.setTop (mkF m 3 #[.val (.ref ca), .val (.int (0 : Int32)), .val (.int (2 : Int32)), .unset, .unset, .unset] [(.ref b)]))
  refine GoOn.step (fun t₀ k₀ => XS.astoreN X27.here hx rfl (hb hby d44_3) rfl rfl (l' := #[.val (.ref ca), .val (.int (0 : Int32)), .val (.int (2 : Int32)), .val (.ref b), .unset, .unset]) rfl k₀) ?_
  show GoOn p e below _ (T27.setTop (mkF m 4 #[.val (.ref ca), .val (.int (0 : Int32)), .val (.int (2 : Int32)), .val (.ref b), .unset, .unset] []))
  refine GoOn.step (fun t₀ k₀ => XS.aloadN X27.here hx rfl (hb hby d44_4) rfl rfl k₀) ?_
  show GoOn p e below _ (T27.setTop (mkF m 5 #[.val (.ref ca), .val (.int (0 : Int32)), .val (.int (2 : Int32)), .val (.ref b), .unset, .unset] [(.ref ca)]))
  refine GoOn.step (fun t₀ k₀ => XS.iloadN X27.here hx rfl (hb hby d44_5) rfl k₀) ?_
  show GoOn p e below _ (T27.setTop (mkF m 6 #[.val (.ref ca), .val (.int (0 : Int32)), .val (.int (2 : Int32)), .val (.ref b), .unset, .unset] [(.int (0 : Int32)), (.ref ca)]))
  refine GoOn.step (fun t₀ k₀ => XS.aloadN X27.here hx rfl (hb hby d44_6) rfl rfl k₀) ?_
  show GoOn p e below _ (T27.setTop (mkF m 7 #[.val (.ref ca), .val (.int (0 : Int32)), .val (.int (2 : Int32)), .val (.ref b), .unset, .unset] [(.ref b), (.int (0 : Int32)), (.ref ca)]))
  refine GoOn.step (fun t₀ k₀ => XS.iconst X27.here hx rfl (hb hby d44_7) k₀) ?_
  show GoOn p e below _ (T27.setTop (mkF m 8 #[.val (.ref ca), .val (.int (0 : Int32)), .val (.int (2 : Int32)), .val (.ref b), .unset, .unset] [(.int (0 : Int32)), (.ref b), (.int (0 : Int32)), (.ref ca)]))
  refine GoOn.step (fun t₀ k₀ => XS.iloadN X27.here hx rfl (hb hby d44_8) rfl k₀) ?_
  show GoOn p e below _ (T27.setTop (mkF m 9 #[.val (.ref ca), .val (.int (0 : Int32)), .val (.int (2 : Int32)), .val (.ref b), .unset, .unset] [(.int (2 : Int32)), (.int (0 : Int32)), (.ref b), (.int (0 : Int32)), (.ref ca)]))
  obtain ⟨_, T28, L28, X28, hQ28, st28⟩ := kCallS X27 hx hZ (argsL := [(.ref ca), (.int (0 : Int32)), (.ref b), (.int (0 : Int32)), (.int (2 : Int32))]) (rest := []) (c_c5 l Z a0 hw ca b g _ h27 n0 Z0 Jc Cg J_b le_b ne_ca_b) hown (hw _ (List.mem_of_getElem? (i := 271) rfl)) (hw _ (List.mem_of_getElem? (i := 272) rfl)) (hw _ (List.mem_of_getElem? (i := 269) rfl)) (hw _ (List.mem_of_getElem? (i := 273) rfl)) (by decide) e27 (g := (mkF m 9 #[.val (.ref ca), .val (.int (0 : Int32)), .val (.int (2 : Int32)), .val (.ref b), .unset, .unset] [(.int (2 : Int32)), (.int (0 : Int32)), (.ref b), (.int (0 : Int32)), (.ref ca)])) rfl (by rw [hml]; rfl) (lenOf pd_5 rfl) rfl (W := 0) (by show 2 * 0 + _ ≤ _; exact Nat.le_of_eq rfl) (hb hby d44_9) (by decide) (by decide) (by decide) (by decide)
  obtain ⟨rfl, N28, K28, Jb⟩ := hQ28
  replace N0 := Fr.app N0 N28
  replace K0 := K0.trans K28 (allS (Or.inr sz_b) all0)
  refine GoOn.step st28 ?_
  show GoOn p e below _ (T28.setTop (mkF m 12 #[.val (.ref ca), .val (.int (0 : Int32)), .val (.int (2 : Int32)), .val (.ref b), .unset, .unset] [(.int (2 : Int32))]))
  refine GoOn.step (fun t₀ k₀ => XS.istore X28.here hx rfl (hb hby d44_12) rfl (l' := #[.val (.ref ca), .val (.int (0 : Int32)), .val (.int (2 : Int32)), .val (.ref b), .val (.int (2 : Int32)), .unset]) rfl k₀) ?_
  show GoOn p e below _ (T28.setTop (mkF m 14 #[.val (.ref ca), .val (.int (0 : Int32)), .val (.int (2 : Int32)), .val (.ref b), .val (.int (2 : Int32)), .unset] []))
  refine GoOn.step (fun t₀ k₀ => XS.iload X28.here hx rfl (hb hby d44_14) rfl k₀) ?_
  show GoOn p e below _ (T28.setTop (mkF m 16 #[.val (.ref ca), .val (.int (0 : Int32)), .val (.int (2 : Int32)), .val (.ref b), .val (.int (2 : Int32)), .unset] [(.int (2 : Int32))]))
  refine GoOn.step (fun t₀ k₀ => XS.iloadN X28.here hx rfl (hb hby d44_16) rfl k₀) ?_
  show GoOn p e below _ (T28.setTop (mkF m 17 #[.val (.ref ca), .val (.int (0 : Int32)), .val (.int (2 : Int32)), .val (.ref b), .val (.int (2 : Int32)), .unset] [(.int (2 : Int32)), (.int (2 : Int32))]))
  have hf29 : (2 : Int32) = (2 : Int32) := rfl
  refine GoOn.step (fun t₀ k₀ => XS.icmpYes X28.here hx rfl (pc0 := 17) (pc' := 57) rfl (hb hby d44_17) rfl (teq hf29).1 (by decide) (by decide) k₀) ?_
  show GoOn p e below _ (T28.setTop (mkF m 57 #[.val (.ref ca), .val (.int (0 : Int32)), .val (.int (2 : Int32)), .val (.ref b), .val (.int (2 : Int32)), .unset] []))
  refine GoOn.step (fun t₀ k₀ => XS.aloadN X28.here hx rfl (hb hby d44_57) rfl rfl k₀) ?_
  show GoOn p e below _ (T28.setTop (mkF m 58 #[.val (.ref ca), .val (.int (0 : Int32)), .val (.int (2 : Int32)), .val (.ref b), .val (.int (2 : Int32)), .unset] [(.ref b)]))
  exact GoOn.retR X28 hx hrt rfl hlk rfl (hb hby d44_58) (by decide) (by decide) ⟨b, rfl, N0, K0, sz_b, Jb⟩
theorem ef_c_cf (m : MethodId) (x0 : Addr) (x1 : Int32) : entryFrame m #[(.ref x0), (.int x1)] 2 = mkF m 0 #[.val (.ref x0), .val (.int x1)] [] := by first | (simp [entryFrame, mkF, argsToLocals, Value.category]; done) | rfl
set_option maxRecDepth 65536 in
set_option maxHeartbeats 40000000 in
theorem c_cf (l : Launch) (Z : State) (a0 : Array Value) (hw : ∀ d ∈ tables_1, d.before a0 Z = true) (b : Addr) (N : Nat) (f : Nat → Value) (k : Int32) (h0 : Heap) (Jb : Jar Z h0 b .byte N f) :
    Con l Z (⟨"java/lang/StringUTF16", "coderFromArrayLen", "([BI)B"⟩ : MethodName) jdk_52_method_15_code 2 (some .byte) ({ frames := 0, cells := 0, slots := 0, locals := 0 } : Room) #[(.ref b), (.int k)] h0 (PQ (some (.int ((((k - N.toInt32).toUInt32 >>> ((31 : Int32) &&& 31).toUInt32).toInt32).toInt8.toInt32))) h0) := by
  refine Con.intro (plainFor_of_name pn_3) ?_
  intro p e s m below meth c s₁ hx hby hml hrt hlk hZ hown hnm X0 e0
  replace hown : s.vm.findClass "java/lang/StringUTF16" = some m.cls := hown
  refine GoOn.cast (ef_c_cf m b k) ?_
  show GoOn p e below _ (s₁.setTop (mkF m 0 #[.val (.ref b), .val (.int k)] []))
  refine GoOn.step (fun t₀ k₀ => XS.iloadN X0.here hx rfl (hb hby d46_0) rfl k₀) ?_
  show GoOn p e below _ (s₁.setTop (mkF m 1 #[.val (.ref b), .val (.int k)] [(.int k)]))
  refine GoOn.step (fun t₀ k₀ => XS.aloadN X0.here hx rfl (hb hby d46_1) rfl rfl k₀) ?_
  show GoOn p e below _ (s₁.setTop (mkF m 2 #[.val (.ref b), .val (.int k)] [(.ref b), (.int k)]))
  refine GoOn.step (fun t₀ k₀ => kLen X0 hx hZ e0 Jb (z := N.toInt32) rfl (g := (mkF m 2 #[.val (.ref b), .val (.int k)] [(.ref b), (.int k)])) rfl rfl (hb hby d46_2) t₀ k₀) ?_
  show GoOn p e below _ (s₁.setTop (mkF m 3 #[.val (.ref b), .val (.int k)] [(.int N.toInt32), (.int k)]))
  refine GoOn.step (fun t₀ k₀ => XS.isub X0.here hx rfl (hb hby d46_3) rfl k₀) ?_
  show GoOn p e below _ (s₁.setTop (mkF m 4 #[.val (.ref b), .val (.int k)] [(.int (k - N.toInt32))]))
  refine GoOn.step (fun t₀ k₀ => XS.bipush X0.here hx rfl (hb hby d46_4) k₀) ?_
  show GoOn p e below _ (s₁.setTop (mkF m 6 #[.val (.ref b), .val (.int k)] [(.int (31 : Int32)), (.int (k - N.toInt32))]))
  refine GoOn.step (fun t₀ k₀ => XS.iushr X0.here hx rfl (hb hby d46_6) rfl k₀) ?_
  show GoOn p e below _ (s₁.setTop (mkF m 7 #[.val (.ref b), .val (.int k)] [(.int (((k - N.toInt32).toUInt32 >>> ((31 : Int32) &&& 31).toUInt32).toInt32))]))
  refine GoOn.step (fun t₀ k₀ => XS.i2b X0.here hx rfl (hb hby d46_7) rfl k₀) ?_
  show GoOn p e below _ (s₁.setTop (mkF m 8 #[.val (.ref b), .val (.int k)] [(.int ((((k - N.toInt32).toUInt32 >>> ((31 : Int32) &&& 31).toUInt32).toInt32).toInt8.toInt32))]))
  exact GoOn.retN X0 hx hrt hlk (by simp) (hb hby d46_8) (by decide) (by decide) (by first | exact ⟨congrArg (fun z => some (Value.int z)) (fixB _), rfl, rfl⟩ | (rw [e0]; exact ⟨congrArg (fun z => some (Value.int z)) (fixB _), rfl, rfl⟩))
theorem ef_c_vd2 (m : MethodId) (x0 : Addr) (x1 : Addr) (x2 : Int32) (x3 : Int32) : entryFrame m #[(.ref x0), (.ref x1), (.int x2), (.int x3), .null] 6 = mkF m 0 #[.val (.ref x0), .val (.ref x1), .val (.int x2), .val (.int x3), .val .null, .unset] [] := by first | (simp [entryFrame, mkF, argsToLocals, Value.category]; done) | rfl
set_option maxRecDepth 65536 in
set_option maxHeartbeats 40000000 in
theorem c_vd2 (l : Launch) (Z : State) (a0 : Array Value) (hw : ∀ d ∈ tables_1, d.before a0 Z = true) (a ca : Addr) (g : Nat → Int32) (cs : Int32) (fv : Value) (h0 : Heap) (n0 : Nat) (Z0 : n0 ≤ h0.size) (O : Old Z n0 h0) (SS : Stt Z cs fv) (Ex : Exa Z h0 a "java/lang/String") (Fv : Fld Z h0 a "java/lang/String" "value" "[B" .null) (Fc : Fld Z h0 a "java/lang/String" "coder" "B" (.int (0 : Int32))) (ga : n0 ≤ a) (Jc : Jar Z h0 ca .char 2 (fun i => .int (g i))) (Cg : Ch g) :
    Con l Z (⟨"java/lang/String", "<init>", "([CIILjava/lang/Void;)V"⟩ : MethodName) jdk_42_method_149_code 6 none ({ frames := 2, cells := 1, slots := 2, locals := 40 } : Room) #[(.ref a), (.ref ca), (.int (0 : Int32)), (.int (2 : Int32)), .null] h0 (StQ Z a 2 (fun i => laB (g i)) h0 n0) := by
  refine Con.intro (plainFor_of_name pn_0) ?_
  intro p e s m below meth c s₁ hx hby hml hrt hlk hZ hown hnm X0 e0
  replace hown : s.vm.findClass "java/lang/String" = some m.cls := hown
  have N0 := Fr.nil n0
  refine GoOn.cast (ef_c_vd2 m a ca (0 : Int32) (2 : Int32)) ?_
  show GoOn p e below _ (s₁.setTop (mkF m 0 #[.val (.ref a), .val (.ref ca), .val (.int (0 : Int32)), .val (.int (2 : Int32)), .val .null, .unset] []))
  have K0 : Keep h0 h0 [a] := Keep.refl _ _
  obtain ⟨hcs, hfv, S1, S2⟩ := id SS
  replace S1 := S1.ext O.2
  replace S2 := S2.ext O.2
  refine GoOn.step (fun t₀ k₀ => XS.aloadN X0.here hx rfl (hb hby d4_0) rfl rfl k₀) ?_
  show GoOn p e below _ (s₁.setTop (mkF m 1 #[.val (.ref a), .val (.ref ca), .val (.int (0 : Int32)), .val (.int (2 : Int32)), .val .null, .unset] [(.ref a)]))
  obtain ⟨T30, X30, e30, st30⟩ := initO X0 hx hZ hown (hw _ (List.mem_of_getElem? (i := 19) rfl)) (hw _ (List.mem_of_getElem? (i := 20) rfl)) (hw _ (List.mem_of_getElem? (i := 21) rfl)) e0 (g := (mkF m 1 #[.val (.ref a), .val (.ref ca), .val (.int (0 : Int32)), .val (.int (2 : Int32)), .val .null, .unset] [(.ref a)])) rfl (by rw [hml]; rfl) rfl (hb hby d4_1) (by decide) (W := 0) (by show 2 * 0 + _ ≤ _; exact Nat.le_of_eq rfl) (by decide)
  refine GoOn.step st30 ?_
  show GoOn p e below _ (T30.setTop (mkF m 4 #[.val (.ref a), .val (.ref ca), .val (.int (0 : Int32)), .val (.int (2 : Int32)), .val .null, .unset] []))
  refine GoOn.step (fun t₀ k₀ => XS.iloadN X30.here hx rfl (hb hby d4_4) rfl k₀) ?_
  show GoOn p e below _ (T30.setTop (mkF m 5 #[.val (.ref a), .val (.ref ca), .val (.int (0 : Int32)), .val (.int (2 : Int32)), .val .null, .unset] [(.int (2 : Int32))]))
  have hf31 : ¬ ((2 : Int32) = (0 : Int32)) := (by decide)
  refine GoOn.step (fun t₀ k₀ => XS.ifYes X30.here hx rfl (pc0 := 5) (pc' := 27) rfl (hb hby d4_5) rfl ((if0 _ _).trans (feq hf31).2) (by decide) (by decide) k₀) ?_
  show GoOn p e below _ (T30.setTop (mkF m 27 #[.val (.ref a), .val (.ref ca), .val (.int (0 : Int32)), .val (.int (2 : Int32)), .val .null, .unset] []))
  obtain ⟨T32, X32, e32, st32⟩ := getS2 X30 hx hZ hown (host := "") (Or.inl (hw _ (List.mem_of_getElem? (i := 132) rfl))) Via.refl e30 S1 (g := (mkF m 27 #[.val (.ref a), .val (.ref ca), .val (.int (0 : Int32)), .val (.int (2 : Int32)), .val .null, .unset] [])) rfl (hb hby d4_27)
  refine GoOn.step st32 ?_
  show GoOn p e below _ (T32.setTop (mkF m 30 #[.val (.ref a), .val (.ref ca), .val (.int (0 : Int32)), .val (.int (2 : Int32)), .val .null, .unset] [(.int cs)]))
  have hf33 : ¬ (cs = (0 : Int32)) := hcs
  refine GoOn.step (fun t₀ k₀ => XS.ifNo X32.here hx rfl (hb hby d4_30) rfl ((if0 _ _).trans (feq hf33).1) k₀) ?_
  show GoOn p e below _ (T32.setTop (mkF m 33 #[.val (.ref a), .val (.ref ca), .val (.int (0 : Int32)), .val (.int (2 : Int32)), .val .null, .unset] []))
  refine GoOn.step (fun t₀ k₀ => XS.aloadN X32.here hx rfl (hb hby d4_33) rfl rfl k₀) ?_
  show GoOn p e below _ (T32.setTop (mkF m 34 #[.val (.ref a), .val (.ref ca), .val (.int (0 : Int32)), .val (.int (2 : Int32)), .val .null, .unset] [(.ref ca)]))
  refine GoOn.step (fun t₀ k₀ => XS.iloadN X32.here hx rfl (hb hby d4_34) rfl k₀) ?_
  show GoOn p e below _ (T32.setTop (mkF m 35 #[.val (.ref a), .val (.ref ca), .val (.int (0 : Int32)), .val (.int (2 : Int32)), .val .null, .unset] [(.int (0 : Int32)), (.ref ca)]))
  refine GoOn.step (fun t₀ k₀ => XS.iloadN X32.here hx rfl (hb hby d4_35) rfl k₀) ?_
  show GoOn p e below _ (T32.setTop (mkF m 36 #[.val (.ref a), .val (.ref ca), .val (.int (0 : Int32)), .val (.int (2 : Int32)), .val .null, .unset] [(.int (2 : Int32)), (.int (0 : Int32)), (.ref ca)]))
  obtain ⟨_, T34, L34, X34, hQ34, st34⟩ := kCallS X32 hx hZ (argsL := [(.ref ca), (.int (0 : Int32)), (.int (2 : Int32))]) (rest := []) (c_c3 l Z a0 hw ca g h0 n0 Z0 Jc Cg) hown (hw _ (List.mem_of_getElem? (i := 267) rfl)) (hw _ (List.mem_of_getElem? (i := 268) rfl)) (hw _ (List.mem_of_getElem? (i := 269) rfl)) (hw _ (List.mem_of_getElem? (i := 270) rfl)) (by decide) e32 (g := (mkF m 36 #[.val (.ref a), .val (.ref ca), .val (.int (0 : Int32)), .val (.int (2 : Int32)), .val .null, .unset] [(.int (2 : Int32)), (.int (0 : Int32)), (.ref ca)])) rfl (by rw [hml]; rfl) (lenOf pd_6 rfl) rfl (W := 0) (by show 2 * 0 + _ ≤ _; exact Nat.le_of_eq rfl) (hb hby d4_36) (by decide) (by decide) (by decide) (by decide)
  obtain ⟨b, rfl, N34, K34, sb, Jb⟩ := hQ34
  replace N0 := Fr.app N0 N34
  have ne_a_b : a ≠ b := Nat.ne_of_lt (Nat.lt_of_lt_of_le Ex.lt sb)
  replace K0 := K0.trans K34 all0
  replace Ex := Ex.keep K34
  replace Fv := Fv.keep K34 nin0
  replace Fc := Fc.keep K34 nin0
  replace Z0 := Nat.le_trans Z0 K34.1
  refine GoOn.step st34 ?_
  show GoOn p e below _ (T34.setTop (mkF m 39 #[.val (.ref a), .val (.ref ca), .val (.int (0 : Int32)), .val (.int (2 : Int32)), .val .null, .unset] [(.ref b)]))
  refine GoOn.step (fun t₀ k₀ => XS.astore X34.here hx rfl (hb hby d4_39) rfl rfl (l' := #[.val (.ref a), .val (.ref ca), .val (.int (0 : Int32)), .val (.int (2 : Int32)), .val .null, .val (.ref b)]) rfl k₀) ?_
  show GoOn p e below _ (T34.setTop (mkF m 41 #[.val (.ref a), .val (.ref ca), .val (.int (0 : Int32)), .val (.int (2 : Int32)), .val .null, .val (.ref b)] []))
  refine GoOn.step (fun t₀ k₀ => XS.aloadN X34.here hx rfl (hb hby d4_41) rfl rfl k₀) ?_
  show GoOn p e below _ (T34.setTop (mkF m 42 #[.val (.ref a), .val (.ref ca), .val (.int (0 : Int32)), .val (.int (2 : Int32)), .val .null, .val (.ref b)] [(.ref a)]))
  refine GoOn.step (fun t₀ k₀ => XS.aload X34.here hx rfl (hb hby d4_42) rfl rfl k₀) ?_
  show GoOn p e below _ (T34.setTop (mkF m 44 #[.val (.ref a), .val (.ref ca), .val (.int (0 : Int32)), .val (.int (2 : Int32)), .val .null, .val (.ref b)] [(.ref b), (.ref a)]))
  refine GoOn.step (fun t₀ k₀ => XS.iloadN X34.here hx rfl (hb hby d4_44) rfl k₀) ?_
  show GoOn p e below _ (T34.setTop (mkF m 45 #[.val (.ref a), .val (.ref ca), .val (.int (0 : Int32)), .val (.int (2 : Int32)), .val .null, .val (.ref b)] [(.int (2 : Int32)), (.ref b), (.ref a)]))
  obtain ⟨_, T35, L35, X35, hQ35, st35⟩ := kCallS X34 hx hZ (argsL := [(.ref b), (.int (2 : Int32))]) (rest := [(.ref a)]) (c_cf l Z a0 hw b 2 _ (2 : Int32) T34.heap Jb) hown (hw _ (List.mem_of_getElem? (i := 274) rfl)) (hw _ (List.mem_of_getElem? (i := 275) rfl)) (hw _ (List.mem_of_getElem? (i := 269) rfl)) (hw _ (List.mem_of_getElem? (i := 276) rfl)) (by decide) rfl (g := (mkF m 45 #[.val (.ref a), .val (.ref ca), .val (.int (0 : Int32)), .val (.int (2 : Int32)), .val .null, .val (.ref b)] [(.int (2 : Int32)), (.ref b), (.ref a)])) rfl (by rw [hml]; rfl) (lenOf pd_7 rfl) rfl (W := 1) (by show 2 * 0 + _ ≤ _; exact Nat.le_of_eq rfl) (hb hby d4_45) (by decide) (by decide) (by decide) (by decide)
  obtain ⟨rfl, rfl, e35⟩ := hQ35
  rw [List.append_nil] at X35
  refine GoOn.step st35 ?_
  show GoOn p e below _ (T35.setTop (mkF m 48 #[.val (.ref a), .val (.ref ca), .val (.int (0 : Int32)), .val (.int (2 : Int32)), .val .null, .val (.ref b)] [(.int (((((2 : Int32) - (Nat.toInt32 2)).toUInt32 >>> ((31 : Int32) &&& 31).toUInt32).toInt32).toInt8.toInt32)), (.ref a)]))
  rw [show (((((2 : Int32) - (Nat.toInt32 2)).toUInt32 >>> ((31 : Int32) &&& 31).toUInt32).toInt32).toInt8.toInt32) = (0 : Int32) from (by decide)]
  obtain ⟨T36, h36, X36, e36, W36, st36⟩ := putFN X35 hx hZ hown (hw _ (List.mem_of_getElem? (i := 29) rfl)) Via.refl e35 Fc Ex (Or.inr ⟨(hw _ (List.mem_of_getElem? (i := 25) rfl)), rfl, hnm⟩) (hw _ (List.mem_of_getElem? (i := 9) rfl)) (ty := .byte) (v' := .int (nar .byte (0 : Int32))) (by decide) rfl (fits_nar_byte _) (g := (mkF m 48 #[.val (.ref a), .val (.ref ca), .val (.int (0 : Int32)), .val (.int (2 : Int32)), .val .null, .val (.ref b)] [(.int (0 : Int32)), (.ref a)])) rfl rfl (hb hby d4_48)
  replace N0 := Fr.snoc X36 N0 ga
  replace Ex := Ex.wr W36
  replace Fv := Fv.other W36 (Or.inr (slot_ne (Or.inr (hw _ (List.mem_of_getElem? (i := 24) rfl))) (Or.inr (hw _ (List.mem_of_getElem? (i := 25) rfl))) (by decide) (t := (.array .byte)) (t' := .byte) (by decide) (by decide)))
  replace Fc := Fld.same W36 Fc
  replace Jb := Jb.other W36 (Ne.symm ne_a_b)
  replace Z0 := Nat.le_trans Z0 (Nat.le_of_eq W36.size.symm)
  replace K0 := K0.wr W36 (Or.inl (by simp))
  refine GoOn.step st36 ?_
  show GoOn p e below _ (T36.setTop (mkF m 51 #[.val (.ref a), .val (.ref ca), .val (.int (0 : Int32)), .val (.int (2 : Int32)), .val .null, .val (.ref b)] []))
  refine GoOn.step (fun t₀ k₀ => XS.aloadN X36.here hx rfl (hb hby d4_51) rfl rfl k₀) ?_
  show GoOn p e below _ (T36.setTop (mkF m 52 #[.val (.ref a), .val (.ref ca), .val (.int (0 : Int32)), .val (.int (2 : Int32)), .val .null, .val (.ref b)] [(.ref a)]))
  refine GoOn.step (fun t₀ k₀ => XS.aload X36.here hx rfl (hb hby d4_52) rfl rfl k₀) ?_
  show GoOn p e below _ (T36.setTop (mkF m 54 #[.val (.ref a), .val (.ref ca), .val (.int (0 : Int32)), .val (.int (2 : Int32)), .val .null, .val (.ref b)] [(.ref b), (.ref a)]))
  obtain ⟨T37, h37, X37, e37, W37, st37⟩ := putF X36 hx hZ hown (host := "") (Or.inl (hw _ (List.mem_of_getElem? (i := 28) rfl))) Via.refl e36 Fv Ex (Or.inr ⟨(hw _ (List.mem_of_getElem? (i := 24) rfl)), rfl, hnm⟩) (hw _ (List.mem_of_getElem? (i := 9) rfl)) (ty := (.array .byte)) (by decide) rfl rfl (g := (mkF m 54 #[.val (.ref a), .val (.ref ca), .val (.int (0 : Int32)), .val (.int (2 : Int32)), .val .null, .val (.ref b)] [(.ref b), (.ref a)])) rfl rfl (hb hby d4_54)
  replace N0 := Fr.snoc X37 N0 ga
  replace Ex := Ex.wr W37
  replace Fv := Fld.same W37 Fv
  replace Fc := Fc.other W37 (Or.inr (slot_ne (Or.inr (hw _ (List.mem_of_getElem? (i := 25) rfl))) (Or.inr (hw _ (List.mem_of_getElem? (i := 24) rfl))) (by decide) (t := .byte) (t' := (.array .byte)) (by decide) (by decide)))
  replace Jb := Jb.other W37 (Ne.symm ne_a_b)
  replace Z0 := Nat.le_trans Z0 (Nat.le_of_eq W37.size.symm)
  replace K0 := K0.wr W37 (Or.inl (by simp))
  refine GoOn.step st37 ?_
  show GoOn p e below _ (T37.setTop (mkF m 57 #[.val (.ref a), .val (.ref ca), .val (.int (0 : Int32)), .val (.int (2 : Int32)), .val .null, .val (.ref b)] []))
  exact GoOn.ret0 X37 hx hrt hlk (hb hby d4_57) (by decide) (by decide) (by first | exact ⟨rfl, N0, K0, Ex, b, Fv, Fc, Jb⟩ | (rw [e37]; exact ⟨rfl, N0, K0, Ex, b, Fv, Fc, Jb⟩))
theorem ef_c_in2 (m : MethodId) (x0 : Addr) (x1 : Addr) : entryFrame m #[(.ref x0), (.ref x1)] 2 = mkF m 0 #[.val (.ref x0), .val (.ref x1)] [] := by first | (simp [entryFrame, mkF, argsToLocals, Value.category]; done) | rfl
set_option maxRecDepth 65536 in
set_option maxHeartbeats 40000000 in
theorem c_in2 (l : Launch) (Z : State) (a0 : Array Value) (hw : ∀ d ∈ tables_1, d.before a0 Z = true) (a ca : Addr) (g : Nat → Int32) (cs : Int32) (fv : Value) (h0 : Heap) (n0 : Nat) (Z0 : n0 ≤ h0.size) (O : Old Z n0 h0) (SS : Stt Z cs fv) (Ex : Exa Z h0 a "java/lang/String") (Fv : Fld Z h0 a "java/lang/String" "value" "[B" .null) (Fc : Fld Z h0 a "java/lang/String" "coder" "B" (.int (0 : Int32))) (ga : n0 ≤ a) (Jc : Jar Z h0 ca .char 2 (fun i => .int (g i))) (Cg : Ch g) :
    Con l Z (⟨"java/lang/String", "<init>", "([C)V"⟩ : MethodName) jdk_42_method_3_code 2 none ({ frames := 3, cells := 1, slots := 2, locals := 60 } : Room) #[(.ref a), (.ref ca)] h0 (StQ Z a 2 (fun i => laB (g i)) h0 n0) := by
  refine Con.intro (plainFor_of_name pn_0) ?_
  intro p e s m below meth c s₁ hx hby hml hrt hlk hZ hown hnm X0 e0
  replace hown : s.vm.findClass "java/lang/String" = some m.cls := hown
  have N0 := Fr.nil n0
  refine GoOn.cast (ef_c_in2 m a ca) ?_
  show GoOn p e below _ (s₁.setTop (mkF m 0 #[.val (.ref a), .val (.ref ca)] []))
  have K0 : Keep h0 h0 [a] := Keep.refl _ _
  refine GoOn.step (fun t₀ k₀ => XS.aloadN X0.here hx rfl (hb hby d3_0) rfl rfl k₀) ?_
  show GoOn p e below _ (s₁.setTop (mkF m 1 #[.val (.ref a), .val (.ref ca)] [(.ref a)]))
  refine GoOn.step (fun t₀ k₀ => XS.aloadN X0.here hx rfl (hb hby d3_1) rfl rfl k₀) ?_
  show GoOn p e below _ (s₁.setTop (mkF m 2 #[.val (.ref a), .val (.ref ca)] [(.ref ca), (.ref a)]))
  refine GoOn.step (fun t₀ k₀ => XS.iconst X0.here hx rfl (hb hby d3_2) k₀) ?_
  show GoOn p e below _ (s₁.setTop (mkF m 3 #[.val (.ref a), .val (.ref ca)] [(.int (0 : Int32)), (.ref ca), (.ref a)]))
  refine GoOn.step (fun t₀ k₀ => XS.aloadN X0.here hx rfl (hb hby d3_3) rfl rfl k₀) ?_
  show GoOn p e below _ (s₁.setTop (mkF m 4 #[.val (.ref a), .val (.ref ca)] [(.ref ca), (.int (0 : Int32)), (.ref ca), (.ref a)]))
  refine GoOn.step (fun t₀ k₀ => kLen X0 hx hZ e0 Jc (z := (2 : Int32)) rfl (g := (mkF m 4 #[.val (.ref a), .val (.ref ca)] [(.ref ca), (.int (0 : Int32)), (.ref ca), (.ref a)])) rfl rfl (hb hby d3_4) t₀ k₀) ?_
  show GoOn p e below _ (s₁.setTop (mkF m 5 #[.val (.ref a), .val (.ref ca)] [(.int (2 : Int32)), (.int (0 : Int32)), (.ref ca), (.ref a)]))
  refine GoOn.step (fun t₀ k₀ => XS.aconstNull X0.here hx rfl (hb hby d3_5) k₀) ?_
  show GoOn p e below _ (s₁.setTop (mkF m 6 #[.val (.ref a), .val (.ref ca)] [.null, (.int (2 : Int32)), (.int (0 : Int32)), (.ref ca), (.ref a)]))
  obtain ⟨_, T38, L38, X38, hQ38, st38⟩ := kCallI X0 hx hZ (a := a) (argsL := [(.ref ca), (.int (0 : Int32)), (.int (2 : Int32)), .null]) (rest := []) (c_vd2 l Z a0 hw a ca g cs fv h0 n0 Z0 O SS Ex Fv Fc ga Jc Cg) rfl hown (hw _ (List.mem_of_getElem? (i := 15) rfl)) (hw _ (List.mem_of_getElem? (i := 16) rfl)) (hw _ (List.mem_of_getElem? (i := 10) rfl)) (hw _ (List.mem_of_getElem? (i := 18) rfl)) (by decide) e0 (g := (mkF m 6 #[.val (.ref a), .val (.ref ca)] [.null, (.int (2 : Int32)), (.int (0 : Int32)), (.ref ca), (.ref a)])) rfl (by rw [hml]; rfl) (lenOf pd_8 rfl) rfl (W := 0) (by show 2 * 0 + _ ≤ _; exact Nat.le_of_eq rfl) (hb hby d3_6) (by decide) (by decide) (by decide) (by decide)
  obtain ⟨rfl, N38, K38, SO⟩ := hQ38
  replace N0 := Fr.app N0 N38
  replace K0 := K0.trans K38 (allS (Or.inl (by simp)) all0)
  refine GoOn.step st38 ?_
  show GoOn p e below _ (T38.setTop (mkF m 9 #[.val (.ref a), .val (.ref ca)] []))
  exact GoOn.ret0 X38 hx hrt hlk (hb hby d3_9) (by decide) (by decide) ⟨rfl, N0, K0, SO⟩
theorem ef_c_can (m : MethodId) (x0 : Int32) : entryFrame m #[(.int x0)] 1 = mkF m 0 #[.val (.int x0)] [] := by first | (simp [entryFrame, mkF, argsToLocals, Value.category]; done) | rfl
set_option maxRecDepth 65536 in
set_option maxHeartbeats 40000000 in
theorem c_can (l : Launch) (Z : State) (a0 : Array Value) (hw : ∀ d ∈ tables_1, d.before a0 Z = true) (v : Int32) (h0 : Heap) (hv : 0 ≤ v.toInt ∧ v.toInt ≤ 255) :
    Con l Z (⟨"java/lang/StringLatin1", "canEncode", "(C)Z"⟩ : MethodName) jdk_43_method_3_code 1 (some .boolean) ({ frames := 0, cells := 0, slots := 0, locals := 0 } : Room) #[(.int v)] h0 (PQ (some (.int (1 : Int32))) h0) := by
  refine Con.intro (plainFor_of_name pn_2) ?_
  intro p e s m below meth c s₁ hx hby hml hrt hlk hZ hown hnm X0 e0
  replace hown : s.vm.findClass "java/lang/StringLatin1" = some m.cls := hown
  refine GoOn.cast (ef_c_can m v) ?_
  show GoOn p e below _ (s₁.setTop (mkF m 0 #[.val (.int v)] []))
  refine GoOn.step (fun t₀ k₀ => XS.iloadN X0.here hx rfl (hb hby d48_0) rfl k₀) ?_
  show GoOn p e below _ (s₁.setTop (mkF m 1 #[.val (.int v)] [(.int v)]))
  refine GoOn.step (fun t₀ k₀ => XS.sipush X0.here hx rfl (hb hby d48_1) k₀) ?_
  show GoOn p e below _ (s₁.setTop (mkF m 4 #[.val (.int v)] [(.int (255 : Int32)), (.int v)]))
  have hf39 : ¬ ((255 : Int32) < v) := (n255 hv)
  refine GoOn.step (fun t₀ k₀ => XS.icmpNo X0.here hx rfl (hb hby d48_4) rfl (flt hf39).2.2.1 k₀) ?_
  show GoOn p e below _ (s₁.setTop (mkF m 7 #[.val (.int v)] []))
  refine GoOn.step (fun t₀ k₀ => XS.iconst X0.here hx rfl (hb hby d48_7) k₀) ?_
  show GoOn p e below _ (s₁.setTop (mkF m 8 #[.val (.int v)] [(.int (1 : Int32))]))
  refine GoOn.step (fun t₀ k₀ => XS.goto X0.here hx rfl (pc0 := 8) (pc' := 12) rfl (hb hby d48_8) (by decide) (by decide) k₀) ?_
  show GoOn p e below _ (s₁.setTop (mkF m 12 #[.val (.int v)] [(.int (1 : Int32))]))
  exact GoOn.retN X0 hx hrt hlk (by simp) (hb hby d48_12) (by decide) (by decide) (by first | exact ⟨rfl, rfl, rfl⟩ | (rw [e0]; exact ⟨rfl, rfl, rfl⟩))
theorem ef_c_tob (m : MethodId) (x0 : Int32) : entryFrame m #[(.int x0)] 1 = mkF m 0 #[.val (.int x0)] [] := by first | (simp [entryFrame, mkF, argsToLocals, Value.category]; done) | rfl
set_option maxRecDepth 65536 in
set_option maxHeartbeats 40000000 in
theorem c_tob (l : Launch) (Z : State) (a0 : Array Value) (hw : ∀ d ∈ tables_1, d.before a0 Z = true) (v : Int32) (h0 : Heap) (n0 : Nat) (Z0 : n0 ≤ h0.size)  :
    Con l Z (⟨"java/lang/StringLatin1", "toBytes", "(C)[B"⟩ : MethodName) jdk_43_method_46_code 1 (some (.array .byte)) ({ frames := 0, cells := 1, slots := 1, locals := 0 } : Room) #[(.int v)] h0 (NbQ Z 1 (fun _ => laB v) h0 n0) := by
  refine Con.intro (plainFor_of_name pn_2) ?_
  intro p e s m below meth c s₁ hx hby hml hrt hlk hZ hown hnm X0 e0
  replace hown : s.vm.findClass "java/lang/StringLatin1" = some m.cls := hown
  have N0 := Fr.nil n0
  refine GoOn.cast (ef_c_tob m v) ?_
  show GoOn p e below _ (s₁.setTop (mkF m 0 #[.val (.int v)] []))
  have K0 : Keep h0 h0 [] := Keep.refl _ _
  refine GoOn.step (fun t₀ k₀ => XS.iconst X0.here hx rfl (hb hby d49_0) k₀) ?_
  show GoOn p e below _ (s₁.setTop (mkF m 1 #[.val (.int v)] [(.int (1 : Int32))]))
  obtain ⟨T40, h40, k40, X40, e40, E40, A40, st40⟩ := newP X0 hx hZ (hw _ (List.mem_of_getElem? (i := 23) rfl)) e0 (g := (mkF m 1 #[.val (.int v)] [(.int (1 : Int32))])) rfl (hb hby d49_1) rfl (by decide) (cap := 1) (by decide) (by decide) (by decide) (by decide)
  obtain ⟨b, g40⟩ : ∃ z, z = h0.size := ⟨_, rfl⟩
  rw [← g40] at A40 st40
  have le_b : n0 ≤ b := by rw [g40]; exact Z0
  have sz_b : h0.size ≤ b := by rw [g40]; exact K0.1
  replace Z0 := Nat.le_trans Z0 E40.1
  replace K0 := K0.ext E40
  have J_b : Jar Z h40 b .byte 1 (fun _ => defaultValue .byte) := Jar.new A40 (by decide)
  refine GoOn.step st40 ?_
  show GoOn p e below _ (T40.setTop (mkF m 3 #[.val (.int v)] [(.ref b)]))
  refine GoOn.step (fun t₀ k₀ => XS.dup X40.here hx rfl (hb hby d49_3) rfl rfl k₀) ?_
  show GoOn p e below _ (T40.setTop (mkF m 4 #[.val (.int v)] [(.ref b), (.ref b)]))
  refine GoOn.step (fun t₀ k₀ => XS.iconst X40.here hx rfl (hb hby d49_4) k₀) ?_
  show GoOn p e below _ (T40.setTop (mkF m 5 #[.val (.int v)] [(.int (0 : Int32)), (.ref b), (.ref b)]))
  refine GoOn.step (fun t₀ k₀ => XS.iloadN X40.here hx rfl (hb hby d49_5) rfl k₀) ?_
  show GoOn p e below _ (T40.setTop (mkF m 6 #[.val (.int v)] [(.int v), (.int (0 : Int32)), (.ref b), (.ref b)]))
  refine GoOn.step (fun t₀ k₀ => XS.i2b X40.here hx rfl (hb hby d49_6) rfl k₀) ?_
  show GoOn p e below _ (T40.setTop (mkF m 7 #[.val (.int v)] [(.int (v.toInt8.toInt32)), (.int (0 : Int32)), (.ref b), (.ref b)]))
  obtain ⟨T41, h41, X41, e41, W41, st41⟩ := kStB X40 hx hZ e40 J_b (j := (0 : Int32)) ⟨by decide, by decide⟩ (g := (mkF m 7 #[.val (.int v)] [(.int (v.toInt8.toInt32)), (.int (0 : Int32)), (.ref b), (.ref b)])) rfl rfl (hb hby d49_7)
  replace N0 := Fr.snoc X41 N0 le_b
  replace J_b := J_b.set W41
  replace Z0 := Nat.le_trans Z0 (Nat.le_of_eq W41.size.symm)
  replace K0 := K0.wr W41 (Or.inr sz_b)
  refine GoOn.step st41 ?_
  show GoOn p e below _ (T41.setTop (mkF m 8 #[.val (.int v)] [(.ref b)]))
  exact GoOn.retR X41 hx hrt rfl hlk rfl (hb hby d49_8) (by decide) (by decide) (by first | exact ⟨b, rfl, N0, K0, sz_b, J_b.congr fun i hi => by have e1 : i = 0 := (by omega); subst e1; simp [nc0, fixB, laB]⟩ | (rw [e41]; exact ⟨b, rfl, N0, K0, sz_b, J_b.congr fun i hi => by have e1 : i = 0 := (by omega); subst e1; simp [nc0, fixB, laB]⟩))
theorem ef_c_ibb (m : MethodId) (x0 : Addr) (x1 : Addr) (x2 : Int32) : entryFrame m #[(.ref x0), (.ref x1), (.int x2)] 3 = mkF m 0 #[.val (.ref x0), .val (.ref x1), .val (.int x2)] [] := by first | (simp [entryFrame, mkF, argsToLocals, Value.category]; done) | rfl
set_option maxRecDepth 65536 in
set_option maxHeartbeats 40000000 in
theorem c_ibb (l : Launch) (Z : State) (a0 : Array Value) (hw : ∀ d ∈ tables_1, d.before a0 Z = true) (a b : Addr) (n : Nat) (F : Nat → Int32) (h0 : Heap) (n0 : Nat) (Z0 : n0 ≤ h0.size) (Ex : Exa Z h0 a "java/lang/String") (Fv : Fld Z h0 a "java/lang/String" "value" "[B" .null) (Fc : Fld Z h0 a "java/lang/String" "coder" "B" (.int (0 : Int32))) (ga : n0 ≤ a) (Jb : Jar Z h0 b .byte n (fun i => .int (F i))) (nab : a ≠ b) :
    Con l Z (⟨"java/lang/String", "<init>", "([BB)V"⟩ : MethodName) jdk_42_method_151_code 3 none ({ frames := 1, cells := 0, slots := 0, locals := 12 } : Room) #[(.ref a), (.ref b), (.int (0 : Int32))] h0 (StQ Z a n F h0 n0) := by
  refine Con.intro (plainFor_of_name pn_0) ?_
  intro p e s m below meth c s₁ hx hby hml hrt hlk hZ hown hnm X0 e0
  replace hown : s.vm.findClass "java/lang/String" = some m.cls := hown
  have N0 := Fr.nil n0
  refine GoOn.cast (ef_c_ibb m a b (0 : Int32)) ?_
  show GoOn p e below _ (s₁.setTop (mkF m 0 #[.val (.ref a), .val (.ref b), .val (.int (0 : Int32))] []))
  have K0 : Keep h0 h0 [a] := Keep.refl _ _
  refine GoOn.step (fun t₀ k₀ => XS.aloadN X0.here hx rfl (hb hby d50_0) rfl rfl k₀) ?_
  show GoOn p e below _ (s₁.setTop (mkF m 1 #[.val (.ref a), .val (.ref b), .val (.int (0 : Int32))] [(.ref a)]))
  obtain ⟨T42, X42, e42, st42⟩ := initO X0 hx hZ hown (hw _ (List.mem_of_getElem? (i := 19) rfl)) (hw _ (List.mem_of_getElem? (i := 20) rfl)) (hw _ (List.mem_of_getElem? (i := 21) rfl)) e0 (g := (mkF m 1 #[.val (.ref a), .val (.ref b), .val (.int (0 : Int32))] [(.ref a)])) rfl (by rw [hml]; rfl) rfl (hb hby d50_1) (by decide) (W := 0) (by show 2 * 0 + _ ≤ _; exact Nat.le_of_eq rfl) (by decide)
  refine GoOn.step st42 ?_
  show GoOn p e below _ (T42.setTop (mkF m 4 #[.val (.ref a), .val (.ref b), .val (.int (0 : Int32))] []))
  refine GoOn.step (fun t₀ k₀ => XS.aloadN X42.here hx rfl (hb hby d50_4) rfl rfl k₀) ?_
  show GoOn p e below _ (T42.setTop (mkF m 5 #[.val (.ref a), .val (.ref b), .val (.int (0 : Int32))] [(.ref a)]))
  refine GoOn.step (fun t₀ k₀ => XS.aloadN X42.here hx rfl (hb hby d50_5) rfl rfl k₀) ?_
  show GoOn p e below _ (T42.setTop (mkF m 6 #[.val (.ref a), .val (.ref b), .val (.int (0 : Int32))] [(.ref b), (.ref a)]))
  obtain ⟨T43, h43, X43, e43, W43, st43⟩ := putF X42 hx hZ hown (host := "") (Or.inl (hw _ (List.mem_of_getElem? (i := 28) rfl))) Via.refl e42 Fv Ex (Or.inr ⟨(hw _ (List.mem_of_getElem? (i := 24) rfl)), rfl, hnm⟩) (hw _ (List.mem_of_getElem? (i := 9) rfl)) (ty := (.array .byte)) (by decide) rfl rfl (g := (mkF m 6 #[.val (.ref a), .val (.ref b), .val (.int (0 : Int32))] [(.ref b), (.ref a)])) rfl rfl (hb hby d50_6)
  replace N0 := Fr.snoc X43 N0 ga
  replace Ex := Ex.wr W43
  replace Fv := Fld.same W43 Fv
  replace Fc := Fc.other W43 (Or.inr (slot_ne (Or.inr (hw _ (List.mem_of_getElem? (i := 25) rfl))) (Or.inr (hw _ (List.mem_of_getElem? (i := 24) rfl))) (by decide) (t := .byte) (t' := (.array .byte)) (by decide) (by decide)))
  replace Jb := Jb.other W43 (Ne.symm nab)
  replace Z0 := Nat.le_trans Z0 (Nat.le_of_eq W43.size.symm)
  replace K0 := K0.wr W43 (Or.inl (by simp))
  refine GoOn.step st43 ?_
  show GoOn p e below _ (T43.setTop (mkF m 9 #[.val (.ref a), .val (.ref b), .val (.int (0 : Int32))] []))
  refine GoOn.step (fun t₀ k₀ => XS.aloadN X43.here hx rfl (hb hby d50_9) rfl rfl k₀) ?_
  show GoOn p e below _ (T43.setTop (mkF m 10 #[.val (.ref a), .val (.ref b), .val (.int (0 : Int32))] [(.ref a)]))
  refine GoOn.step (fun t₀ k₀ => XS.iloadN X43.here hx rfl (hb hby d50_10) rfl k₀) ?_
  show GoOn p e below _ (T43.setTop (mkF m 11 #[.val (.ref a), .val (.ref b), .val (.int (0 : Int32))] [(.int (0 : Int32)), (.ref a)]))
  obtain ⟨T44, h44, X44, e44, W44, st44⟩ := putFN X43 hx hZ hown (hw _ (List.mem_of_getElem? (i := 29) rfl)) Via.refl e43 Fc Ex (Or.inr ⟨(hw _ (List.mem_of_getElem? (i := 25) rfl)), rfl, hnm⟩) (hw _ (List.mem_of_getElem? (i := 9) rfl)) (ty := .byte) (v' := .int (nar .byte (0 : Int32))) (by decide) rfl (fits_nar_byte _) (g := (mkF m 11 #[.val (.ref a), .val (.ref b), .val (.int (0 : Int32))] [(.int (0 : Int32)), (.ref a)])) rfl rfl (hb hby d50_11)
  replace N0 := Fr.snoc X44 N0 ga
  replace Ex := Ex.wr W44
  replace Fv := Fv.other W44 (Or.inr (slot_ne (Or.inr (hw _ (List.mem_of_getElem? (i := 24) rfl))) (Or.inr (hw _ (List.mem_of_getElem? (i := 25) rfl))) (by decide) (t := (.array .byte)) (t' := .byte) (by decide) (by decide)))
  replace Fc := Fld.same W44 Fc
  replace Jb := Jb.other W44 (Ne.symm nab)
  replace Z0 := Nat.le_trans Z0 (Nat.le_of_eq W44.size.symm)
  replace K0 := K0.wr W44 (Or.inl (by simp))
  refine GoOn.step st44 ?_
  show GoOn p e below _ (T44.setTop (mkF m 14 #[.val (.ref a), .val (.ref b), .val (.int (0 : Int32))] []))
  exact GoOn.ret0 X44 hx hrt hlk (hb hby d50_14) (by decide) (by decide) (by first | exact ⟨rfl, N0, K0, Ex, b, Fv, Fc, Jb⟩ | (rw [e44]; exact ⟨rfl, N0, K0, Ex, b, Fv, Fc, Jb⟩))
theorem ef_c_vo (m : MethodId) (x0 : Int32) : entryFrame m #[(.int x0)] 1 = mkF m 0 #[.val (.int x0)] [] := by first | (simp [entryFrame, mkF, argsToLocals, Value.category]; done) | rfl
set_option maxRecDepth 65536 in
set_option maxHeartbeats 40000000 in
theorem c_vo (l : Launch) (Z : State) (a0 : Array Value) (hw : ∀ d ∈ tables_1, d.before a0 Z = true) (v : Int32) (cs : Int32) (fv : Value) (h0 : Heap) (n0 : Nat) (Z0 : n0 ≤ h0.size) (O : Old Z n0 h0) (SS : Stt Z cs fv) (hv : 0 ≤ v.toInt ∧ v.toInt ≤ 255) :
    Con l Z (⟨"java/lang/String", "valueOf", "(C)Ljava/lang/String;"⟩ : MethodName) jdk_42_method_139_code 1 (some (.object "java/lang/String")) ({ frames := 2, cells := 2, slots := 5, locals := 30 } : Room) #[(.int v)] h0 (TxQ Z 1 (fun _ => laB v) h0 n0) := by
  refine Con.intro (plainFor_of_name pn_0) ?_
  intro p e s m below meth c s₁ hx hby hml hrt hlk hZ hown hnm X0 e0
  replace hown : s.vm.findClass "java/lang/String" = some m.cls := hown
  have N0 := Fr.nil n0
  refine GoOn.cast (ef_c_vo m v) ?_
  show GoOn p e below _ (s₁.setTop (mkF m 0 #[.val (.int v)] []))
  obtain ⟨hcs, hfv, S1, S2⟩ := id SS
  replace S1 := S1.ext O.2
  replace S2 := S2.ext O.2
  have K0 : Keep h0 h0 [] := Keep.refl _ _
  obtain ⟨T45, X45, e45, st45⟩ := getS2 X0 hx hZ hown (host := "") (Or.inl (hw _ (List.mem_of_getElem? (i := 132) rfl))) Via.refl e0 S1 (g := (mkF m 0 #[.val (.int v)] [])) rfl (hb hby d47_0)
  refine GoOn.step st45 ?_
  show GoOn p e below _ (T45.setTop (mkF m 3 #[.val (.int v)] [(.int cs)]))
  have hf46 : ¬ (cs = (0 : Int32)) := hcs
  refine GoOn.step (fun t₀ k₀ => XS.ifNo X45.here hx rfl (hb hby d47_3) rfl ((if0 _ _).trans (feq hf46).1) k₀) ?_
  show GoOn p e below _ (T45.setTop (mkF m 6 #[.val (.int v)] []))
  refine GoOn.step (fun t₀ k₀ => XS.iloadN X45.here hx rfl (hb hby d47_6) rfl k₀) ?_
  show GoOn p e below _ (T45.setTop (mkF m 7 #[.val (.int v)] [(.int v)]))
  obtain ⟨_, T47, L47, X47, hQ47, st47⟩ := kCallS X45 hx hZ (argsL := [(.int v)]) (rest := []) (c_can l Z a0 hw v h0 hv) hown (hw _ (List.mem_of_getElem? (i := 280) rfl)) (hw _ (List.mem_of_getElem? (i := 281) rfl)) (hw _ (List.mem_of_getElem? (i := 257) rfl)) (hw _ (List.mem_of_getElem? (i := 282) rfl)) (by decide) e45 (g := (mkF m 7 #[.val (.int v)] [(.int v)])) rfl (by rw [hml]; rfl) (lenOf pd_9 rfl) rfl (W := 0) (by show 2 * 0 + _ ≤ _; exact Nat.le_of_eq rfl) (hb hby d47_7) (by decide) (by decide) (by decide) (by decide)
  obtain ⟨rfl, rfl, e47⟩ := hQ47
  rw [List.append_nil] at X47
  refine GoOn.step st47 ?_
  show GoOn p e below _ (T47.setTop (mkF m 10 #[.val (.int v)] [(.int (1 : Int32))]))
  have hf48 : ¬ ((1 : Int32) = (0 : Int32)) := (by decide)
  refine GoOn.step (fun t₀ k₀ => XS.ifNo X47.here hx rfl (hb hby d47_10) rfl ((if0 _ _).trans (feq hf48).1) k₀) ?_
  show GoOn p e below _ (T47.setTop (mkF m 13 #[.val (.int v)] []))
  obtain ⟨T49, h49, X49, e49, E49, A49, D49, -, st49⟩ := newO X47 hx hZ hown (hw _ (List.mem_of_getElem? (i := 283) rfl)) (hw _ (List.mem_of_getElem? (i := 9) rfl)) (hw _ (List.mem_of_getElem? (i := 10) rfl)) e47 (g := (mkF m 13 #[.val (.int v)] [])) rfl (hb hby d47_13) (by decide) (by decide)
  obtain ⟨so, g49⟩ : ∃ z, z = h0.size := ⟨_, rfl⟩
  rw [← g49] at A49 D49 st49
  have le_so : n0 ≤ so := by rw [g49]; exact Z0
  have sz_so : h0.size ≤ so := by rw [g49]; exact K0.1
  replace Z0 := Nat.le_trans Z0 E49.1
  replace K0 := K0.ext E49
  have Ex_so : Exa Z h49 so "java/lang/String" := A49
  have F_value_so : Fld Z h49 so "java/lang/String" "value" "[B" .null := D49 (Or.inr (hw _ (List.mem_of_getElem? (i := 24) rfl))) (ty := (.array .byte)) (by decide)
  have F_coder_so : Fld Z h49 so "java/lang/String" "coder" "B" (.int (0 : Int32)) := D49 (Or.inr (hw _ (List.mem_of_getElem? (i := 25) rfl))) (ty := .byte) (by decide)
  refine GoOn.step st49 ?_
  show GoOn p e below _ (T49.setTop (mkF m 16 #[.val (.int v)] [(.ref so)]))
  refine GoOn.step (fun t₀ k₀ => XS.dup X49.here hx rfl (hb hby d47_16) rfl rfl k₀) ?_
  show GoOn p e below _ (T49.setTop (mkF m 17 #[.val (.int v)] [(.ref so), (.ref so)]))
  refine GoOn.step (fun t₀ k₀ => XS.iloadN X49.here hx rfl (hb hby d47_17) rfl k₀) ?_
  show GoOn p e below _ (T49.setTop (mkF m 18 #[.val (.int v)] [(.int v), (.ref so), (.ref so)]))
  obtain ⟨_, T50, L50, X50, hQ50, st50⟩ := kCallS X49 hx hZ (argsL := [(.int v)]) (rest := [(.ref so), (.ref so)]) (c_tob l Z a0 hw v h49 n0 Z0) hown (hw _ (List.mem_of_getElem? (i := 284) rfl)) (hw _ (List.mem_of_getElem? (i := 285) rfl)) (hw _ (List.mem_of_getElem? (i := 257) rfl)) (hw _ (List.mem_of_getElem? (i := 286) rfl)) (by decide) e49 (g := (mkF m 18 #[.val (.int v)] [(.int v), (.ref so), (.ref so)])) rfl (by rw [hml]; rfl) (lenOf pd_10 rfl) rfl (W := 2) (by show 2 * 0 + _ ≤ _; exact Nat.le_of_eq rfl) (hb hby d47_18) (by decide) (by decide) (by decide) (by decide)
  obtain ⟨b, rfl, N50, K50, sb, Jb⟩ := hQ50
  replace N0 := Fr.app N0 N50
  have nsb : so ≠ b := Nat.ne_of_lt (Nat.lt_of_lt_of_le Ex_so.lt sb)
  replace K0 := K0.trans K50 all0
  replace Ex_so := Ex_so.keep K50
  replace F_value_so := F_value_so.keep K50 nin0
  replace F_coder_so := F_coder_so.keep K50 nin0
  replace Z0 := Nat.le_trans Z0 K50.1
  refine GoOn.step st50 ?_
  show GoOn p e below _ (T50.setTop (mkF m 21 #[.val (.int v)] [(.ref b), (.ref so), (.ref so)]))
  refine GoOn.step (fun t₀ k₀ => XS.iconst X50.here hx rfl (hb hby d47_21) k₀) ?_
  show GoOn p e below _ (T50.setTop (mkF m 22 #[.val (.int v)] [(.int (0 : Int32)), (.ref b), (.ref so), (.ref so)]))
  obtain ⟨_, T51, L51, X51, hQ51, st51⟩ := kCallI X50 hx hZ (a := so) (argsL := [(.ref b), (.int (0 : Int32))]) (rest := [(.ref so)]) (c_ibb l Z a0 hw so b 1 (fun _ => laB v) T50.heap n0 Z0 Ex_so F_value_so F_coder_so le_so Jb nsb) rfl hown (hw _ (List.mem_of_getElem? (i := 287) rfl)) (hw _ (List.mem_of_getElem? (i := 288) rfl)) (hw _ (List.mem_of_getElem? (i := 10) rfl)) (hw _ (List.mem_of_getElem? (i := 289) rfl)) (by decide) rfl (g := (mkF m 22 #[.val (.int v)] [(.int (0 : Int32)), (.ref b), (.ref so), (.ref so)])) rfl (by rw [hml]; rfl) (lenOf pd_11 rfl) rfl (W := 1) (by show 2 * 0 + _ ≤ _; exact Nat.le_of_eq rfl) (hb hby d47_22) (by decide) (by decide) (by decide) (by decide)
  obtain ⟨rfl, N51, K51, SO⟩ := hQ51
  replace N0 := Fr.app N0 N51
  replace K0 := K0.trans K51 (allS (Or.inr sz_so) all0)
  refine GoOn.step st51 ?_
  show GoOn p e below _ (T51.setTop (mkF m 25 #[.val (.int v)] [(.ref so)]))
  exact GoOn.retR X51 hx hrt rfl hlk rfl (hb hby d47_25) (by decide) (by decide) ⟨so, rfl, N0, K0, sz_so, SO⟩
theorem ew_1 {Z : State} {a0 : Array Value} (hw : ∀ d ∈ tables_1, d.before a0 Z = true) : EW Z a0 consts_1 := EW.cons (text := " ") (hw _ (List.mem_of_getElem? (i := 160) rfl)) (by first | decide | simp) (EW.cons (text := "") (hw _ (List.mem_of_getElem? (i := 22) rfl)) (by simp) EW.nil)
theorem ws_1 {Z : State} {a0 : Array Value} (hw : ∀ d ∈ tables_1, d.before a0 Z = true) : ∀ d ∈ Bundle.stringAtoms, d.before a0 Z = true := by
  intro d hd
  simp only [Bundle.stringAtoms, List.mem_cons, List.not_mem_nil, or_false] at hd
  rcases hd with rfl | rfl | rfl | rfl | rfl | rfl | rfl
  · exact (hw _ (List.mem_of_getElem? (i := 10) rfl))
  · exact (hw _ (List.mem_of_getElem? (i := 9) rfl))
  · exact (hw _ (List.mem_of_getElem? (i := 23) rfl))
  · exact (hw _ (List.mem_of_getElem? (i := 24) rfl))
  · exact (hw _ (List.mem_of_getElem? (i := 25) rfl))
  · exact (hw _ (List.mem_of_getElem? (i := 26) rfl))
  · exact (hw _ (List.mem_of_getElem? (i := 27) rfl))
theorem arv0 {Z : State} {h : Heap} {b : Addr} {k : ClassId} {F : Nat → Int32} (A : Arv Z h b k .byte 0 [] (.int 0)) : Jar Z h b .byte 0 (fun i => .int (F i)) := by
  obtain ⟨c, A1, -, A3, -⟩ := A
  exact ⟨c, A1, A3, fun i hi => absurd hi (Nat.not_lt_zero _)⟩
theorem arv1 {Z : State} {h : Heap} {b : Addr} {k : ClassId} (A : Arv Z h b k .byte 1 [.int 32] (.int 0)) : Jar Z h b .byte 1 (fun _ => .int (laB (32 : Int32))) := by
  obtain ⟨c, A1, -, A3, -, A5, -⟩ := A
  have e1 : c.slots.size = 1 := A3
  refine ⟨c, A1, e1, fun i hi => ?_⟩
  have e2 : i = 0 := by omega
  subst e2
  rw [A5 0 (by rw [e1]; exact hi)]
  exact congrArg (fun z => some (Value.int z)) (by decide)
def EmQ (Z : State) (a : Addr) (F : Nat → Int32) (h0 : Heap) (n0 : Nat) : Vm → Vm → Option Value → Heap → List Loc → Prop := fun vm vm' v h L => CHr Z consts_1 vm h0 vm' h ∧ v = none ∧ Fr n0 L ∧ Keep h0 h [a] ∧ Str Z h a 0 F
def DrQ (Z : State) (h0 : Heap) (n0 : Nat) : Vm → Vm → Option Value → Heap → List Loc → Prop := fun vm vm' v h L => CHr Z consts_1 vm h0 vm' h ∧ ∃ a n g, v = some (.ref a) ∧ Fr n0 L ∧ Keep h0 h [] ∧ n ≤ 2 ∧ Ch g ∧ Str Z h a n (fun i => laB (g i))
theorem ef_c_vd0 (m : MethodId) (x0 : Addr) (x1 : Addr) (x2 : Int32) (x3 : Int32) : entryFrame m #[(.ref x0), (.ref x1), (.int x2), (.int x3), .null] 6 = mkF m 0 #[.val (.ref x0), .val (.ref x1), .val (.int x2), .val (.int x3), .val .null, .unset] [] := by first | (simp [entryFrame, mkF, argsToLocals, Value.category]; done) | rfl
set_option maxRecDepth 65536 in
set_option maxHeartbeats 40000000 in
theorem c_vd0 (l : Launch) (Z : State) (a0 : Array Value) (hw : ∀ d ∈ tables_1, d.before a0 Z = true) (a ca : Addr) (F : Nat → Int32) (h0 : Heap) (n0 : Nat) (Z0 : n0 ≤ h0.size) (Ex : Exa Z h0 a "java/lang/String") (Fv : Fld Z h0 a "java/lang/String" "value" "[B" .null) (Fc : Fld Z h0 a "java/lang/String" "coder" "B" (.int (0 : Int32))) (ga : n0 ≤ a) :
    ConG l Z (⟨"java/lang/String", "<init>", "([CIILjava/lang/Void;)V"⟩ : MethodName) jdk_42_method_149_code 6 none ({ frames := 1, cells := 2, slots := 4, locals := 20 } : Room) #[(.ref a), (.ref ca), (.int (0 : Int32)), (.int (0 : Int32)), .null] h0 (fun vm => CHv Z consts_1 vm h0 ∧ Safe Z consts_1 vm h0 a) (EmQ Z a F h0 n0) := by
  refine ConG.intro (plainFor_of_name pn_0) ?_
  intro p e s m below meth c s₁ hx hby hml hrt hlk hZ hown hnm hPv hTK hsh X0 e0
  replace hown : s.vm.findClass "java/lang/String" = some m.cls := hown
  have N0 := Fr.nil n0
  have hS0 : s.Since s.vm h0.size := (State.WarmedH.refl s).since h0.size
  have hk0 : h0.size ≤ h0.size := Nat.le_refl _
  refine GoOn.cast (ef_c_vd0 m a ca (0 : Int32) (0 : Int32)) ?_
  show GoOn p e below _ (s₁.setTop (mkF m 0 #[.val (.ref a), .val (.ref ca), .val (.int (0 : Int32)), .val (.int (0 : Int32)), .val .null, .unset] []))
  have K0 : Keep h0 h0 [a] := Keep.refl _ _
  have HC : CHv Z consts_1 s.vm h0 := hPv.1
  have HR := CHr.refl HC
  have Sf_a := hPv.2
  refine GoOn.step (fun t₀ k₀ => XS.aloadN X0.here hx rfl (hb hby d4_0) rfl rfl k₀) ?_
  show GoOn p e below _ (s₁.setTop (mkF m 1 #[.val (.ref a), .val (.ref ca), .val (.int (0 : Int32)), .val (.int (0 : Int32)), .val .null, .unset] [(.ref a)]))
  obtain ⟨T52, X52, e52, st52⟩ := initO X0 hx hZ hown (hw _ (List.mem_of_getElem? (i := 19) rfl)) (hw _ (List.mem_of_getElem? (i := 20) rfl)) (hw _ (List.mem_of_getElem? (i := 21) rfl)) e0 (g := (mkF m 1 #[.val (.ref a), .val (.ref ca), .val (.int (0 : Int32)), .val (.int (0 : Int32)), .val .null, .unset] [(.ref a)])) rfl (by rw [hml]; rfl) rfl (hb hby d4_1) (by decide) (W := 0) (by show 2 * 0 + _ ≤ _; exact Nat.le_of_eq rfl) (by decide)
  refine GoOn.step st52 ?_
  show GoOn p e below _ (T52.setTop (mkF m 4 #[.val (.ref a), .val (.ref ca), .val (.int (0 : Int32)), .val (.int (0 : Int32)), .val .null, .unset] []))
  refine GoOn.step (fun t₀ k₀ => XS.iloadN X52.here hx rfl (hb hby d4_4) rfl k₀) ?_
  show GoOn p e below _ (T52.setTop (mkF m 5 #[.val (.ref a), .val (.ref ca), .val (.int (0 : Int32)), .val (.int (0 : Int32)), .val .null, .unset] [(.int (0 : Int32))]))
  have hf53 : (0 : Int32) = (0 : Int32) := rfl
  refine GoOn.step (fun t₀ k₀ => XS.ifNo X52.here hx rfl (hb hby d4_5) rfl ((if0 _ _).trans (teq hf53).2) k₀) ?_
  show GoOn p e below _ (T52.setTop (mkF m 8 #[.val (.ref a), .val (.ref ca), .val (.int (0 : Int32)), .val (.int (0 : Int32)), .val .null, .unset] []))
  refine GoOn.step (fun t₀ k₀ => XS.aloadN X52.here hx rfl (hb hby d4_8) rfl rfl k₀) ?_
  show GoOn p e below _ (T52.setTop (mkF m 9 #[.val (.ref a), .val (.ref ca), .val (.int (0 : Int32)), .val (.int (0 : Int32)), .val .null, .unset] [(.ref a)]))
  have ha := Ex.lt
  obtain ⟨la, T54, h54, k54, bb, kk54, X54, e54, E54, hS54, hk54, hZ54, hO54, Exl, Fcl, Fvl, Al54, hla54, hlb54, hC54, hL54, hne54, st54⟩ := ldcCH (s := s) (vm0 := s.vm) X52 hx hZ hown (hw _ (List.mem_of_getElem? (i := 22) rfl)) (ws_1 hw) e52 hS0 hk0 (ew_1 hw) (by simp [consts_1]) HC (text := "") (vs := []) (z := 0) ⟨by first | decide | simp, by first | rfl | decide | (simp [Jvm.Lit.byteI]; done)⟩ (by decide) rfl (g := (mkF m 9 #[.val (.ref a), .val (.ref ca), .val (.int (0 : Int32)), .val (.int (0 : Int32)), .val .null, .unset] [(.ref a)])) rfl (hb hby d4_9) (n := 0) (by decide) (by decide) (by decide) (by decide)
  replace Sf_a := hC54.safe ha Sf_a
  replace HR := HR.trans hC54
  replace HC := hC54.1
  replace Ex := Ex.ext E54
  replace Fv := Fv.ext E54
  replace Fc := Fc.ext E54
  replace Z0 := Nat.le_trans Z0 E54.1
  replace K0 := K0.ext E54
  replace hZ := hZ54
  replace hown := hO54
  refine GoOn.step st54 ?_
  show GoOn p e below _ (T54.setTop (mkF m 11 #[.val (.ref a), .val (.ref ca), .val (.int (0 : Int32)), .val (.int (0 : Int32)), .val .null, .unset] [(.ref la), (.ref a)]))
  have hsf := hne54 a Sf_a
  have Jl := arv0 (F := F) Al54
  obtain ⟨T55, X55, e55, st55⟩ := getF X54 hx hZ hown (host := "") (Or.inl (hw _ (List.mem_of_getElem? (i := 28) rfl))) Via.refl e54 Fvl (g := (mkF m 11 #[.val (.ref a), .val (.ref ca), .val (.int (0 : Int32)), .val (.int (0 : Int32)), .val .null, .unset] [(.ref la), (.ref a)])) rfl rfl (hb hby d4_11)
  refine GoOn.step st55 ?_
  show GoOn p e below _ (T55.setTop (mkF m 14 #[.val (.ref a), .val (.ref ca), .val (.int (0 : Int32)), .val (.int (0 : Int32)), .val .null, .unset] [(.ref bb), (.ref a)]))
  obtain ⟨T56, h56, X56, e56, W56, st56⟩ := putF X55 hx hZ hown (host := "") (Or.inl (hw _ (List.mem_of_getElem? (i := 28) rfl))) Via.refl e55 Fv Ex (Or.inr ⟨(hw _ (List.mem_of_getElem? (i := 24) rfl)), rfl, hnm⟩) (hw _ (List.mem_of_getElem? (i := 9) rfl)) (ty := (.array .byte)) (by decide) rfl rfl (g := (mkF m 14 #[.val (.ref a), .val (.ref ca), .val (.int (0 : Int32)), .val (.int (0 : Int32)), .val .null, .unset] [(.ref bb), (.ref a)])) rfl rfl (hb hby d4_14)
  replace N0 := Fr.snoc X56 N0 ga
  have sw57 : Safe Z consts_1 T54.vm h54 a := Sf_a
  replace Sf_a := Safe.wr W56 sw57 HC Sf_a
  replace HR := HR.trans (CHr.wr W56 sw57 HC)
  replace HC := HC.wr W56 sw57
  replace Ex := Ex.wr W56
  replace Fv := Fld.same W56 Fv
  replace Fc := Fc.other W56 (Or.inr (slot_ne (Or.inr (hw _ (List.mem_of_getElem? (i := 25) rfl))) (Or.inr (hw _ (List.mem_of_getElem? (i := 24) rfl))) (by decide) (t := .byte) (t' := (.array .byte)) (by decide) (by decide)))
  replace Exl := Exl.wr W56
  replace Fcl := Fcl.other W56 (Or.inl (Ne.symm hsf.1))
  replace Fvl := Fvl.other W56 (Or.inl (Ne.symm hsf.1))
  replace Jl := Jl.other W56 (Ne.symm hsf.2)
  replace hk54 := Nat.le_trans hk54 (Nat.le_of_eq W56.size.symm)
  replace Z0 := Nat.le_trans Z0 (Nat.le_of_eq W56.size.symm)
  replace K0 := K0.wr W56 (Or.inl (by simp))
  refine GoOn.step st56 ?_
  show GoOn p e below _ (T56.setTop (mkF m 17 #[.val (.ref a), .val (.ref ca), .val (.int (0 : Int32)), .val (.int (0 : Int32)), .val .null, .unset] []))
  refine GoOn.step (fun t₀ k₀ => XS.aloadN X56.here hx rfl (hb hby d4_17) rfl rfl k₀) ?_
  show GoOn p e below _ (T56.setTop (mkF m 18 #[.val (.ref a), .val (.ref ca), .val (.int (0 : Int32)), .val (.int (0 : Int32)), .val .null, .unset] [(.ref a)]))
  refine GoOn.step (fun t₀ k₀ => ldcAgain (s := s) (vm0 := T54.vm) X56 hx hZ hown (hw _ (List.mem_of_getElem? (i := 22) rfl)) (a := la) hL54 (g := (mkF m 18 #[.val (.ref a), .val (.ref ca), .val (.int (0 : Int32)), .val (.int (0 : Int32)), .val .null, .unset] [(.ref a)])) rfl (hb hby d4_18) t₀ k₀) ?_
  show GoOn p e below _ (T56.setTop (mkF m 20 #[.val (.ref a), .val (.ref ca), .val (.int (0 : Int32)), .val (.int (0 : Int32)), .val .null, .unset] [(.ref la), (.ref a)]))
  obtain ⟨T58, X58, e58, st58⟩ := getF X56 hx hZ hown (host := "") (Or.inl (hw _ (List.mem_of_getElem? (i := 29) rfl))) Via.refl e56 Fcl (g := (mkF m 20 #[.val (.ref a), .val (.ref ca), .val (.int (0 : Int32)), .val (.int (0 : Int32)), .val .null, .unset] [(.ref la), (.ref a)])) rfl rfl (hb hby d4_20)
  refine GoOn.step st58 ?_
  show GoOn p e below _ (T58.setTop (mkF m 23 #[.val (.ref a), .val (.ref ca), .val (.int (0 : Int32)), .val (.int (0 : Int32)), .val .null, .unset] [(.int (0 : Int32)), (.ref a)]))
  obtain ⟨T59, h59, X59, e59, W59, st59⟩ := putFN X58 hx hZ hown (hw _ (List.mem_of_getElem? (i := 29) rfl)) Via.refl e58 Fc Ex (Or.inr ⟨(hw _ (List.mem_of_getElem? (i := 25) rfl)), rfl, hnm⟩) (hw _ (List.mem_of_getElem? (i := 9) rfl)) (ty := .byte) (v' := .int (nar .byte (0 : Int32))) (by decide) rfl (fits_nar_byte _) (g := (mkF m 23 #[.val (.ref a), .val (.ref ca), .val (.int (0 : Int32)), .val (.int (0 : Int32)), .val .null, .unset] [(.int (0 : Int32)), (.ref a)])) rfl rfl (hb hby d4_23)
  replace N0 := Fr.snoc X59 N0 ga
  have sw60 : Safe Z consts_1 T54.vm h56 a := Sf_a
  replace Sf_a := Safe.wr W59 sw60 HC Sf_a
  replace HR := HR.trans (CHr.wr W59 sw60 HC)
  replace HC := HC.wr W59 sw60
  replace Ex := Ex.wr W59
  replace Fv := Fv.other W59 (Or.inr (slot_ne (Or.inr (hw _ (List.mem_of_getElem? (i := 24) rfl))) (Or.inr (hw _ (List.mem_of_getElem? (i := 25) rfl))) (by decide) (t := (.array .byte)) (t' := .byte) (by decide) (by decide)))
  replace Fc := Fld.same W59 Fc
  replace Exl := Exl.wr W59
  replace Fcl := Fcl.other W59 (Or.inl (Ne.symm hsf.1))
  replace Fvl := Fvl.other W59 (Or.inl (Ne.symm hsf.1))
  replace Jl := Jl.other W59 (Ne.symm hsf.2)
  replace hk54 := Nat.le_trans hk54 (Nat.le_of_eq W59.size.symm)
  replace Z0 := Nat.le_trans Z0 (Nat.le_of_eq W59.size.symm)
  replace K0 := K0.wr W59 (Or.inl (by simp))
  refine GoOn.step st59 ?_
  show GoOn p e below _ (T59.setTop (mkF m 26 #[.val (.ref a), .val (.ref ca), .val (.int (0 : Int32)), .val (.int (0 : Int32)), .val .null, .unset] []))
  exact GoOn.ret0G X59 hS54 (by rw [e59]; exact hk54) hx hrt hlk (hb hby d4_26) (by decide) (by decide) (by first | exact ⟨HR.trans (CHv.at (s := s) (vm0 := T54.vm) X59 hZ (ew_1 hw) HC), rfl, N0, K0, Ex, bb, Fv, Fc, Jl⟩ | (rw [e59]; exact ⟨HR.trans (CHv.at (s := s) (vm0 := T54.vm) X59 hZ (ew_1 hw) HC), rfl, N0, K0, Ex, bb, Fv, Fc, Jl⟩))
theorem ef_c_in0 (m : MethodId) (x0 : Addr) (x1 : Addr) : entryFrame m #[(.ref x0), (.ref x1)] 2 = mkF m 0 #[.val (.ref x0), .val (.ref x1)] [] := by first | (simp [entryFrame, mkF, argsToLocals, Value.category]; done) | rfl
set_option maxRecDepth 65536 in
set_option maxHeartbeats 40000000 in
theorem c_in0 (l : Launch) (Z : State) (a0 : Array Value) (hw : ∀ d ∈ tables_1, d.before a0 Z = true) (a ca : Addr) (F : Nat → Int32) (h0 : Heap) (n0 : Nat) (Z0 : n0 ≤ h0.size) (Ex : Exa Z h0 a "java/lang/String") (Fv : Fld Z h0 a "java/lang/String" "value" "[B" .null) (Fc : Fld Z h0 a "java/lang/String" "coder" "B" (.int (0 : Int32))) (ga : n0 ≤ a) (Jc : Jar Z h0 ca .char 0 (fun _ => defaultValue .char)) :
    ConG l Z (⟨"java/lang/String", "<init>", "([C)V"⟩ : MethodName) jdk_42_method_3_code 2 none ({ frames := 2, cells := 2, slots := 4, locals := 40 } : Room) #[(.ref a), (.ref ca)] h0 (fun vm => CHv Z consts_1 vm h0 ∧ Safe Z consts_1 vm h0 a) (EmQ Z a F h0 n0) := by
  refine ConG.intro (plainFor_of_name pn_0) ?_
  intro p e s m below meth c s₁ hx hby hml hrt hlk hZ hown hnm hPv hTK hsh X0 e0
  replace hown : s.vm.findClass "java/lang/String" = some m.cls := hown
  have N0 := Fr.nil n0
  have hS0 : s.Since s.vm h0.size := (State.WarmedH.refl s).since h0.size
  have hk0 : h0.size ≤ h0.size := Nat.le_refl _
  refine GoOn.cast (ef_c_in0 m a ca) ?_
  show GoOn p e below _ (s₁.setTop (mkF m 0 #[.val (.ref a), .val (.ref ca)] []))
  have K0 : Keep h0 h0 [a] := Keep.refl _ _
  have HC : CHv Z consts_1 s.vm h0 := hPv.1
  have HR := CHr.refl HC
  refine GoOn.step (fun t₀ k₀ => XS.aloadN X0.here hx rfl (hb hby d3_0) rfl rfl k₀) ?_
  show GoOn p e below _ (s₁.setTop (mkF m 1 #[.val (.ref a), .val (.ref ca)] [(.ref a)]))
  refine GoOn.step (fun t₀ k₀ => XS.aloadN X0.here hx rfl (hb hby d3_1) rfl rfl k₀) ?_
  show GoOn p e below _ (s₁.setTop (mkF m 2 #[.val (.ref a), .val (.ref ca)] [(.ref ca), (.ref a)]))
  refine GoOn.step (fun t₀ k₀ => XS.iconst X0.here hx rfl (hb hby d3_2) k₀) ?_
  show GoOn p e below _ (s₁.setTop (mkF m 3 #[.val (.ref a), .val (.ref ca)] [(.int (0 : Int32)), (.ref ca), (.ref a)]))
  refine GoOn.step (fun t₀ k₀ => XS.aloadN X0.here hx rfl (hb hby d3_3) rfl rfl k₀) ?_
  show GoOn p e below _ (s₁.setTop (mkF m 4 #[.val (.ref a), .val (.ref ca)] [(.ref ca), (.int (0 : Int32)), (.ref ca), (.ref a)]))
  refine GoOn.step (fun t₀ k₀ => kLen X0 hx hZ e0 Jc (z := (0 : Int32)) rfl (g := (mkF m 4 #[.val (.ref a), .val (.ref ca)] [(.ref ca), (.int (0 : Int32)), (.ref ca), (.ref a)])) rfl rfl (hb hby d3_4) t₀ k₀) ?_
  show GoOn p e below _ (s₁.setTop (mkF m 5 #[.val (.ref a), .val (.ref ca)] [(.int (0 : Int32)), (.int (0 : Int32)), (.ref ca), (.ref a)]))
  refine GoOn.step (fun t₀ k₀ => XS.aconstNull X0.here hx rfl (hb hby d3_5) k₀) ?_
  show GoOn p e below _ (s₁.setTop (mkF m 6 #[.val (.ref a), .val (.ref ca)] [.null, (.int (0 : Int32)), (.int (0 : Int32)), (.ref ca), (.ref a)]))
  obtain ⟨_, T61, L61, X61, ⟨vS61, qS61, hQ61⟩, hS61, hZ61, hO61, st61⟩ := kCallIG X0 hx hZ (a := a) (argsL := [(.ref ca), (.int (0 : Int32)), (.int (0 : Int32)), .null]) (rest := []) (c_vd0 l Z a0 hw a ca F h0 n0 Z0 Ex Fv Fc ga) (fun vm q => ⟨(heldAt hZ (ew_1 hw) HC q).1, (heldAt hZ (ew_1 hw) HC q).safe Ex.lt hPv.2⟩) hS0 hk0 hTK rfl hown (hw _ (List.mem_of_getElem? (i := 15) rfl)) (hw _ (List.mem_of_getElem? (i := 16) rfl)) (hw _ (List.mem_of_getElem? (i := 10) rfl)) (hw _ (List.mem_of_getElem? (i := 18) rfl)) (by decide) e0 (g := (mkF m 6 #[.val (.ref a), .val (.ref ca)] [.null, (.int (0 : Int32)), (.int (0 : Int32)), (.ref ca), (.ref a)])) rfl (by rw [hml]; rfl) (lenOf pd_8 rfl) rfl (W := 0) (by show 2 * 0 + _ ≤ _; exact Nat.le_of_eq rfl) (hb hby d3_6) (by decide) (by decide) (by decide) (by decide)
  obtain ⟨hR61, rfl, N61, K61, SO⟩ := hQ61
  have hc61 := chCall hZ (ew_1 hw) HC qS61 hR61
  replace HR := HR.trans hc61
  replace HC := hc61.1
  replace N0 := Fr.app N0 N61
  replace K0 := K0.trans K61 (allS (Or.inl (by simp)) all0)
  have hk61 : T61.heap.size ≤ T61.heap.size := Nat.le_refl _
  replace hZ := hZ61
  replace hown := hO61
  refine GoOn.step st61 ?_
  show GoOn p e below _ (T61.setTop (mkF m 9 #[.val (.ref a), .val (.ref ca)] []))
  exact GoOn.ret0G X61 hS61 hk61 hx hrt hlk (hb hby d3_9) (by decide) (by decide) ⟨HR.trans (CHv.at (s := s) (vm0 := T61.vm) X61 hZ (ew_1 hw) HC), rfl, N0, K0, SO⟩
theorem ef_c_dr (m : MethodId) (x0 : Int32) : entryFrame m #[(.int x0)] 4 = mkF m 0 #[.val (.int x0), .unset, .unset, .unset] [] := by first | (simp [entryFrame, mkF, argsToLocals, Value.category]; done) | rfl
set_option maxRecDepth 65536 in
set_option maxHeartbeats 40000000 in
theorem c_dr (l : Launch) (Z : State) (a0 : Array Value) (hw : ∀ d ∈ tables_1, d.before a0 Z = true) (q0 : Int32) (cs : Int32) (fv : Value) (h0 : Heap) (n0 : Nat) (Z0 : n0 ≤ h0.size) (O : Old Z n0 h0) (SS : Stt Z cs fv) :
    ConG l Z (⟨"com/example/ashlar_gate/ashlargate/model/InvalidValueExceptionAtPinLaw", "draw", "(I)Ljava/lang/String;"⟩ : MethodName) method_2_code 4 (some (.object "java/lang/String")) ({ frames := 4, cells := 4, slots := 8, locals := 76 } : Room) #[(.int q0)] h0 (fun vm => CHv Z consts_1 vm h0) (DrQ Z h0 n0) := by
  refine ConG.intro (plainFor_of_name pn_4) ?_
  intro p e s m below meth c s₁ hx hby hml hrt hlk hZ hown hnm hPv hTK hsh X0 e0
  replace hown : s.vm.findClass "com/example/ashlar_gate/ashlargate/model/InvalidValueExceptionAtPinLaw" = some m.cls := hown
  have N0 := Fr.nil n0
  have hS0 : s.Since s.vm h0.size := (State.WarmedH.refl s).since h0.size
  have hk0 : h0.size ≤ h0.size := Nat.le_refl _
  refine GoOn.cast (ef_c_dr m q0) ?_
  show GoOn p e below _ (s₁.setTop (mkF m 0 #[.val (.int q0), .unset, .unset, .unset] []))
  have K0 : Keep h0 h0 [] := Keep.refl _ _
  have HC : CHv Z consts_1 s.vm h0 := hPv
  have HR := CHr.refl HC
  refine GoOn.step (fun t₀ k₀ => XS.iloadN X0.here hx rfl (hb hby d1_0) rfl k₀) ?_
  show GoOn p e below _ (s₁.setTop (mkF m 1 #[.val (.int q0), .unset, .unset, .unset] [(.int q0)]))
  refine GoOn.step (fun t₀ k₀ => XS.bipush X0.here hx rfl (hb hby d1_1) k₀) ?_
  show GoOn p e below _ (s₁.setTop (mkF m 3 #[.val (.int q0), .unset, .unset, .unset] [(.int (16 : Int32)), (.int q0)]))
  refine GoOn.step (fun t₀ k₀ => XS.iushr X0.here hx rfl (hb hby d1_3) rfl k₀) ?_
  show GoOn p e below _ (s₁.setTop (mkF m 4 #[.val (.int q0), .unset, .unset, .unset] [(.int ((q0.toUInt32 >>> ((16 : Int32) &&& 31).toUInt32).toInt32))]))
  refine GoOn.step (fun t₀ k₀ => XS.iconst X0.here hx rfl (hb hby d1_4) k₀) ?_
  show GoOn p e below _ (s₁.setTop (mkF m 5 #[.val (.int q0), .unset, .unset, .unset] [(.int (3 : Int32)), (.int ((q0.toUInt32 >>> ((16 : Int32) &&& 31).toUInt32).toInt32))]))
  refine GoOn.step (fun t₀ k₀ => XS.iand X0.here hx rfl (hb hby d1_5) rfl k₀) ?_
  show GoOn p e below _ (s₁.setTop (mkF m 6 #[.val (.int q0), .unset, .unset, .unset] [(.int (((q0.toUInt32 >>> ((16 : Int32) &&& 31).toUInt32).toInt32) &&& (3 : Int32)))]))
  refine GoOn.step (fun t₀ k₀ => XS.iconst X0.here hx rfl (hb hby d1_6) k₀) ?_
  show GoOn p e below _ (s₁.setTop (mkF m 7 #[.val (.int q0), .unset, .unset, .unset] [(.int (2 : Int32)), (.int (((q0.toUInt32 >>> ((16 : Int32) &&& 31).toUInt32).toInt32) &&& (3 : Int32)))]))
  obtain ⟨_, T62, L62, X62, hQ62, st62⟩ := kCallS X0 hx hZ (argsL := [(.int (((q0.toUInt32 >>> ((16 : Int32) &&& 31).toUInt32).toInt32) &&& (3 : Int32))), (.int (2 : Int32))]) (rest := []) (c_mn l Z a0 hw (((q0.toUInt32 >>> ((16 : Int32) &&& 31).toUInt32).toInt32) &&& (3 : Int32)) (2 : Int32) h0) hown (hw _ (List.mem_of_getElem? (i := 4) rfl)) (hw _ (List.mem_of_getElem? (i := 5) rfl)) (hw _ (List.mem_of_getElem? (i := 6) rfl)) (hw _ (List.mem_of_getElem? (i := 7) rfl)) (by decide) e0 (g := (mkF m 7 #[.val (.int q0), .unset, .unset, .unset] [(.int (2 : Int32)), (.int (((q0.toUInt32 >>> ((16 : Int32) &&& 31).toUInt32).toInt32) &&& (3 : Int32)))])) rfl (by rw [hml]; rfl) (lenOf pd_12 rfl) rfl (W := 0) (by show 2 * 0 + _ ≤ _; exact Nat.le_of_eq rfl) (hb hby d1_7) (by decide) (by decide) (by decide) (by decide)
  obtain ⟨rfl, rfl, e62⟩ := hQ62
  rw [List.append_nil] at X62
  refine GoOn.step st62 ?_
  show GoOn p e below _ (T62.setTop (mkF m 10 #[.val (.int q0), .unset, .unset, .unset] [(.int (if (2 : Int32) < (((q0.toUInt32 >>> ((16 : Int32) &&& 31).toUInt32).toInt32) &&& (3 : Int32)) then (2 : Int32) else (((q0.toUInt32 >>> ((16 : Int32) &&& 31).toUInt32).toInt32) &&& (3 : Int32))))]))
  generalize hnn : (if (2 : Int32) < (((q0.toUInt32 >>> ((16 : Int32) &&& 31).toUInt32).toInt32) &&& (3 : Int32)) then (2 : Int32) else (((q0.toUInt32 >>> ((16 : Int32) &&& 31).toUInt32).toInt32) &&& (3 : Int32))) = nn
  have hnnI := congrArg Int32.toInt hnn
  refine GoOn.step (fun t₀ k₀ => XS.istoreN X62.here hx rfl (hb hby d1_10) rfl (l' := #[.val (.int q0), .val (.int nn), .unset, .unset]) rfl k₀) ?_
  show GoOn p e below _ (T62.setTop (mkF m 11 #[.val (.int q0), .val (.int nn), .unset, .unset] []))
  refine GoOn.step (fun t₀ k₀ => XS.iloadN X62.here hx rfl (hb hby d1_11) rfl k₀) ?_
  show GoOn p e below _ (T62.setTop (mkF m 12 #[.val (.int q0), .val (.int nn), .unset, .unset] [(.int q0)]))
  refine GoOn.step (fun t₀ k₀ => XS.sipush X62.here hx rfl (hb hby d1_12) k₀) ?_
  show GoOn p e below _ (T62.setTop (mkF m 15 #[.val (.int q0), .val (.int nn), .unset, .unset] [(.int (255 : Int32)), (.int q0)]))
  refine GoOn.step (fun t₀ k₀ => XS.iand X62.here hx rfl (hb hby d1_15) rfl k₀) ?_
  show GoOn p e below _ (T62.setTop (mkF m 16 #[.val (.int q0), .val (.int nn), .unset, .unset] [(.int (q0 &&& (255 : Int32)))]))
  refine GoOn.step (fun t₀ k₀ => XS.i2c X62.here hx rfl (hb hby d1_16) rfl k₀) ?_
  show GoOn p e below _ (T62.setTop (mkF m 17 #[.val (.int q0), .val (.int nn), .unset, .unset] [(.int ((q0 &&& (255 : Int32)).toUInt32.toUInt16.toUInt32.toInt32))]))
  have ba := chB q0
  generalize hva : ((q0 &&& (255 : Int32)).toUInt32.toUInt16.toUInt32.toInt32) = va
  have hvaI := congrArg Int32.toInt hva
  rw [hva] at ba
  refine GoOn.step (fun t₀ k₀ => XS.istoreN X62.here hx rfl (hb hby d1_17) rfl (l' := #[.val (.int q0), .val (.int nn), .val (.int va), .unset]) rfl k₀) ?_
  show GoOn p e below _ (T62.setTop (mkF m 18 #[.val (.int q0), .val (.int nn), .val (.int va), .unset] []))
  refine GoOn.step (fun t₀ k₀ => XS.iloadN X62.here hx rfl (hb hby d1_18) rfl k₀) ?_
  show GoOn p e below _ (T62.setTop (mkF m 19 #[.val (.int q0), .val (.int nn), .val (.int va), .unset] [(.int q0)]))
  refine GoOn.step (fun t₀ k₀ => XS.bipush X62.here hx rfl (hb hby d1_19) k₀) ?_
  show GoOn p e below _ (T62.setTop (mkF m 21 #[.val (.int q0), .val (.int nn), .val (.int va), .unset] [(.int (8 : Int32)), (.int q0)]))
  refine GoOn.step (fun t₀ k₀ => XS.iushr X62.here hx rfl (hb hby d1_21) rfl k₀) ?_
  show GoOn p e below _ (T62.setTop (mkF m 22 #[.val (.int q0), .val (.int nn), .val (.int va), .unset] [(.int ((q0.toUInt32 >>> ((8 : Int32) &&& 31).toUInt32).toInt32))]))
  refine GoOn.step (fun t₀ k₀ => XS.sipush X62.here hx rfl (hb hby d1_22) k₀) ?_
  show GoOn p e below _ (T62.setTop (mkF m 25 #[.val (.int q0), .val (.int nn), .val (.int va), .unset] [(.int (255 : Int32)), (.int ((q0.toUInt32 >>> ((8 : Int32) &&& 31).toUInt32).toInt32))]))
  refine GoOn.step (fun t₀ k₀ => XS.iand X62.here hx rfl (hb hby d1_25) rfl k₀) ?_
  show GoOn p e below _ (T62.setTop (mkF m 26 #[.val (.int q0), .val (.int nn), .val (.int va), .unset] [(.int (((q0.toUInt32 >>> ((8 : Int32) &&& 31).toUInt32).toInt32) &&& (255 : Int32)))]))
  refine GoOn.step (fun t₀ k₀ => XS.i2c X62.here hx rfl (hb hby d1_26) rfl k₀) ?_
  show GoOn p e below _ (T62.setTop (mkF m 27 #[.val (.int q0), .val (.int nn), .val (.int va), .unset] [(.int ((((q0.toUInt32 >>> ((8 : Int32) &&& 31).toUInt32).toInt32) &&& (255 : Int32)).toUInt32.toUInt16.toUInt32.toInt32))]))
  have bv := chB ((q0.toUInt32 >>> ((8 : Int32) &&& 31).toUInt32).toInt32)
  generalize hvb : ((((q0.toUInt32 >>> ((8 : Int32) &&& 31).toUInt32).toInt32) &&& (255 : Int32)).toUInt32.toUInt16.toUInt32.toInt32) = vb
  have hvbI := congrArg Int32.toInt hvb
  rw [hvb] at bv
  refine GoOn.step (fun t₀ k₀ => XS.istoreN X62.here hx rfl (hb hby d1_27) rfl (l' := #[.val (.int q0), .val (.int nn), .val (.int va), .val (.int vb)]) rfl k₀) ?_
  show GoOn p e below _ (T62.setTop (mkF m 28 #[.val (.int q0), .val (.int nn), .val (.int va), .val (.int vb)] []))
  refine GoOn.step (fun t₀ k₀ => XS.iloadN X62.here hx rfl (hb hby d1_28) rfl k₀) ?_
  show GoOn p e below _ (T62.setTop (mkF m 29 #[.val (.int q0), .val (.int nn), .val (.int va), .val (.int vb)] [(.int nn)]))
  by_cases f0 : nn = (0 : Int32)
  · refine GoOn.step (fun t₀ k₀ => XS.ifNo X62.here hx rfl (hb hby d1_29) rfl ((if0 _ _).trans (teq f0).2) k₀) ?_
    show GoOn p e below _ (T62.setTop (mkF m 32 #[.val (.int q0), .val (.int nn), .val (.int va), .val (.int vb)] []))
    obtain ⟨T63, h63, X63, e63, E63, A63, D63, -, st63⟩ := newO X62 hx hZ hown (hw _ (List.mem_of_getElem? (i := 8) rfl)) (hw _ (List.mem_of_getElem? (i := 9) rfl)) (hw _ (List.mem_of_getElem? (i := 10) rfl)) e62 (g := (mkF m 32 #[.val (.int q0), .val (.int nn), .val (.int va), .val (.int vb)] [])) rfl (hb hby d1_32) (by decide) (by decide)
    obtain ⟨st, g63⟩ : ∃ z, z = h0.size := ⟨_, rfl⟩
    rw [← g63] at A63 D63 st63
    have le_st : n0 ≤ st := by rw [g63]; exact Z0
    have sz_st : h0.size ≤ st := by rw [g63]; exact K0.1
    have Sf_st := Safe.ext E63 HC (Safe.new (EL := consts_1) (Z := Z) (vm := s.vm) (Nat.le_of_eq g63.symm))
    replace HR := HR.trans (CHr.ext E63 HC)
    replace HC := HC.ext E63
    replace O := O.ext E63
    replace hk0 := Nat.le_trans hk0 E63.1
    replace Z0 := Nat.le_trans Z0 E63.1
    replace K0 := K0.ext E63
    have Ex_st : Exa Z h63 st "java/lang/String" := A63
    have F_value_st : Fld Z h63 st "java/lang/String" "value" "[B" .null := D63 (Or.inr (hw _ (List.mem_of_getElem? (i := 24) rfl))) (ty := (.array .byte)) (by decide)
    have F_coder_st : Fld Z h63 st "java/lang/String" "coder" "B" (.int (0 : Int32)) := D63 (Or.inr (hw _ (List.mem_of_getElem? (i := 25) rfl))) (ty := .byte) (by decide)
    refine GoOn.step st63 ?_
    show GoOn p e below _ (T63.setTop (mkF m 35 #[.val (.int q0), .val (.int nn), .val (.int va), .val (.int vb)] [(.ref st)]))
    refine GoOn.step (fun t₀ k₀ => XS.dup X63.here hx rfl (hb hby d1_35) rfl rfl k₀) ?_
    show GoOn p e below _ (T63.setTop (mkF m 36 #[.val (.int q0), .val (.int nn), .val (.int va), .val (.int vb)] [(.ref st), (.ref st)]))
    refine GoOn.step (fun t₀ k₀ => XS.iconst X63.here hx rfl (hb hby d1_36) k₀) ?_
    show GoOn p e below _ (T63.setTop (mkF m 37 #[.val (.int q0), .val (.int nn), .val (.int va), .val (.int vb)] [(.int (0 : Int32)), (.ref st), (.ref st)]))
    obtain ⟨T64, h64, k64, X64, e64, E64, A64, st64⟩ := newP X63 hx hZ (hw _ (List.mem_of_getElem? (i := 11) rfl)) e63 (g := (mkF m 37 #[.val (.int q0), .val (.int nn), .val (.int va), .val (.int vb)] [(.int (0 : Int32)), (.ref st), (.ref st)])) rfl (hb hby d1_37) rfl (by decide) (cap := 0) (by decide) (by decide) (by decide) (by decide)
    obtain ⟨ca, g64⟩ : ∃ z, z = h63.size := ⟨_, rfl⟩
    rw [← g64] at A64 st64
    have lt_st_ca : st < ca := by rw [g64]; exact Ex_st.lt
    have ne_st_ca : st ≠ ca := Nat.ne_of_lt lt_st_ca
    have le_ca : n0 ≤ ca := by rw [g64]; exact Z0
    have sz_ca : h0.size ≤ ca := by rw [g64]; exact K0.1
    replace Sf_st := Safe.ext E64 HC Sf_st
    replace HR := HR.trans (CHr.ext E64 HC)
    replace HC := HC.ext E64
    replace Ex_st := Ex_st.ext E64
    replace F_value_st := F_value_st.ext E64
    replace F_coder_st := F_coder_st.ext E64
    replace O := O.ext E64
    replace hk0 := Nat.le_trans hk0 E64.1
    replace Z0 := Nat.le_trans Z0 E64.1
    replace K0 := K0.ext E64
    have J_ca : Jar Z h64 ca .char 0 (fun _ => defaultValue .char) := Jar.new A64 (by decide)
    refine GoOn.step st64 ?_
    show GoOn p e below _ (T64.setTop (mkF m 39 #[.val (.int q0), .val (.int nn), .val (.int va), .val (.int vb)] [(.ref ca), (.ref st), (.ref st)]))
    obtain ⟨_, T65, L65, X65, ⟨vS65, qS65, hQ65⟩, hS65, hZ65, hO65, st65⟩ := kCallIG X64 hx hZ (a := st) (argsL := [(.ref ca)]) (rest := [(.ref st)]) (c_in0 l Z a0 hw st ca (fun i => laB (gg va vb i)) h64 n0 Z0 Ex_st F_value_st F_coder_st le_st J_ca) (fun vm q => ⟨(heldAt hZ (ew_1 hw) HC q).1, (heldAt hZ (ew_1 hw) HC q).safe Ex_st.lt Sf_st⟩) hS0 hk0 hTK rfl hown (hw _ (List.mem_of_getElem? (i := 12) rfl)) (hw _ (List.mem_of_getElem? (i := 13) rfl)) (hw _ (List.mem_of_getElem? (i := 10) rfl)) (hw _ (List.mem_of_getElem? (i := 14) rfl)) (by decide) e64 (g := (mkF m 39 #[.val (.int q0), .val (.int nn), .val (.int va), .val (.int vb)] [(.ref ca), (.ref st), (.ref st)])) rfl (by rw [hml]; rfl) (lenOf pd_13 rfl) rfl (W := 1) (by show 2 * 0 + _ ≤ _; exact Nat.le_of_eq rfl) (hb hby d1_39) (by decide) (by decide) (by decide) (by decide)
    obtain ⟨hR65, rfl, N65, K65, SO⟩ := hQ65
    have hc65 := chCall hZ (ew_1 hw) HC qS65 hR65
    replace HR := HR.trans hc65
    clear Sf_st
    replace HC := hc65.1
    replace N0 := Fr.app N0 N65
    replace K0 := K0.trans K65 (allS (Or.inr sz_st) all0)
    have hk65 : T65.heap.size ≤ T65.heap.size := Nat.le_refl _
    replace hZ := hZ65
    replace hown := hO65
    refine GoOn.step st65 ?_
    show GoOn p e below _ (T65.setTop (mkF m 42 #[.val (.int q0), .val (.int nn), .val (.int va), .val (.int vb)] [(.ref st)]))
    exact GoOn.retRG X65 hS65 hk65 hx hrt rfl hlk rfl (hb hby d1_42) (by decide) (by decide) ⟨HR.trans (CHv.at (s := s) (vm0 := T65.vm) X65 hZ (ew_1 hw) HC), st, 0, gg va vb, rfl, N0, K0, by decide, gg_ch ba bv, SO⟩
  · refine GoOn.step (fun t₀ k₀ => XS.ifYes X62.here hx rfl (pc0 := 29) (pc' := 43) rfl (hb hby d1_29) rfl ((if0 _ _).trans (feq f0).2) (by decide) (by decide) k₀) ?_
    show GoOn p e below _ (T62.setTop (mkF m 43 #[.val (.int q0), .val (.int nn), .val (.int va), .val (.int vb)] []))
    refine GoOn.step (fun t₀ k₀ => XS.iloadN X62.here hx rfl (hb hby d1_43) rfl k₀) ?_
    show GoOn p e below _ (T62.setTop (mkF m 44 #[.val (.int q0), .val (.int nn), .val (.int va), .val (.int vb)] [(.int nn)]))
    refine GoOn.step (fun t₀ k₀ => XS.iconst X62.here hx rfl (hb hby d1_44) k₀) ?_
    show GoOn p e below _ (T62.setTop (mkF m 45 #[.val (.int q0), .val (.int nn), .val (.int va), .val (.int vb)] [(.int (1 : Int32)), (.int nn)]))
    by_cases f1 : nn = (1 : Int32)
    · refine GoOn.step (fun t₀ k₀ => XS.icmpNo X62.here hx rfl (hb hby d1_45) rfl (teq f1).2 k₀) ?_
      show GoOn p e below _ (T62.setTop (mkF m 48 #[.val (.int q0), .val (.int nn), .val (.int va), .val (.int vb)] []))
      refine GoOn.step (fun t₀ k₀ => XS.iloadN X62.here hx rfl (hb hby d1_48) rfl k₀) ?_
      show GoOn p e below _ (T62.setTop (mkF m 49 #[.val (.int q0), .val (.int nn), .val (.int va), .val (.int vb)] [(.int va)]))
      obtain ⟨_, T66, L66, X66, hQ66, st66⟩ := kCallS X62 hx hZ (argsL := [(.int va)]) (rest := []) (c_vo l Z a0 hw va cs fv h0 n0 Z0 O SS ba) hown (hw _ (List.mem_of_getElem? (i := 277) rfl)) (hw _ (List.mem_of_getElem? (i := 278) rfl)) (hw _ (List.mem_of_getElem? (i := 10) rfl)) (hw _ (List.mem_of_getElem? (i := 279) rfl)) (by decide) e62 (g := (mkF m 49 #[.val (.int q0), .val (.int nn), .val (.int va), .val (.int vb)] [(.int va)])) rfl (by rw [hml]; rfl) (lenOf pd_14 rfl) rfl (W := 0) (by show 2 * 0 + _ ≤ _; exact Nat.le_of_eq rfl) (hb hby d1_49) (by decide) (by decide) (by decide) (by decide)
      obtain ⟨so, rfl, N66, K66, sso, SO⟩ := hQ66
      replace N0 := Fr.app N0 N66
      replace K0 := K0.trans K66 all0
      have sw67 : ∀ z_ ∈ ([] : List Addr), Safe Z consts_1 s.vm h0 z_ := all0
      replace HR := HR.trans (CHr.keep K66 sw67 HC)
      replace HC := HC.keep K66 sw67
      replace O := O.keep K66 all0
      replace hk0 := Nat.le_trans hk0 K66.1
      replace Z0 := Nat.le_trans Z0 K66.1
      refine GoOn.step st66 ?_
      show GoOn p e below _ (T66.setTop (mkF m 52 #[.val (.int q0), .val (.int nn), .val (.int va), .val (.int vb)] [(.ref so)]))
      exact GoOn.retRG X66 hS0 hk0 hx hrt rfl hlk rfl (hb hby d1_52) (by decide) (by decide) ⟨HR.trans (CHv.at (s := s) (vm0 := s.vm) X66 hZ (ew_1 hw) HC), so, 1, (fun _ => va), rfl, N0, K0, by decide, fun _ => ba, SO⟩
    · refine GoOn.step (fun t₀ k₀ => XS.icmpYes X62.here hx rfl (pc0 := 45) (pc' := 53) rfl (hb hby d1_45) rfl (feq f1).2 (by decide) (by decide) k₀) ?_
      show GoOn p e below _ (T62.setTop (mkF m 53 #[.val (.int q0), .val (.int nn), .val (.int va), .val (.int vb)] []))
      obtain ⟨T68, h68, X68, e68, E68, A68, D68, -, st68⟩ := newO X62 hx hZ hown (hw _ (List.mem_of_getElem? (i := 8) rfl)) (hw _ (List.mem_of_getElem? (i := 9) rfl)) (hw _ (List.mem_of_getElem? (i := 10) rfl)) e62 (g := (mkF m 53 #[.val (.int q0), .val (.int nn), .val (.int va), .val (.int vb)] [])) rfl (hb hby d1_53) (by decide) (by decide)
      obtain ⟨st, g68⟩ : ∃ z, z = h0.size := ⟨_, rfl⟩
      rw [← g68] at A68 D68 st68
      have le_st : n0 ≤ st := by rw [g68]; exact Z0
      have sz_st : h0.size ≤ st := by rw [g68]; exact K0.1
      have Sf_st := Safe.ext E68 HC (Safe.new (EL := consts_1) (Z := Z) (vm := s.vm) (Nat.le_of_eq g68.symm))
      replace HR := HR.trans (CHr.ext E68 HC)
      replace HC := HC.ext E68
      replace O := O.ext E68
      replace hk0 := Nat.le_trans hk0 E68.1
      replace Z0 := Nat.le_trans Z0 E68.1
      replace K0 := K0.ext E68
      have Ex_st : Exa Z h68 st "java/lang/String" := A68
      have F_value_st : Fld Z h68 st "java/lang/String" "value" "[B" .null := D68 (Or.inr (hw _ (List.mem_of_getElem? (i := 24) rfl))) (ty := (.array .byte)) (by decide)
      have F_coder_st : Fld Z h68 st "java/lang/String" "coder" "B" (.int (0 : Int32)) := D68 (Or.inr (hw _ (List.mem_of_getElem? (i := 25) rfl))) (ty := .byte) (by decide)
      refine GoOn.step st68 ?_
      show GoOn p e below _ (T68.setTop (mkF m 56 #[.val (.int q0), .val (.int nn), .val (.int va), .val (.int vb)] [(.ref st)]))
      refine GoOn.step (fun t₀ k₀ => XS.dup X68.here hx rfl (hb hby d1_56) rfl rfl k₀) ?_
      show GoOn p e below _ (T68.setTop (mkF m 57 #[.val (.int q0), .val (.int nn), .val (.int va), .val (.int vb)] [(.ref st), (.ref st)]))
      refine GoOn.step (fun t₀ k₀ => XS.iconst X68.here hx rfl (hb hby d1_57) k₀) ?_
      show GoOn p e below _ (T68.setTop (mkF m 58 #[.val (.int q0), .val (.int nn), .val (.int va), .val (.int vb)] [(.int (2 : Int32)), (.ref st), (.ref st)]))
      obtain ⟨T69, h69, k69, X69, e69, E69, A69, st69⟩ := newP X68 hx hZ (hw _ (List.mem_of_getElem? (i := 11) rfl)) e68 (g := (mkF m 58 #[.val (.int q0), .val (.int nn), .val (.int va), .val (.int vb)] [(.int (2 : Int32)), (.ref st), (.ref st)])) rfl (hb hby d1_58) rfl (by decide) (cap := 2) (by decide) (by decide) (by decide) (by decide)
      obtain ⟨ca, g69⟩ : ∃ z, z = h68.size := ⟨_, rfl⟩
      rw [← g69] at A69 st69
      have lt_st_ca : st < ca := by rw [g69]; exact Ex_st.lt
      have ne_st_ca : st ≠ ca := Nat.ne_of_lt lt_st_ca
      have le_ca : n0 ≤ ca := by rw [g69]; exact Z0
      have sz_ca : h0.size ≤ ca := by rw [g69]; exact K0.1
      replace Sf_st := Safe.ext E69 HC Sf_st
      replace HR := HR.trans (CHr.ext E69 HC)
      replace HC := HC.ext E69
      replace Ex_st := Ex_st.ext E69
      replace F_value_st := F_value_st.ext E69
      replace F_coder_st := F_coder_st.ext E69
      replace O := O.ext E69
      replace hk0 := Nat.le_trans hk0 E69.1
      replace Z0 := Nat.le_trans Z0 E69.1
      replace K0 := K0.ext E69
      have J_ca : Jar Z h69 ca .char 2 (fun _ => defaultValue .char) := Jar.new A69 (by decide)
      refine GoOn.step st69 ?_
      show GoOn p e below _ (T69.setTop (mkF m 60 #[.val (.int q0), .val (.int nn), .val (.int va), .val (.int vb)] [(.ref ca), (.ref st), (.ref st)]))
      refine GoOn.step (fun t₀ k₀ => XS.dup X69.here hx rfl (hb hby d1_60) rfl rfl k₀) ?_
      show GoOn p e below _ (T69.setTop (mkF m 61 #[.val (.int q0), .val (.int nn), .val (.int va), .val (.int vb)] [(.ref ca), (.ref ca), (.ref st), (.ref st)]))
      refine GoOn.step (fun t₀ k₀ => XS.iconst X69.here hx rfl (hb hby d1_61) k₀) ?_
      show GoOn p e below _ (T69.setTop (mkF m 62 #[.val (.int q0), .val (.int nn), .val (.int va), .val (.int vb)] [(.int (0 : Int32)), (.ref ca), (.ref ca), (.ref st), (.ref st)]))
      refine GoOn.step (fun t₀ k₀ => XS.iloadN X69.here hx rfl (hb hby d1_62) rfl k₀) ?_
      show GoOn p e below _ (T69.setTop (mkF m 63 #[.val (.int q0), .val (.int nn), .val (.int va), .val (.int vb)] [(.int va), (.int (0 : Int32)), (.ref ca), (.ref ca), (.ref st), (.ref st)]))
      obtain ⟨T70, h70, X70, e70, W70, st70⟩ := kStC X69 hx hZ e69 J_ca (j := (0 : Int32)) ⟨by decide, by decide⟩ (g := (mkF m 63 #[.val (.int q0), .val (.int nn), .val (.int va), .val (.int vb)] [(.int va), (.int (0 : Int32)), (.ref ca), (.ref ca), (.ref st), (.ref st)])) rfl rfl (hb hby d1_63)
      replace N0 := Fr.snoc X70 N0 le_ca
      have sw71 : Safe Z consts_1 s.vm h69 ca := (safeJar hZ.alike J_ca (by decide))
      replace Sf_st := Safe.wr W70 sw71 HC Sf_st
      replace HR := HR.trans (CHr.wr W70 sw71 HC)
      replace HC := HC.wr W70 sw71
      replace Ex_st := Ex_st.wr W70
      replace F_value_st := F_value_st.other W70 (Or.inl ne_st_ca)
      replace F_coder_st := F_coder_st.other W70 (Or.inl ne_st_ca)
      replace J_ca := J_ca.set W70
      replace O := O.wr W70 le_ca
      replace hk0 := Nat.le_trans hk0 (Nat.le_of_eq W70.size.symm)
      replace Z0 := Nat.le_trans Z0 (Nat.le_of_eq W70.size.symm)
      replace K0 := K0.wr W70 (Or.inr sz_ca)
      refine GoOn.step st70 ?_
      show GoOn p e below _ (T70.setTop (mkF m 64 #[.val (.int q0), .val (.int nn), .val (.int va), .val (.int vb)] [(.ref ca), (.ref st), (.ref st)]))
      refine GoOn.step (fun t₀ k₀ => XS.dup X70.here hx rfl (hb hby d1_64) rfl rfl k₀) ?_
      show GoOn p e below _ (T70.setTop (mkF m 65 #[.val (.int q0), .val (.int nn), .val (.int va), .val (.int vb)] [(.ref ca), (.ref ca), (.ref st), (.ref st)]))
      refine GoOn.step (fun t₀ k₀ => XS.iconst X70.here hx rfl (hb hby d1_65) k₀) ?_
      show GoOn p e below _ (T70.setTop (mkF m 66 #[.val (.int q0), .val (.int nn), .val (.int va), .val (.int vb)] [(.int (1 : Int32)), (.ref ca), (.ref ca), (.ref st), (.ref st)]))
      refine GoOn.step (fun t₀ k₀ => XS.iloadN X70.here hx rfl (hb hby d1_66) rfl k₀) ?_
      show GoOn p e below _ (T70.setTop (mkF m 67 #[.val (.int q0), .val (.int nn), .val (.int va), .val (.int vb)] [(.int vb), (.int (1 : Int32)), (.ref ca), (.ref ca), (.ref st), (.ref st)]))
      obtain ⟨T72, h72, X72, e72, W72, st72⟩ := kStC X70 hx hZ e70 J_ca (j := (1 : Int32)) ⟨by decide, by decide⟩ (g := (mkF m 67 #[.val (.int q0), .val (.int nn), .val (.int va), .val (.int vb)] [(.int vb), (.int (1 : Int32)), (.ref ca), (.ref ca), (.ref st), (.ref st)])) rfl rfl (hb hby d1_67)
      replace N0 := Fr.snoc X72 N0 le_ca
      have sw73 : Safe Z consts_1 s.vm h70 ca := (safeJar hZ.alike J_ca (by decide))
      replace Sf_st := Safe.wr W72 sw73 HC Sf_st
      replace HR := HR.trans (CHr.wr W72 sw73 HC)
      replace HC := HC.wr W72 sw73
      replace Ex_st := Ex_st.wr W72
      replace F_value_st := F_value_st.other W72 (Or.inl ne_st_ca)
      replace F_coder_st := F_coder_st.other W72 (Or.inl ne_st_ca)
      replace J_ca := J_ca.set W72
      replace O := O.wr W72 le_ca
      replace hk0 := Nat.le_trans hk0 (Nat.le_of_eq W72.size.symm)
      replace Z0 := Nat.le_trans Z0 (Nat.le_of_eq W72.size.symm)
      replace K0 := K0.wr W72 (Or.inr sz_ca)
      refine GoOn.step st72 ?_
      show GoOn p e below _ (T72.setTop (mkF m 68 #[.val (.int q0), .val (.int nn), .val (.int va), .val (.int vb)] [(.ref ca), (.ref st), (.ref st)]))
      have Jc : Jar Z h72 ca .char 2 (fun i => .int (gg va vb i)) := jc2 J_ca (by simp [gg, nc0, nc1, idC ba, idC bv]) (by simp [gg, nc0, nc1, idC ba, idC bv])
      obtain ⟨_, T74, L74, X74, hQ74, st74⟩ := kCallI X72 hx hZ (a := st) (argsL := [(.ref ca)]) (rest := [(.ref st)]) (c_in2 l Z a0 hw st ca (gg va vb) cs fv h72 n0 Z0 O SS Ex_st F_value_st F_coder_st le_st Jc (gg_ch ba bv)) rfl hown (hw _ (List.mem_of_getElem? (i := 12) rfl)) (hw _ (List.mem_of_getElem? (i := 13) rfl)) (hw _ (List.mem_of_getElem? (i := 10) rfl)) (hw _ (List.mem_of_getElem? (i := 14) rfl)) (by decide) e72 (g := (mkF m 68 #[.val (.int q0), .val (.int nn), .val (.int va), .val (.int vb)] [(.ref ca), (.ref st), (.ref st)])) rfl (by rw [hml]; rfl) (lenOf pd_13 rfl) rfl (W := 1) (by show 2 * 0 + _ ≤ _; exact Nat.le_of_eq rfl) (hb hby d1_68) (by decide) (by decide) (by decide) (by decide)
      obtain ⟨rfl, N74, K74, SO⟩ := hQ74
      replace N0 := Fr.app N0 N74
      replace K0 := K0.trans K74 (allS (Or.inr sz_st) all0)
      have sw75 : ∀ z_ ∈ ([st] : List Addr), Safe Z consts_1 s.vm h72 z_ := (allS Sf_st all0)
      replace Sf_st := Safe.keep K74 sw75 HC Sf_st
      replace HR := HR.trans (CHr.keep K74 sw75 HC)
      replace HC := HC.keep K74 sw75
      replace hk0 := Nat.le_trans hk0 K74.1
      refine GoOn.step st74 ?_
      show GoOn p e below _ (T74.setTop (mkF m 71 #[.val (.int q0), .val (.int nn), .val (.int va), .val (.int vb)] [(.ref st)]))
      exact GoOn.retRG X74 hS0 hk0 hx hrt rfl hlk rfl (hb hby d1_71) (by decide) (by decide) ⟨HR.trans (CHv.at (s := s) (vm0 := s.vm) X74 hZ (ew_1 hw) HC), st, 2, gg va vb, rfl, N0, K0, by decide, gg_ch ba bv, SO⟩
def Xnew (Z : State) (h : Heap) (x : Addr) : Prop := Exa Z h x "com/example/ashlar_gate/ashlargate/model/InvalidValueException" ∧ Unt h x ∧ Fld Z h x "java/lang/Throwable" "cause" "Ljava/lang/Throwable;" .null ∧ Fld Z h x "java/lang/Throwable" "stackTrace" "[Ljava/lang/StackTraceElement;" .null ∧ Fld Z h x "java/lang/Throwable" "suppressedExceptions" "Ljava/util/List;" .null ∧ Fld Z h x "java/lang/Throwable" "backtrace" "Ljava/lang/Object;" .null ∧ Fld Z h x "java/lang/Throwable" "detailMessage" "Ljava/lang/String;" .null ∧ Fld Z h x "com/example/ashlar_gate/ashlargate/model/InvalidValueException" "rule" "Ljava/lang/String;" .null
def Tst (Z : State) (us sn : Value) : Prop := us.isRef = true ∧ sn.isRef = true ∧ Sta Z Z.heap "java/lang/Throwable" "UNASSIGNED_STACK" "[Ljava/lang/StackTraceElement;" us ∧ Sta Z Z.heap "java/lang/Throwable" "SUPPRESSED_SENTINEL" "Ljava/util/List;" sn
def TiQ (Z : State) (x rq : Addr) (h0 : Heap) (n0 : Nat) : Option Value → Heap → List Loc → Prop := fun v h L => v = none ∧ Fr n0 L ∧ Keep h0 h [x] ∧ Exa Z h x "com/example/ashlar_gate/ashlargate/model/InvalidValueException" ∧ Fld Z h x "java/lang/Throwable" "detailMessage" "Ljava/lang/String;" (.ref rq) ∧ Fld Z h x "com/example/ashlar_gate/ashlargate/model/InvalidValueException" "rule" "Ljava/lang/String;" .null
def ExQ (Z : State) (x ru rq : Addr) (h0 : Heap) (n0 : Nat) : Option Value → Heap → List Loc → Prop := fun v h L => v = none ∧ Fr n0 L ∧ Keep h0 h [x] ∧ Exa Z h x "com/example/ashlar_gate/ashlargate/model/InvalidValueException" ∧ Fld Z h x "java/lang/Throwable" "detailMessage" "Ljava/lang/String;" (.ref rq) ∧ Fld Z h x "com/example/ashlar_gate/ashlargate/model/InvalidValueException" "rule" "Ljava/lang/String;" (.ref ru)
theorem ef_c_ti (m : MethodId) (x0 : Addr) (x1 : Addr) : entryFrame m #[(.ref x0), (.ref x1)] 2 = mkF m 0 #[.val (.ref x0), .val (.ref x1)] [] := by first | (simp [entryFrame, mkF, argsToLocals, Value.category]; done) | rfl
set_option maxRecDepth 65536 in
set_option maxHeartbeats 40000000 in
theorem c_ti (l : Launch) (Z : State) (a0 : Array Value) (hw : ∀ d ∈ tables_1, d.before a0 Z = true) (x rq : Addr) (us sn : Value) (h0 : Heap) (n0 : Nat) (Z0 : n0 ≤ h0.size) (O : Old Z n0 h0) (hl : l.stackTraces = true) (TT : Tst Z us sn) (XN : Xnew Z h0 x) (gx : n0 ≤ x) :
    ConK l Z (⟨"java/lang/Throwable", "<init>", "(Ljava/lang/String;)V"⟩ : MethodName) jdk_78_method_2_code 2 none ({ frames := 3, cells := 1, slots := 2752, locals := 42 } : Room) #[(.ref x), (.ref rq)] h0 (TiQ Z x rq h0 n0) := by
  refine ConK.intro (plainFor_of_name pn_5) ?_
  intro p e s m below meth c s₁ hx hby hml hrt hlk hZ hown hnm hTK hsh X0 e0
  replace hown : s.vm.findClass "java/lang/Throwable" = some m.cls := hown
  have N0 := Fr.nil n0
  refine GoOn.cast (ef_c_ti m x rq) ?_
  show GoOn p e below _ (s₁.setTop (mkF m 0 #[.val (.ref x), .val (.ref rq)] []))
  have K0 : Keep h0 h0 [x] := Keep.refl _ _
  obtain ⟨hus, hsn, S1, S2⟩ := id TT
  replace S1 := S1.ext O.2
  replace S2 := S2.ext O.2
  obtain ⟨Ex, Un, Fca, Fst, Fsu, Fba, Fdm, Fru⟩ := XN
  refine GoOn.step (fun t₀ k₀ => XS.aloadN X0.here hx rfl (hb hby d8_0) rfl rfl k₀) ?_
  show GoOn p e below _ (s₁.setTop (mkF m 1 #[.val (.ref x), .val (.ref rq)] [(.ref x)]))
  obtain ⟨T76, X76, e76, st76⟩ := initO X0 hx hZ hown (hw _ (List.mem_of_getElem? (i := 47) rfl)) (hw _ (List.mem_of_getElem? (i := 20) rfl)) (hw _ (List.mem_of_getElem? (i := 21) rfl)) e0 (g := (mkF m 1 #[.val (.ref x), .val (.ref rq)] [(.ref x)])) rfl (by rw [hml]; rfl) rfl (hb hby d8_1) (by decide) (W := 0) (by show 2 * 0 + _ ≤ _; exact Nat.le_of_eq rfl) (by decide)
  refine GoOn.step st76 ?_
  show GoOn p e below _ (T76.setTop (mkF m 4 #[.val (.ref x), .val (.ref rq)] []))
  refine GoOn.step (fun t₀ k₀ => XS.aloadN X76.here hx rfl (hb hby d8_4) rfl rfl k₀) ?_
  show GoOn p e below _ (T76.setTop (mkF m 5 #[.val (.ref x), .val (.ref rq)] [(.ref x)]))
  refine GoOn.step (fun t₀ k₀ => XS.aloadN X76.here hx rfl (hb hby d8_5) rfl rfl k₀) ?_
  show GoOn p e below _ (T76.setTop (mkF m 6 #[.val (.ref x), .val (.ref rq)] [(.ref x), (.ref x)]))
  obtain ⟨T77, h77, X77, e77, W77, st77⟩ := putF X76 hx hZ hown (host := "") (Or.inl (hw _ (List.mem_of_getElem? (i := 48) rfl))) Via.refl e76 Fca Ex (Or.inl (hw _ (List.mem_of_getElem? (i := 49) rfl))) (hw _ (List.mem_of_getElem? (i := 31) rfl)) (ty := (.object "java/lang/Throwable")) (by decide) rfl rfl (g := (mkF m 6 #[.val (.ref x), .val (.ref rq)] [(.ref x), (.ref x)])) rfl rfl (hb hby d8_6)
  replace N0 := Fr.snoc X77 N0 gx
  replace Ex := Ex.wr W77
  replace Un := own_untw Un W77
  replace S1 := S1.wr W77
  replace S2 := S2.wr W77
  replace Fca := Fld.same W77 Fca
  replace Fst := Fst.other W77 (Or.inr (slot_ne (Or.inl (hw _ (List.mem_of_getElem? (i := 52) rfl))) (Or.inl (hw _ (List.mem_of_getElem? (i := 49) rfl))) (by decide) (t := (.array (.object "java/lang/StackTraceElement"))) (t' := (.object "java/lang/Throwable")) (by decide) (by decide)))
  replace Fsu := Fsu.other W77 (Or.inr (slot_ne (Or.inl (hw _ (List.mem_of_getElem? (i := 55) rfl))) (Or.inl (hw _ (List.mem_of_getElem? (i := 49) rfl))) (by decide) (t := (.object "java/util/List")) (t' := (.object "java/lang/Throwable")) (by decide) (by decide)))
  replace Fba := Fba.other W77 (Or.inr (slot_ne (Or.inl (hw _ (List.mem_of_getElem? (i := 80) rfl))) (Or.inl (hw _ (List.mem_of_getElem? (i := 49) rfl))) (by decide) (t := (.object "java/lang/Object")) (t' := (.object "java/lang/Throwable")) (by decide) (by decide)))
  replace Fdm := Fdm.other W77 (Or.inr (slot_ne (Or.inl (hw _ (List.mem_of_getElem? (i := 79) rfl))) (Or.inl (hw _ (List.mem_of_getElem? (i := 49) rfl))) (by decide) (t := (.object "java/lang/String")) (t' := (.object "java/lang/Throwable")) (by decide) (by decide)))
  replace Fru := Fru.other W77 (Or.inr (slot_ne (Or.inr (hw _ (List.mem_of_getElem? (i := 85) rfl))) (Or.inl (hw _ (List.mem_of_getElem? (i := 49) rfl))) (by decide) (t := (.object "java/lang/String")) (t' := (.object "java/lang/Throwable")) (by decide) (by decide)))
  replace Z0 := Nat.le_trans Z0 (Nat.le_of_eq W77.size.symm)
  replace K0 := K0.wr W77 (Or.inl (by simp))
  refine GoOn.step st77 ?_
  show GoOn p e below _ (T77.setTop (mkF m 9 #[.val (.ref x), .val (.ref rq)] []))
  refine GoOn.step (fun t₀ k₀ => XS.aloadN X77.here hx rfl (hb hby d8_9) rfl rfl k₀) ?_
  show GoOn p e below _ (T77.setTop (mkF m 10 #[.val (.ref x), .val (.ref rq)] [(.ref x)]))
  obtain ⟨T78, X78, e78, st78⟩ := getS2 X77 hx hZ hown (host := "") (Or.inl (hw _ (List.mem_of_getElem? (i := 50) rfl))) Via.refl e77 S1 (g := (mkF m 10 #[.val (.ref x), .val (.ref rq)] [(.ref x)])) rfl (hb hby d8_10)
  refine GoOn.step st78 ?_
  show GoOn p e below _ (T78.setTop (mkF m 13 #[.val (.ref x), .val (.ref rq)] [us, (.ref x)]))
  obtain ⟨T79, h79, X79, e79, W79, st79⟩ := putF X78 hx hZ hown (host := "") (Or.inl (hw _ (List.mem_of_getElem? (i := 51) rfl))) Via.refl e78 Fst Ex (Or.inl (hw _ (List.mem_of_getElem? (i := 52) rfl))) (hw _ (List.mem_of_getElem? (i := 31) rfl)) (ty := (.array (.object "java/lang/StackTraceElement"))) (by decide) (narA _) (fitA hus) (g := (mkF m 13 #[.val (.ref x), .val (.ref rq)] [us, (.ref x)])) rfl rfl (hb hby d8_13)
  replace N0 := Fr.snoc X79 N0 gx
  replace Ex := Ex.wr W79
  replace Un := own_untw Un W79
  replace S1 := S1.wr W79
  replace S2 := S2.wr W79
  replace Fca := Fca.other W79 (Or.inr (slot_ne (Or.inl (hw _ (List.mem_of_getElem? (i := 49) rfl))) (Or.inl (hw _ (List.mem_of_getElem? (i := 52) rfl))) (by decide) (t := (.object "java/lang/Throwable")) (t' := (.array (.object "java/lang/StackTraceElement"))) (by decide) (by decide)))
  replace Fst := Fld.same W79 Fst
  replace Fsu := Fsu.other W79 (Or.inr (slot_ne (Or.inl (hw _ (List.mem_of_getElem? (i := 55) rfl))) (Or.inl (hw _ (List.mem_of_getElem? (i := 52) rfl))) (by decide) (t := (.object "java/util/List")) (t' := (.array (.object "java/lang/StackTraceElement"))) (by decide) (by decide)))
  replace Fba := Fba.other W79 (Or.inr (slot_ne (Or.inl (hw _ (List.mem_of_getElem? (i := 80) rfl))) (Or.inl (hw _ (List.mem_of_getElem? (i := 52) rfl))) (by decide) (t := (.object "java/lang/Object")) (t' := (.array (.object "java/lang/StackTraceElement"))) (by decide) (by decide)))
  replace Fdm := Fdm.other W79 (Or.inr (slot_ne (Or.inl (hw _ (List.mem_of_getElem? (i := 79) rfl))) (Or.inl (hw _ (List.mem_of_getElem? (i := 52) rfl))) (by decide) (t := (.object "java/lang/String")) (t' := (.array (.object "java/lang/StackTraceElement"))) (by decide) (by decide)))
  replace Fru := Fru.other W79 (Or.inr (slot_ne (Or.inr (hw _ (List.mem_of_getElem? (i := 85) rfl))) (Or.inl (hw _ (List.mem_of_getElem? (i := 52) rfl))) (by decide) (t := (.object "java/lang/String")) (t' := (.array (.object "java/lang/StackTraceElement"))) (by decide) (by decide)))
  replace Z0 := Nat.le_trans Z0 (Nat.le_of_eq W79.size.symm)
  replace K0 := K0.wr W79 (Or.inl (by simp))
  refine GoOn.step st79 ?_
  show GoOn p e below _ (T79.setTop (mkF m 16 #[.val (.ref x), .val (.ref rq)] []))
  refine GoOn.step (fun t₀ k₀ => XS.aloadN X79.here hx rfl (hb hby d8_16) rfl rfl k₀) ?_
  show GoOn p e below _ (T79.setTop (mkF m 17 #[.val (.ref x), .val (.ref rq)] [(.ref x)]))
  obtain ⟨T80, X80, e80, st80⟩ := getS2 X79 hx hZ hown (host := "") (Or.inl (hw _ (List.mem_of_getElem? (i := 53) rfl))) Via.refl e79 S2 (g := (mkF m 17 #[.val (.ref x), .val (.ref rq)] [(.ref x)])) rfl (hb hby d8_17)
  refine GoOn.step st80 ?_
  show GoOn p e below _ (T80.setTop (mkF m 20 #[.val (.ref x), .val (.ref rq)] [sn, (.ref x)]))
  obtain ⟨T81, h81, X81, e81, W81, st81⟩ := putF X80 hx hZ hown (host := "") (Or.inl (hw _ (List.mem_of_getElem? (i := 54) rfl))) Via.refl e80 Fsu Ex (Or.inl (hw _ (List.mem_of_getElem? (i := 55) rfl))) (hw _ (List.mem_of_getElem? (i := 31) rfl)) (ty := (.object "java/util/List")) (by decide) (narO _) (fitO hsn) (g := (mkF m 20 #[.val (.ref x), .val (.ref rq)] [sn, (.ref x)])) rfl rfl (hb hby d8_20)
  replace N0 := Fr.snoc X81 N0 gx
  replace Ex := Ex.wr W81
  replace Un := own_untw Un W81
  replace S1 := S1.wr W81
  replace S2 := S2.wr W81
  replace Fca := Fca.other W81 (Or.inr (slot_ne (Or.inl (hw _ (List.mem_of_getElem? (i := 49) rfl))) (Or.inl (hw _ (List.mem_of_getElem? (i := 55) rfl))) (by decide) (t := (.object "java/lang/Throwable")) (t' := (.object "java/util/List")) (by decide) (by decide)))
  replace Fst := Fst.other W81 (Or.inr (slot_ne (Or.inl (hw _ (List.mem_of_getElem? (i := 52) rfl))) (Or.inl (hw _ (List.mem_of_getElem? (i := 55) rfl))) (by decide) (t := (.array (.object "java/lang/StackTraceElement"))) (t' := (.object "java/util/List")) (by decide) (by decide)))
  replace Fsu := Fld.same W81 Fsu
  replace Fba := Fba.other W81 (Or.inr (slot_ne (Or.inl (hw _ (List.mem_of_getElem? (i := 80) rfl))) (Or.inl (hw _ (List.mem_of_getElem? (i := 55) rfl))) (by decide) (t := (.object "java/lang/Object")) (t' := (.object "java/util/List")) (by decide) (by decide)))
  replace Fdm := Fdm.other W81 (Or.inr (slot_ne (Or.inl (hw _ (List.mem_of_getElem? (i := 79) rfl))) (Or.inl (hw _ (List.mem_of_getElem? (i := 55) rfl))) (by decide) (t := (.object "java/lang/String")) (t' := (.object "java/util/List")) (by decide) (by decide)))
  replace Fru := Fru.other W81 (Or.inr (slot_ne (Or.inr (hw _ (List.mem_of_getElem? (i := 85) rfl))) (Or.inl (hw _ (List.mem_of_getElem? (i := 55) rfl))) (by decide) (t := (.object "java/lang/String")) (t' := (.object "java/util/List")) (by decide) (by decide)))
  replace Z0 := Nat.le_trans Z0 (Nat.le_of_eq W81.size.symm)
  replace K0 := K0.wr W81 (Or.inl (by simp))
  refine GoOn.step st81 ?_
  show GoOn p e below _ (T81.setTop (mkF m 23 #[.val (.ref x), .val (.ref rq)] []))
  refine GoOn.step (fun t₀ k₀ => XS.aloadN X81.here hx rfl (hb hby d8_23) rfl rfl k₀) ?_
  show GoOn p e below _ (T81.setTop (mkF m 24 #[.val (.ref x), .val (.ref rq)] [(.ref x)]))
  obtain ⟨T82, h82, L82, X82, e82, hL82, hK82, Ey, FP, st82⟩ := own_fill X81 hx hl hZ hw (hw _ (List.mem_of_getElem? (i := 31) rfl)) (by rw [hsh]; exact ThS.ext O.2 ThS.start) hTK hown e81 Ex Un Fba hus Fst S1 (fun y hy => by simp only [List.nil_append, List.append_assoc, List.mem_append, List.mem_cons, List.not_mem_nil, or_false, List.cons_append] at hy; rcases hy with rfl | rfl | rfl <;> rfl) (g := (mkF m 24 #[.val (.ref x), .val (.ref rq)] [(.ref x)])) rfl (by rw [hml]; rfl) rfl (hb hby d8_24) (by decide) (by show 2 * 0 + 42 ≤ 42; decide) (by decide) (by decide)
  replace Fdm := FP Fdm (Jvm.RoadKit.slot_ne (C := "com/example/ashlar_gate/ashlargate/model/InvalidValueException") (Or.inl (hw _ (List.mem_of_getElem? (i := 80) rfl))) (Or.inl (hw _ (List.mem_of_getElem? (i := 79) rfl))) (by decide) (t := (.object "java/lang/Object")) (t' := (.object "java/lang/String")) (by decide) (by decide)) (Jvm.RoadKit.slot_ne (C := "com/example/ashlar_gate/ashlargate/model/InvalidValueException") (Or.inl (hw _ (List.mem_of_getElem? (i := 81) rfl))) (Or.inl (hw _ (List.mem_of_getElem? (i := 79) rfl))) (by decide) (t := .int) (t' := (.object "java/lang/String")) (by decide) (by decide)) (Jvm.RoadKit.slot_ne (C := "com/example/ashlar_gate/ashlargate/model/InvalidValueException") (Or.inl (hw _ (List.mem_of_getElem? (i := 52) rfl))) (Or.inl (hw _ (List.mem_of_getElem? (i := 79) rfl))) (by decide) (t := (.array (.object "java/lang/StackTraceElement"))) (t' := (.object "java/lang/String")) (by decide) (by decide))
  replace Fru := FP Fru (Jvm.RoadKit.slot_ne (C := "com/example/ashlar_gate/ashlargate/model/InvalidValueException") (Or.inl (hw _ (List.mem_of_getElem? (i := 80) rfl))) (Or.inr (hw _ (List.mem_of_getElem? (i := 85) rfl))) (by decide) (t := (.object "java/lang/Object")) (t' := (.object "java/lang/String")) (by decide) (by decide)) (Jvm.RoadKit.slot_ne (C := "com/example/ashlar_gate/ashlargate/model/InvalidValueException") (Or.inl (hw _ (List.mem_of_getElem? (i := 81) rfl))) (Or.inr (hw _ (List.mem_of_getElem? (i := 85) rfl))) (by decide) (t := .int) (t' := (.object "java/lang/String")) (by decide) (by decide)) (Jvm.RoadKit.slot_ne (C := "com/example/ashlar_gate/ashlargate/model/InvalidValueException") (Or.inl (hw _ (List.mem_of_getElem? (i := 52) rfl))) (Or.inr (hw _ (List.mem_of_getElem? (i := 85) rfl))) (by decide) (t := (.array (.object "java/lang/StackTraceElement"))) (t' := (.object "java/lang/String")) (by decide) (by decide))
  replace K0 : Keep h0 h82 [x] := (by rw [← hsh]; exact hK82)
  replace N0 := Fr.app N0 (fun y hy => (by rw [hL82 y hy]; exact gx : n0 ≤ y.base))
  refine GoOn.step st82 ?_
  show GoOn p e below _ (T82.setTop (mkF m 27 #[.val (.ref x), .val (.ref rq)] [(.ref x)]))
  refine GoOn.step (fun t₀ k₀ => XS.pop X82.here hx rfl (hb hby d8_27) rfl rfl k₀) ?_
  show GoOn p e below _ (T82.setTop (mkF m 28 #[.val (.ref x), .val (.ref rq)] []))
  refine GoOn.step (fun t₀ k₀ => XS.aloadN X82.here hx rfl (hb hby d8_28) rfl rfl k₀) ?_
  show GoOn p e below _ (T82.setTop (mkF m 29 #[.val (.ref x), .val (.ref rq)] [(.ref x)]))
  refine GoOn.step (fun t₀ k₀ => XS.aloadN X82.here hx rfl (hb hby d8_29) rfl rfl k₀) ?_
  show GoOn p e below _ (T82.setTop (mkF m 30 #[.val (.ref x), .val (.ref rq)] [(.ref rq), (.ref x)]))
  obtain ⟨T83, h83, X83, e83, W83, st83⟩ := putF X82 hx hZ hown (host := "") (Or.inl (hw _ (List.mem_of_getElem? (i := 83) rfl))) Via.refl e82 Fdm Ey (Or.inl (hw _ (List.mem_of_getElem? (i := 79) rfl))) (hw _ (List.mem_of_getElem? (i := 31) rfl)) (ty := (.object "java/lang/String")) (by decide) rfl rfl (g := (mkF m 30 #[.val (.ref x), .val (.ref rq)] [(.ref rq), (.ref x)])) rfl rfl (hb hby d8_30)
  replace N0 := Fr.snoc X83 N0 gx
  replace Ey := Ey.wr W83
  replace Fdm := Fld.same W83 Fdm
  replace Fru := Fru.other W83 (Or.inr (slot_ne (Or.inr (hw _ (List.mem_of_getElem? (i := 85) rfl))) (Or.inl (hw _ (List.mem_of_getElem? (i := 79) rfl))) (by decide) (t := (.object "java/lang/String")) (t' := (.object "java/lang/String")) (by decide) (by decide)))
  replace K0 := K0.wr W83 (Or.inl (by simp))
  refine GoOn.step st83 ?_
  show GoOn p e below _ (T83.setTop (mkF m 33 #[.val (.ref x), .val (.ref rq)] []))
  exact GoOn.ret0 X83 hx hrt hlk (hb hby d8_33) (by decide) (by decide) (by first | exact ⟨rfl, N0, K0, Ey, Fdm, Fru⟩ | (rw [e83]; exact ⟨rfl, N0, K0, Ey, Fdm, Fru⟩))
theorem ef_c_ei (m : MethodId) (x0 : Addr) (x1 : Addr) : entryFrame m #[(.ref x0), (.ref x1)] 2 = mkF m 0 #[.val (.ref x0), .val (.ref x1)] [] := by first | (simp [entryFrame, mkF, argsToLocals, Value.category]; done) | rfl
set_option maxRecDepth 65536 in
set_option maxHeartbeats 40000000 in
theorem c_ei (l : Launch) (Z : State) (a0 : Array Value) (hw : ∀ d ∈ tables_1, d.before a0 Z = true) (x rq : Addr) (us sn : Value) (h0 : Heap) (n0 : Nat) (Z0 : n0 ≤ h0.size) (O : Old Z n0 h0) (hl : l.stackTraces = true) (TT : Tst Z us sn) (XN : Xnew Z h0 x) (gx : n0 ≤ x) :
    ConK l Z (⟨"java/lang/Exception", "<init>", "(Ljava/lang/String;)V"⟩ : MethodName) jdk_59_method_2_code 2 none ({ frames := 4, cells := 1, slots := 2752, locals := 56 } : Room) #[(.ref x), (.ref rq)] h0 (TiQ Z x rq h0 n0) := by
  refine ConK.intro (plainFor_of_name pn_6) ?_
  intro p e s m below meth c s₁ hx hby hml hrt hlk hZ hown hnm hTK hsh X0 e0
  replace hown : s.vm.findClass "java/lang/Exception" = some m.cls := hown
  have N0 := Fr.nil n0
  refine GoOn.cast (ef_c_ei m x rq) ?_
  show GoOn p e below _ (s₁.setTop (mkF m 0 #[.val (.ref x), .val (.ref rq)] []))
  refine GoOn.step (fun t₀ k₀ => XS.aloadN X0.here hx rfl (hb hby d7_0) rfl rfl k₀) ?_
  show GoOn p e below _ (s₁.setTop (mkF m 1 #[.val (.ref x), .val (.ref rq)] [(.ref x)]))
  refine GoOn.step (fun t₀ k₀ => XS.aloadN X0.here hx rfl (hb hby d7_1) rfl rfl k₀) ?_
  show GoOn p e below _ (s₁.setTop (mkF m 2 #[.val (.ref x), .val (.ref rq)] [(.ref rq), (.ref x)]))
  obtain ⟨_, T84, L84, X84, hQ84, st84⟩ := kCallIK X0 hx hZ (a := x) (argsL := [(.ref rq)]) (rest := []) (c_ti l Z a0 hw x rq us sn h0 n0 Z0 O hl TT XN gx) hTK rfl hown (hw _ (List.mem_of_getElem? (i := 41) rfl)) (hw _ (List.mem_of_getElem? (i := 42) rfl)) (hw _ (List.mem_of_getElem? (i := 45) rfl)) (hw _ (List.mem_of_getElem? (i := 46) rfl)) (by decide) e0 (g := (mkF m 2 #[.val (.ref x), .val (.ref rq)] [(.ref rq), (.ref x)])) rfl (by rw [hml]; rfl) (lenOf pd_15 rfl) rfl (W := 0) (by show 2 * 0 + _ ≤ _; exact Nat.le_of_eq rfl) (hb hby d7_2) (by decide) (by decide) (by decide) (by decide)
  obtain ⟨rfl, N84, K84, HQ⟩ := hQ84
  replace N0 := Fr.app N0 N84
  have K0 := K84
  refine GoOn.step st84 ?_
  show GoOn p e below _ (T84.setTop (mkF m 5 #[.val (.ref x), .val (.ref rq)] []))
  exact GoOn.ret0 X84 hx hrt hlk (hb hby d7_5) (by decide) (by decide) ⟨rfl, N0, K0, HQ⟩
theorem ef_c_ex (m : MethodId) (x0 : Addr) (x1 : Addr) (x2 : Addr) : entryFrame m #[(.ref x0), (.ref x1), (.ref x2)] 3 = mkF m 0 #[.val (.ref x0), .val (.ref x1), .val (.ref x2)] [] := by first | (simp [entryFrame, mkF, argsToLocals, Value.category]; done) | rfl
set_option maxRecDepth 65536 in
set_option maxHeartbeats 40000000 in
theorem c_ex (l : Launch) (Z : State) (a0 : Array Value) (hw : ∀ d ∈ tables_1, d.before a0 Z = true) (x ru rq : Addr) (us sn : Value) (h0 : Heap) (n0 : Nat) (Z0 : n0 ≤ h0.size) (O : Old Z n0 h0) (hl : l.stackTraces = true) (TT : Tst Z us sn) (XN : Xnew Z h0 x) (gx : n0 ≤ x) :
    ConK l Z (⟨"com/example/ashlar_gate/ashlargate/model/InvalidValueException", "<init>", "(Ljava/lang/String;Ljava/lang/String;)V"⟩ : MethodName) prog_12_method_1_code 3 none ({ frames := 5, cells := 1, slots := 2752, locals := 70 } : Room) #[(.ref x), (.ref ru), (.ref rq)] h0 (ExQ Z x ru rq h0 n0) := by
  refine ConK.intro (plainFor_of_name pn_7) ?_
  intro p e s m below meth c s₁ hx hby hml hrt hlk hZ hown hnm hTK hsh X0 e0
  replace hown : s.vm.findClass "com/example/ashlar_gate/ashlargate/model/InvalidValueException" = some m.cls := hown
  have N0 := Fr.nil n0
  refine GoOn.cast (ef_c_ex m x ru rq) ?_
  show GoOn p e below _ (s₁.setTop (mkF m 0 #[.val (.ref x), .val (.ref ru), .val (.ref rq)] []))
  refine GoOn.step (fun t₀ k₀ => XS.aloadN X0.here hx rfl (hb hby d6_0) rfl rfl k₀) ?_
  show GoOn p e below _ (s₁.setTop (mkF m 1 #[.val (.ref x), .val (.ref ru), .val (.ref rq)] [(.ref x)]))
  refine GoOn.step (fun t₀ k₀ => XS.aloadN X0.here hx rfl (hb hby d6_1) rfl rfl k₀) ?_
  show GoOn p e below _ (s₁.setTop (mkF m 2 #[.val (.ref x), .val (.ref ru), .val (.ref rq)] [(.ref rq), (.ref x)]))
  obtain ⟨_, T85, L85, X85, hQ85, st85⟩ := kCallIK X0 hx hZ (a := x) (argsL := [(.ref rq)]) (rest := []) (c_ei l Z a0 hw x rq us sn h0 n0 Z0 O hl TT XN gx) hTK rfl hown (hw _ (List.mem_of_getElem? (i := 36) rfl)) (hw _ (List.mem_of_getElem? (i := 37) rfl)) (hw _ (List.mem_of_getElem? (i := 39) rfl)) (hw _ (List.mem_of_getElem? (i := 40) rfl)) (by decide) e0 (g := (mkF m 2 #[.val (.ref x), .val (.ref ru), .val (.ref rq)] [(.ref rq), (.ref x)])) rfl (by rw [hml]; rfl) (lenOf pd_15 rfl) rfl (W := 0) (by show 2 * 0 + _ ≤ _; exact Nat.le_of_eq rfl) (hb hby d6_2) (by decide) (by decide) (by decide) (by decide)
  obtain ⟨rfl, N85, K85, Ey, Fdm, Fru⟩ := hQ85
  replace N0 := Fr.app N0 N85
  have K0 := K85
  refine GoOn.step st85 ?_
  show GoOn p e below _ (T85.setTop (mkF m 5 #[.val (.ref x), .val (.ref ru), .val (.ref rq)] []))
  refine GoOn.step (fun t₀ k₀ => XS.aloadN X85.here hx rfl (hb hby d6_5) rfl rfl k₀) ?_
  show GoOn p e below _ (T85.setTop (mkF m 6 #[.val (.ref x), .val (.ref ru), .val (.ref rq)] [(.ref x)]))
  refine GoOn.step (fun t₀ k₀ => XS.aloadN X85.here hx rfl (hb hby d6_6) rfl rfl k₀) ?_
  show GoOn p e below _ (T85.setTop (mkF m 7 #[.val (.ref x), .val (.ref ru), .val (.ref rq)] [(.ref ru), (.ref x)]))
  obtain ⟨T86, h86, X86, e86, W86, st86⟩ := putF X85 hx hZ hown (host := "") (Or.inl (hw _ (List.mem_of_getElem? (i := 84) rfl))) Via.refl rfl Fru Ey (Or.inr ⟨(hw _ (List.mem_of_getElem? (i := 85) rfl)), rfl, hnm⟩) (hw _ (List.mem_of_getElem? (i := 31) rfl)) (ty := (.object "java/lang/String")) (by decide) rfl rfl (g := (mkF m 7 #[.val (.ref x), .val (.ref ru), .val (.ref rq)] [(.ref ru), (.ref x)])) rfl rfl (hb hby d6_7)
  replace N0 := Fr.snoc X86 N0 gx
  replace Ey := Ey.wr W86
  replace Fdm := Fdm.other W86 (Or.inr (slot_ne (Or.inl (hw _ (List.mem_of_getElem? (i := 79) rfl))) (Or.inr (hw _ (List.mem_of_getElem? (i := 85) rfl))) (by decide) (t := (.object "java/lang/String")) (t' := (.object "java/lang/String")) (by decide) (by decide)))
  replace Fru := Fld.same W86 Fru
  replace K0 := K0.wr W86 (Or.inl (by simp))
  refine GoOn.step st86 ?_
  show GoOn p e below _ (T86.setTop (mkF m 10 #[.val (.ref x), .val (.ref ru), .val (.ref rq)] []))
  exact GoOn.ret0 X86 hx hrt hlk (hb hby d6_10) (by decide) (by decide) (by first | exact ⟨rfl, N0, K0, Ey, Fdm, Fru⟩ | (rw [e86]; exact ⟨rfl, N0, K0, Ey, Fdm, Fru⟩))
def BiQ (Z : State) (sb : Addr) (h0 : Heap) (n0 : Nat) : Option Value → Heap → List Loc → Prop := fun v h L => v = none ∧ Fr n0 L ∧ Keep h0 h [sb] ∧ ∃ bb, h0.size ≤ bb ∧ Exa Z h sb "java/lang/StringBuilder" ∧ Fld Z h sb "java/lang/AbstractStringBuilder" "value" "[B" (.ref bb) ∧ Fld Z h sb "java/lang/AbstractStringBuilder" "coder" "B" (.int (0 : Int32)) ∧ Fld Z h sb "java/lang/AbstractStringBuilder" "count" "I" (.int (0 : Int32)) ∧ Jar Z h bb .byte 16 (fun _ => .int (0 : Int32))
def GbQ (Z : State) (bb : Addr) (G : Nat → Int32) (h0 : Heap) (n0 : Nat) : Option Value → Heap → List Loc → Prop := fun v h L => v = none ∧ Fr n0 L ∧ Keep h0 h [bb] ∧ Jar Z h bb .byte 16 (fun i => .int (G i))
def ApQ (Z : State) (sb bb : Addr) (n : Nat) (G : Nat → Int32) (h0 : Heap) (n0 : Nat) : Option Value → Heap → List Loc → Prop := fun v h L => v = some (.ref sb) ∧ Fr n0 L ∧ Keep h0 h [sb, bb] ∧ Exa Z h sb "java/lang/StringBuilder" ∧ Fld Z h sb "java/lang/AbstractStringBuilder" "value" "[B" (.ref bb) ∧ Fld Z h sb "java/lang/AbstractStringBuilder" "coder" "B" (.int (0 : Int32)) ∧ Fld Z h sb "java/lang/AbstractStringBuilder" "count" "I" (.int n.toInt32) ∧ Jar Z h bb .byte 16 (fun i => .int (G i))
def SyQ (Z : State) (a : Addr) (n : Nat) (F : Nat → Int32) (h0 : Heap) (n0 : Nat) : Option Value → Heap → List Loc → Prop := fun v h L => v = none ∧ Fr n0 L ∧ Keep h0 h [a] ∧ ∃ y, h0.size ≤ y ∧ Exa Z h a "java/lang/String" ∧ Fld Z h a "java/lang/String" "value" "[B" (.ref y) ∧ Fld Z h a "java/lang/String" "coder" "B" (.int (0 : Int32)) ∧ Jar Z h y .byte n (fun i => .int (F i))
def TsQ (Z : State) (n : Nat) (F : Nat → Int32) (h0 : Heap) (n0 : Nat) : Option Value → Heap → List Loc → Prop := fun v h L => ∃ so y, v = some (.ref so) ∧ Fr n0 L ∧ Keep h0 h [] ∧ h0.size ≤ so ∧ h0.size ≤ y ∧ Exa Z h so "java/lang/String" ∧ Fld Z h so "java/lang/String" "value" "[B" (.ref y) ∧ Fld Z h so "java/lang/String" "coder" "B" (.int (0 : Int32)) ∧ Jar Z h y .byte n (fun i => .int (F i))
def ViQ (Z : State) (vi fo ru mo : Addr) (h0 : Heap) (n0 : Nat) : Option Value → Heap → List Loc → Prop := fun v h L => v = none ∧ Fr n0 L ∧ Keep h0 h [vi] ∧ Exa Z h vi "com/example/ashlar_gate/ashlargate/model/Violation" ∧ Fld Z h vi "com/example/ashlar_gate/ashlargate/model/Violation" "field" "Ljava/lang/String;" (.ref fo) ∧ Fld Z h vi "com/example/ashlar_gate/ashlargate/model/Violation" "rule" "Ljava/lang/String;" (.ref ru) ∧ Fld Z h vi "com/example/ashlar_gate/ashlargate/model/Violation" "message" "Ljava/lang/String;" (.ref mo)
def AtQ (Z : State) (fo ru : Addr) (n : Nat) (g : Nat → Int32) (h0 : Heap) (n0 : Nat) : Vm → Vm → Option Value → Heap → List Loc → Prop := fun _ _ v h L => ∃ vi mo, v = some (.ref vi) ∧ Fr n0 L ∧ Keep h0 h [] ∧ Exa Z h vi "com/example/ashlar_gate/ashlargate/model/Violation" ∧ Fld Z h vi "com/example/ashlar_gate/ashlargate/model/Violation" "field" "Ljava/lang/String;" (.ref fo) ∧ Fld Z h vi "com/example/ashlar_gate/ashlargate/model/Violation" "rule" "Ljava/lang/String;" (.ref ru) ∧ Fld Z h vi "com/example/ashlar_gate/ashlargate/model/Violation" "message" "Ljava/lang/String;" (.ref mo) ∧ Str Z h mo n (fun i => laB (g i))
theorem b0 : ∀ j : Nat, isB ((fun _ => (0 : Int32)) j) := fun _ => (⟨by decide, by decide⟩ : isB (0 : Int32))
theorem min16 {n : Nat} (h : n ≤ 5) : (if n.toInt32 < (16 : Int32) then n.toInt32 else (16 : Int32)) = n.toInt32 := by
  rw [if_pos (ltI (by rw [toI (by omega), k16i]; omega))]
theorem ef_c_abi (m : MethodId) (x0 : Addr) (x1 : Int32) : entryFrame m #[(.ref x0), (.int x1)] 2 = mkF m 0 #[.val (.ref x0), .val (.int x1)] [] := by first | (simp [entryFrame, mkF, argsToLocals, Value.category]; done) | rfl
set_option maxRecDepth 65536 in
set_option maxHeartbeats 40000000 in
theorem c_abi (l : Launch) (Z : State) (a0 : Array Value) (hw : ∀ d ∈ tables_1, d.before a0 Z = true) (sb : Addr) (cs : Int32) (fv : Value) (h0 : Heap) (n0 : Nat) (Z0 : n0 ≤ h0.size) (O : Old Z n0 h0) (SS : Stt Z cs fv) (Es : Exa Z h0 sb "java/lang/StringBuilder") (Bv : Fld Z h0 sb "java/lang/AbstractStringBuilder" "value" "[B" .null) (Bc : Fld Z h0 sb "java/lang/AbstractStringBuilder" "coder" "B" (.int (0 : Int32))) (Bn : Fld Z h0 sb "java/lang/AbstractStringBuilder" "count" "I" (.int (0 : Int32))) (gs : n0 ≤ sb) :
    Con l Z (⟨"java/lang/AbstractStringBuilder", "<init>", "(I)V"⟩ : MethodName) jdk_68_method_2_code 2 none ({ frames := 1, cells := 1, slots := 16, locals := 12 } : Room) #[(.ref sb), (.int (16 : Int32))] h0 (BiQ Z sb h0 n0) := by
  refine Con.intro (plainFor_of_name pn_8) ?_
  intro p e s m below meth c s₁ hx hby hml hrt hlk hZ hown hnm X0 e0
  replace hown : s.vm.findClass "java/lang/AbstractStringBuilder" = some m.cls := hown
  have N0 := Fr.nil n0
  refine GoOn.cast (ef_c_abi m sb (16 : Int32)) ?_
  show GoOn p e below _ (s₁.setTop (mkF m 0 #[.val (.ref sb), .val (.int (16 : Int32))] []))
  obtain ⟨hcs, hfv, S1, S2⟩ := id SS
  replace S1 := S1.ext O.2
  replace S2 := S2.ext O.2
  have K0 : Keep h0 h0 [sb] := Keep.refl _ _
  refine GoOn.step (fun t₀ k₀ => XS.aloadN X0.here hx rfl (hb hby d13_0) rfl rfl k₀) ?_
  show GoOn p e below _ (s₁.setTop (mkF m 1 #[.val (.ref sb), .val (.int (16 : Int32))] [(.ref sb)]))
  obtain ⟨T87, X87, e87, st87⟩ := initO X0 hx hZ hown (hw _ (List.mem_of_getElem? (i := 106) rfl)) (hw _ (List.mem_of_getElem? (i := 20) rfl)) (hw _ (List.mem_of_getElem? (i := 21) rfl)) e0 (g := (mkF m 1 #[.val (.ref sb), .val (.int (16 : Int32))] [(.ref sb)])) rfl (by rw [hml]; rfl) rfl (hb hby d13_1) (by decide) (W := 0) (by show 2 * 0 + _ ≤ _; exact Nat.le_of_eq rfl) (by decide)
  refine GoOn.step st87 ?_
  show GoOn p e below _ (T87.setTop (mkF m 4 #[.val (.ref sb), .val (.int (16 : Int32))] []))
  obtain ⟨T88, X88, e88, st88⟩ := getS2 X87 hx hZ hown (host := "") (Or.inl (hw _ (List.mem_of_getElem? (i := 107) rfl))) Via.refl e87 S1 (g := (mkF m 4 #[.val (.ref sb), .val (.int (16 : Int32))] [])) rfl (hb hby d13_4)
  refine GoOn.step st88 ?_
  show GoOn p e below _ (T88.setTop (mkF m 7 #[.val (.ref sb), .val (.int (16 : Int32))] [(.int cs)]))
  have hf89 : ¬ (cs = (0 : Int32)) := hcs
  refine GoOn.step (fun t₀ k₀ => XS.ifNo X88.here hx rfl (hb hby d13_7) rfl ((if0 _ _).trans (feq hf89).1) k₀) ?_
  show GoOn p e below _ (T88.setTop (mkF m 10 #[.val (.ref sb), .val (.int (16 : Int32))] []))
  refine GoOn.step (fun t₀ k₀ => XS.aloadN X88.here hx rfl (hb hby d13_10) rfl rfl k₀) ?_
  show GoOn p e below _ (T88.setTop (mkF m 11 #[.val (.ref sb), .val (.int (16 : Int32))] [(.ref sb)]))
  refine GoOn.step (fun t₀ k₀ => XS.iloadN X88.here hx rfl (hb hby d13_11) rfl k₀) ?_
  show GoOn p e below _ (T88.setTop (mkF m 12 #[.val (.ref sb), .val (.int (16 : Int32))] [(.int (16 : Int32)), (.ref sb)]))
  obtain ⟨T90, h90, k90, X90, e90, E90, A90, st90⟩ := newP X88 hx hZ (hw _ (List.mem_of_getElem? (i := 23) rfl)) e88 (g := (mkF m 12 #[.val (.ref sb), .val (.int (16 : Int32))] [(.int (16 : Int32)), (.ref sb)])) rfl (hb hby d13_12) rfl (by decide) (cap := 16) (by decide) (by decide) (by decide) (by decide)
  obtain ⟨bb, g90⟩ : ∃ z, z = h0.size := ⟨_, rfl⟩
  rw [← g90] at A90 st90
  have lt_sb_bb : sb < bb := by rw [g90]; exact Es.lt
  have ne_sb_bb : sb ≠ bb := Nat.ne_of_lt lt_sb_bb
  have le_bb : n0 ≤ bb := by rw [g90]; exact Z0
  have sz_bb : h0.size ≤ bb := by rw [g90]; exact K0.1
  replace Es := Es.ext E90
  replace Bc := Bc.ext E90
  replace Bv := Bv.ext E90
  replace Bn := Bn.ext E90
  replace Z0 := Nat.le_trans Z0 E90.1
  replace K0 := K0.ext E90
  have J_bb : Jar Z h90 bb .byte 16 (fun _ => defaultValue .byte) := Jar.new A90 (by decide)
  refine GoOn.step st90 ?_
  show GoOn p e below _ (T90.setTop (mkF m 14 #[.val (.ref sb), .val (.int (16 : Int32))] [(.ref bb), (.ref sb)]))
  obtain ⟨T91, h91, X91, e91, W91, st91⟩ := putF X90 hx hZ hown (host := "") (Or.inl (hw _ (List.mem_of_getElem? (i := 108) rfl))) Via.refl e90 Bv Es (Or.inl (hw _ (List.mem_of_getElem? (i := 109) rfl))) (hw _ (List.mem_of_getElem? (i := 95) rfl)) (ty := (.array .byte)) (by decide) rfl rfl (g := (mkF m 14 #[.val (.ref sb), .val (.int (16 : Int32))] [(.ref bb), (.ref sb)])) rfl rfl (hb hby d13_14)
  replace N0 := Fr.snoc X91 N0 gs
  replace Es := Es.wr W91
  replace Bc := Bc.other W91 (Or.inr (slot_ne (Or.inl (hw _ (List.mem_of_getElem? (i := 111) rfl))) (Or.inl (hw _ (List.mem_of_getElem? (i := 109) rfl))) (by decide) (t := .byte) (t' := (.array .byte)) (by decide) (by decide)))
  replace Bv := Fld.same W91 Bv
  replace Bn := Bn.other W91 (Or.inr (slot_ne (Or.inl (hw _ (List.mem_of_getElem? (i := 134) rfl))) (Or.inl (hw _ (List.mem_of_getElem? (i := 109) rfl))) (by decide) (t := .int) (t' := (.array .byte)) (by decide) (by decide)))
  replace J_bb := J_bb.other W91 (Ne.symm ne_sb_bb)
  replace Z0 := Nat.le_trans Z0 (Nat.le_of_eq W91.size.symm)
  replace K0 := K0.wr W91 (Or.inl (by simp))
  refine GoOn.step st91 ?_
  show GoOn p e below _ (T91.setTop (mkF m 17 #[.val (.ref sb), .val (.int (16 : Int32))] []))
  refine GoOn.step (fun t₀ k₀ => XS.aloadN X91.here hx rfl (hb hby d13_17) rfl rfl k₀) ?_
  show GoOn p e below _ (T91.setTop (mkF m 18 #[.val (.ref sb), .val (.int (16 : Int32))] [(.ref sb)]))
  refine GoOn.step (fun t₀ k₀ => XS.iconst X91.here hx rfl (hb hby d13_18) k₀) ?_
  show GoOn p e below _ (T91.setTop (mkF m 19 #[.val (.ref sb), .val (.int (16 : Int32))] [(.int (0 : Int32)), (.ref sb)]))
  obtain ⟨T92, h92, X92, e92, W92, st92⟩ := putFN X91 hx hZ hown (hw _ (List.mem_of_getElem? (i := 110) rfl)) Via.refl e91 Bc Es (Or.inl (hw _ (List.mem_of_getElem? (i := 111) rfl))) (hw _ (List.mem_of_getElem? (i := 95) rfl)) (ty := .byte) (v' := .int (nar .byte (0 : Int32))) (by decide) rfl (fits_nar_byte _) (g := (mkF m 19 #[.val (.ref sb), .val (.int (16 : Int32))] [(.int (0 : Int32)), (.ref sb)])) rfl rfl (hb hby d13_19)
  replace N0 := Fr.snoc X92 N0 gs
  replace Es := Es.wr W92
  replace Bc := Fld.same W92 Bc
  replace Bv := Bv.other W92 (Or.inr (slot_ne (Or.inl (hw _ (List.mem_of_getElem? (i := 109) rfl))) (Or.inl (hw _ (List.mem_of_getElem? (i := 111) rfl))) (by decide) (t := (.array .byte)) (t' := .byte) (by decide) (by decide)))
  replace Bn := Bn.other W92 (Or.inr (slot_ne (Or.inl (hw _ (List.mem_of_getElem? (i := 134) rfl))) (Or.inl (hw _ (List.mem_of_getElem? (i := 111) rfl))) (by decide) (t := .int) (t' := .byte) (by decide) (by decide)))
  replace J_bb := J_bb.other W92 (Ne.symm ne_sb_bb)
  replace Z0 := Nat.le_trans Z0 (Nat.le_of_eq W92.size.symm)
  replace K0 := K0.wr W92 (Or.inl (by simp))
  refine GoOn.step st92 ?_
  show GoOn p e below _ (T92.setTop (mkF m 22 #[.val (.ref sb), .val (.int (16 : Int32))] []))
  refine GoOn.step (fun t₀ k₀ => XS.goto X92.here hx rfl (pc0 := 22) (pc' := 38) rfl (hb hby d13_22) (by decide) (by decide) k₀) ?_
  show GoOn p e below _ (T92.setTop (mkF m 38 #[.val (.ref sb), .val (.int (16 : Int32))] []))
  exact GoOn.ret0 X92 hx hrt hlk (hb hby d13_38) (by decide) (by decide) (by first | exact ⟨rfl, N0, K0, bb, sz_bb, Es, Bv, Bc, Bn, J_bb⟩ | (rw [e92]; exact ⟨rfl, N0, K0, bb, sz_bb, Es, Bv, Bc, Bn, J_bb⟩))
theorem ef_c_sbi (m : MethodId) (x0 : Addr) : entryFrame m #[(.ref x0)] 1 = mkF m 0 #[.val (.ref x0)] [] := by first | (simp [entryFrame, mkF, argsToLocals, Value.category]; done) | rfl
set_option maxRecDepth 65536 in
set_option maxHeartbeats 40000000 in
theorem c_sbi (l : Launch) (Z : State) (a0 : Array Value) (hw : ∀ d ∈ tables_1, d.before a0 Z = true) (sb : Addr) (cs : Int32) (fv : Value) (h0 : Heap) (n0 : Nat) (Z0 : n0 ≤ h0.size) (O : Old Z n0 h0) (SS : Stt Z cs fv) (Es : Exa Z h0 sb "java/lang/StringBuilder") (Bv : Fld Z h0 sb "java/lang/AbstractStringBuilder" "value" "[B" .null) (Bc : Fld Z h0 sb "java/lang/AbstractStringBuilder" "coder" "B" (.int (0 : Int32))) (Bn : Fld Z h0 sb "java/lang/AbstractStringBuilder" "count" "I" (.int (0 : Int32))) (gs : n0 ≤ sb) :
    Con l Z (⟨"java/lang/StringBuilder", "<init>", "()V"⟩ : MethodName) jdk_67_method_1_code 1 none ({ frames := 2, cells := 1, slots := 16, locals := 26 } : Room) #[(.ref sb)] h0 (BiQ Z sb h0 n0) := by
  refine Con.intro (plainFor_of_name pn_9) ?_
  intro p e s m below meth c s₁ hx hby hml hrt hlk hZ hown hnm X0 e0
  replace hown : s.vm.findClass "java/lang/StringBuilder" = some m.cls := hown
  have N0 := Fr.nil n0
  refine GoOn.cast (ef_c_sbi m sb) ?_
  show GoOn p e below _ (s₁.setTop (mkF m 0 #[.val (.ref sb)] []))
  refine GoOn.step (fun t₀ k₀ => XS.aloadN X0.here hx rfl (hb hby d12_0) rfl rfl k₀) ?_
  show GoOn p e below _ (s₁.setTop (mkF m 1 #[.val (.ref sb)] [(.ref sb)]))
  refine GoOn.step (fun t₀ k₀ => XS.bipush X0.here hx rfl (hb hby d12_1) k₀) ?_
  show GoOn p e below _ (s₁.setTop (mkF m 3 #[.val (.ref sb)] [(.int (16 : Int32)), (.ref sb)]))
  obtain ⟨_, T93, L93, X93, hQ93, st93⟩ := kCallI X0 hx hZ (a := sb) (argsL := [(.int (16 : Int32))]) (rest := []) (c_abi l Z a0 hw sb cs fv h0 n0 Z0 O SS Es Bv Bc Bn gs) rfl hown (hw _ (List.mem_of_getElem? (i := 100) rfl)) (hw _ (List.mem_of_getElem? (i := 101) rfl)) (hw _ (List.mem_of_getElem? (i := 104) rfl)) (hw _ (List.mem_of_getElem? (i := 105) rfl)) (by decide) e0 (g := (mkF m 3 #[.val (.ref sb)] [(.int (16 : Int32)), (.ref sb)])) rfl (by rw [hml]; rfl) (lenOf pd_16 rfl) rfl (W := 0) (by show 2 * 0 + _ ≤ _; exact Nat.le_of_eq rfl) (hb hby d12_3) (by decide) (by decide) (by decide) (by decide)
  obtain ⟨rfl, N93, K93, HQ⟩ := hQ93
  replace N0 := Fr.app N0 N93
  have K0 := K93
  refine GoOn.step st93 ?_
  show GoOn p e below _ (T93.setTop (mkF m 6 #[.val (.ref sb)] []))
  exact GoOn.ret0 X93 hx hrt hlk (hb hby d12_6) (by decide) (by decide) ⟨rfl, N0, K0, HQ⟩
theorem ef_c_ens (m : MethodId) (x0 : Addr) (x1 : Int32) : entryFrame m #[(.ref x0), (.int x1)] 3 = mkF m 0 #[.val (.ref x0), .val (.int x1), .unset] [] := by first | (simp [entryFrame, mkF, argsToLocals, Value.category]; done) | rfl
set_option maxRecDepth 65536 in
set_option maxHeartbeats 40000000 in
theorem c_ens (l : Launch) (Z : State) (a0 : Array Value) (hw : ∀ d ∈ tables_1, d.before a0 Z = true) (sb bb : Addr) (F : Nat → Int32) (mm : Int32) (h0 : Heap) (Es : Exa Z h0 sb "java/lang/StringBuilder") (Bv : Fld Z h0 sb "java/lang/AbstractStringBuilder" "value" "[B" (.ref bb)) (Bc : Fld Z h0 sb "java/lang/AbstractStringBuilder" "coder" "B" (.int (0 : Int32))) (Jb : Jar Z h0 bb .byte 16 (fun i => .int (F i))) (hm : 0 ≤ mm.toInt ∧ mm.toInt ≤ 16) :
    Con l Z (⟨"java/lang/AbstractStringBuilder", "ensureCapacityInternal", "(I)V"⟩ : MethodName) jdk_68_method_9_code 3 none ({ frames := 0, cells := 0, slots := 0, locals := 0 } : Room) #[(.ref sb), (.int mm)] h0 (PQ none h0) := by
  refine Con.intro (plainFor_of_name pn_8) ?_
  intro p e s m below meth c s₁ hx hby hml hrt hlk hZ hown hnm X0 e0
  replace hown : s.vm.findClass "java/lang/AbstractStringBuilder" = some m.cls := hown
  refine GoOn.cast (ef_c_ens m sb mm) ?_
  show GoOn p e below _ (s₁.setTop (mkF m 0 #[.val (.ref sb), .val (.int mm), .unset] []))
  have hd : (mm - (16 : Int32)).toInt ≤ 0 := by have := c_isub mm (16 : Int32); have := rng32 (mm - (16 : Int32)); have := k16i; omega
  refine GoOn.step (fun t₀ k₀ => XS.aloadN X0.here hx rfl (hb hby d18_0) rfl rfl k₀) ?_
  show GoOn p e below _ (s₁.setTop (mkF m 1 #[.val (.ref sb), .val (.int mm), .unset] [(.ref sb)]))
  obtain ⟨T94, X94, e94, st94⟩ := getF X0 hx hZ hown (host := "") (Or.inl (hw _ (List.mem_of_getElem? (i := 108) rfl))) Via.refl e0 Bv (g := (mkF m 1 #[.val (.ref sb), .val (.int mm), .unset] [(.ref sb)])) rfl rfl (hb hby d18_1)
  refine GoOn.step st94 ?_
  show GoOn p e below _ (T94.setTop (mkF m 4 #[.val (.ref sb), .val (.int mm), .unset] [(.ref bb)]))
  refine GoOn.step (fun t₀ k₀ => kLen X94 hx hZ e94 Jb (z := (16 : Int32)) rfl (g := (mkF m 4 #[.val (.ref sb), .val (.int mm), .unset] [(.ref bb)])) rfl rfl (hb hby d18_4) t₀ k₀) ?_
  show GoOn p e below _ (T94.setTop (mkF m 5 #[.val (.ref sb), .val (.int mm), .unset] [(.int (16 : Int32))]))
  refine GoOn.step (fun t₀ k₀ => XS.aloadN X94.here hx rfl (hb hby d18_5) rfl rfl k₀) ?_
  show GoOn p e below _ (T94.setTop (mkF m 6 #[.val (.ref sb), .val (.int mm), .unset] [(.ref sb), (.int (16 : Int32))]))
  obtain ⟨T95, X95, e95, st95⟩ := getF X94 hx hZ hown (host := "") (Or.inl (hw _ (List.mem_of_getElem? (i := 110) rfl))) Via.refl e94 Bc (g := (mkF m 6 #[.val (.ref sb), .val (.int mm), .unset] [(.ref sb), (.int (16 : Int32))])) rfl rfl (hb hby d18_6)
  refine GoOn.step st95 ?_
  show GoOn p e below _ (T95.setTop (mkF m 9 #[.val (.ref sb), .val (.int mm), .unset] [(.int (0 : Int32)), (.int (16 : Int32))]))
  refine GoOn.step (fun t₀ k₀ => XS.ishr X95.here hx rfl (hb hby d18_9) rfl k₀) ?_
  show GoOn p e below _ (T95.setTop (mkF m 10 #[.val (.ref sb), .val (.int mm), .unset] [(.int ((16 : Int32) >>> ((0 : Int32) &&& 31)))]))
  rw [show ((16 : Int32) >>> ((0 : Int32) &&& 31)) = (16 : Int32) from (by decide)]
  refine GoOn.step (fun t₀ k₀ => XS.istoreN X95.here hx rfl (hb hby d18_10) rfl (l' := #[.val (.ref sb), .val (.int mm), .val (.int (16 : Int32))]) rfl k₀) ?_
  show GoOn p e below _ (T95.setTop (mkF m 11 #[.val (.ref sb), .val (.int mm), .val (.int (16 : Int32))] []))
  refine GoOn.step (fun t₀ k₀ => XS.iloadN X95.here hx rfl (hb hby d18_11) rfl k₀) ?_
  show GoOn p e below _ (T95.setTop (mkF m 12 #[.val (.ref sb), .val (.int mm), .val (.int (16 : Int32))] [(.int mm)]))
  refine GoOn.step (fun t₀ k₀ => XS.iloadN X95.here hx rfl (hb hby d18_12) rfl k₀) ?_
  show GoOn p e below _ (T95.setTop (mkF m 13 #[.val (.ref sb), .val (.int mm), .val (.int (16 : Int32))] [(.int (16 : Int32)), (.int mm)]))
  refine GoOn.step (fun t₀ k₀ => XS.isub X95.here hx rfl (hb hby d18_13) rfl k₀) ?_
  show GoOn p e below _ (T95.setTop (mkF m 14 #[.val (.ref sb), .val (.int mm), .val (.int (16 : Int32))] [(.int (mm - (16 : Int32)))]))
  have hf96 : ¬ ((0 : Int32) < (mm - (16 : Int32))) := (ltN (by rw [k0i]; exact hd))
  refine GoOn.step (fun t₀ k₀ => XS.ifYes X95.here hx rfl (pc0 := 14) (pc' := 38) rfl (hb hby d18_14) rfl ((if0 _ _).trans (flt hf96).2.2.2) (by decide) (by decide) k₀) ?_
  show GoOn p e below _ (T95.setTop (mkF m 38 #[.val (.ref sb), .val (.int mm), .val (.int (16 : Int32))] []))
  exact GoOn.ret0 X95 hx hrt hlk (hb hby d18_38) (by decide) (by decide) (by first | exact ⟨rfl, rfl, rfl⟩ | (rw [e95]; exact ⟨rfl, rfl, rfl⟩))
theorem ef_c_inf (m : MethodId) (x0 : Addr) (x1 : Addr) : entryFrame m #[(.ref x0), (.ref x1)] 2 = mkF m 0 #[.val (.ref x0), .val (.ref x1)] [] := by first | (simp [entryFrame, mkF, argsToLocals, Value.category]; done) | rfl
set_option maxRecDepth 65536 in
set_option maxHeartbeats 40000000 in
theorem c_inf (l : Launch) (Z : State) (a0 : Array Value) (hw : ∀ d ∈ tables_1, d.before a0 Z = true) (sb bb so : Addr) (cs : Int32) (fv : Value) (h0 : Heap) (n0 : Nat) (O : Old Z n0 h0) (SS : Stt Z cs fv) (Es : Exa Z h0 sb "java/lang/StringBuilder") (Bv : Fld Z h0 sb "java/lang/AbstractStringBuilder" "value" "[B" (.ref bb)) (Bc : Fld Z h0 sb "java/lang/AbstractStringBuilder" "coder" "B" (.int (0 : Int32))) (Eo : Exa Z h0 so "java/lang/String") (Gc : Fld Z h0 so "java/lang/String" "coder" "B" (.int (0 : Int32))) :
    Con l Z (⟨"java/lang/AbstractStringBuilder", "inflateIfNeededFor", "(Ljava/lang/String;)V"⟩ : MethodName) jdk_68_method_71_code 2 none ({ frames := 1, cells := 0, slots := 0, locals := 14 } : Room) #[(.ref sb), (.ref so)] h0 (PQ none h0) := by
  refine Con.intro (plainFor_of_name pn_8) ?_
  intro p e s m below meth c s₁ hx hby hml hrt hlk hZ hown hnm X0 e0
  replace hown : s.vm.findClass "java/lang/AbstractStringBuilder" = some m.cls := hown
  refine GoOn.cast (ef_c_inf m sb so) ?_
  show GoOn p e below _ (s₁.setTop (mkF m 0 #[.val (.ref sb), .val (.ref so)] []))
  obtain ⟨hcs, hfv, S1, S2⟩ := id SS
  replace S1 := S1.ext O.2
  replace S2 := S2.ext O.2
  obtain ⟨T97, X97, e97, st97⟩ := getS2 X0 hx hZ hown (host := "") (Or.inl (hw _ (List.mem_of_getElem? (i := 107) rfl))) Via.refl e0 S1 (g := (mkF m 0 #[.val (.ref sb), .val (.ref so)] [])) rfl (hb hby d20_0)
  refine GoOn.step st97 ?_
  show GoOn p e below _ (T97.setTop (mkF m 3 #[.val (.ref sb), .val (.ref so)] [(.int cs)]))
  have hf98 : ¬ (cs = (0 : Int32)) := hcs
  refine GoOn.step (fun t₀ k₀ => XS.ifNo X97.here hx rfl (hb hby d20_3) rfl ((if0 _ _).trans (feq hf98).1) k₀) ?_
  show GoOn p e below _ (T97.setTop (mkF m 6 #[.val (.ref sb), .val (.ref so)] []))
  refine GoOn.step (fun t₀ k₀ => XS.aloadN X97.here hx rfl (hb hby d20_6) rfl rfl k₀) ?_
  show GoOn p e below _ (T97.setTop (mkF m 7 #[.val (.ref sb), .val (.ref so)] [(.ref sb)]))
  obtain ⟨T99, X99, e99, st99⟩ := getF X97 hx hZ hown (host := "") (Or.inl (hw _ (List.mem_of_getElem? (i := 110) rfl))) Via.refl e97 Bc (g := (mkF m 7 #[.val (.ref sb), .val (.ref so)] [(.ref sb)])) rfl rfl (hb hby d20_7)
  refine GoOn.step st99 ?_
  show GoOn p e below _ (T99.setTop (mkF m 10 #[.val (.ref sb), .val (.ref so)] [(.int (0 : Int32))]))
  refine GoOn.step (fun t₀ k₀ => XS.aloadN X99.here hx rfl (hb hby d20_10) rfl rfl k₀) ?_
  show GoOn p e below _ (T99.setTop (mkF m 11 #[.val (.ref sb), .val (.ref so)] [(.ref so), (.int (0 : Int32))]))
  obtain ⟨_, T100, L100, X100, hQ100, st100⟩ := kCallV X99 hx hZ (a := so) (argsL := []) (rest := [(.int (0 : Int32))]) (c_cod l Z a0 hw so cs fv h0 n0 O SS Gc) hown (hw _ (List.mem_of_getElem? (i := 150) rfl)) (hw _ (List.mem_of_getElem? (i := 128) rfl)) (notFace_of_selects (args := #[]) (mvT hZ (hw _ (List.mem_of_getElem? (i := 130) rfl)))) (hw _ (List.mem_of_getElem? (i := 130) rfl)) (hw _ (List.mem_of_getElem? (i := 129) rfl)) (hw _ (List.mem_of_getElem? (i := 10) rfl)) (hw _ (List.mem_of_getElem? (i := 131) rfl)) (by decide) e99 Eo (g := (mkF m 11 #[.val (.ref sb), .val (.ref so)] [(.ref so), (.int (0 : Int32))])) rfl (by rw [hml]; rfl) (lenOf pd_0 rfl) rfl (W := 1) (by show 2 * 0 + _ ≤ _; exact Nat.le_of_eq rfl) (hb hby d20_11) (by decide) (by decide) (by decide) (by decide)
  obtain ⟨rfl, rfl, e100⟩ := hQ100
  rw [List.append_nil] at X100
  refine GoOn.step st100 ?_
  show GoOn p e below _ (T100.setTop (mkF m 14 #[.val (.ref sb), .val (.ref so)] [(.int (0 : Int32)), (.int (0 : Int32))]))
  have hf101 : (0 : Int32) = (0 : Int32) := rfl
  refine GoOn.step (fun t₀ k₀ => XS.icmpYes X100.here hx rfl (pc0 := 14) (pc' := 21) rfl (hb hby d20_14) rfl (teq hf101).1 (by decide) (by decide) k₀) ?_
  show GoOn p e below _ (T100.setTop (mkF m 21 #[.val (.ref sb), .val (.ref so)] []))
  exact GoOn.ret0 X100 hx hrt hlk (hb hby d20_21) (by decide) (by decide) (by first | exact ⟨rfl, rfl, rfl⟩ | (rw [e100]; exact ⟨rfl, rfl, rfl⟩))
theorem ef_c_gb (m : MethodId) (x0 : Addr) (x1 : Addr) (x2 : Int32) (x3 : Int32) : entryFrame m #[(.ref x0), (.ref x1), (.int x2), (.int x3)] 4 = mkF m 0 #[.val (.ref x0), .val (.ref x1), .val (.int x2), .val (.int x3)] [] := by first | (simp [entryFrame, mkF, argsToLocals, Value.category]; done) | rfl
set_option maxRecDepth 65536 in
set_option maxHeartbeats 40000000 in
theorem c_gb (l : Launch) (Z : State) (a0 : Array Value) (hw : ∀ d ∈ tables_1, d.before a0 Z = true) (so sy bb : Addr) (d k : Nat) (F g : Nat → Int32) (cs : Int32) (fv : Value) (h0 : Heap) (n0 : Nat) (Z0 : n0 ≤ h0.size) (O : Old Z n0 h0) (SS : Stt Z cs fv) (Eo : Exa Z h0 so "java/lang/String") (Gv : Fld Z h0 so "java/lang/String" "value" "[B" (.ref sy)) (Gc : Fld Z h0 so "java/lang/String" "coder" "B" (.int (0 : Int32))) (Jy : Jar Z h0 sy .byte k (fun i => .int (laB (g i)))) (Jb : Jar Z h0 bb .byte 16 (fun i => .int (F i))) (gb : n0 ≤ bb) (no : so ≠ bb) (ny : sy ≠ bb) (HB : ∀ j, isB (F j)) (hk : d + k ≤ 16) :
    Con l Z (⟨"java/lang/String", "getBytes", "([BIB)V"⟩ : MethodName) jdk_42_method_147_code 4 none ({ frames := 1, cells := 0, slots := 0, locals := 20 } : Room) #[(.ref so), (.ref bb), (.int d.toInt32), (.int (0 : Int32))] h0 (GbQ Z bb (apF F d g k) h0 n0) := by
  refine Con.intro (plainFor_of_name pn_0) ?_
  intro p e s m below meth c s₁ hx hby hml hrt hlk hZ hown hnm X0 e0
  replace hown : s.vm.findClass "java/lang/String" = some m.cls := hown
  have N0 := Fr.nil n0
  refine GoOn.cast (ef_c_gb m so bb d.toInt32 (0 : Int32)) ?_
  show GoOn p e below _ (s₁.setTop (mkF m 0 #[.val (.ref so), .val (.ref bb), .val (.int d.toInt32), .val (.int (0 : Int32))] []))
  have K0 : Keep h0 h0 [bb] := Keep.refl _ _
  refine GoOn.step (fun t₀ k₀ => XS.aloadN X0.here hx rfl (hb hby d21_0) rfl rfl k₀) ?_
  show GoOn p e below _ (s₁.setTop (mkF m 1 #[.val (.ref so), .val (.ref bb), .val (.int d.toInt32), .val (.int (0 : Int32))] [(.ref so)]))
  obtain ⟨_, T102, L102, X102, hQ102, st102⟩ := kCallV X0 hx hZ (a := so) (argsL := []) (rest := []) (c_cod l Z a0 hw so cs fv h0 n0 O SS Gc) hown (hw _ (List.mem_of_getElem? (i := 127) rfl)) (hw _ (List.mem_of_getElem? (i := 128) rfl)) (notFace_of_selects (args := #[]) (mvT hZ (hw _ (List.mem_of_getElem? (i := 130) rfl)))) (hw _ (List.mem_of_getElem? (i := 130) rfl)) (hw _ (List.mem_of_getElem? (i := 129) rfl)) (hw _ (List.mem_of_getElem? (i := 10) rfl)) (hw _ (List.mem_of_getElem? (i := 131) rfl)) (by decide) e0 Eo (g := (mkF m 1 #[.val (.ref so), .val (.ref bb), .val (.int d.toInt32), .val (.int (0 : Int32))] [(.ref so)])) rfl (by rw [hml]; rfl) (lenOf pd_0 rfl) rfl (W := 0) (by show 2 * 0 + _ ≤ _; exact Nat.le_of_eq rfl) (hb hby d21_1) (by decide) (by decide) (by decide) (by decide)
  obtain ⟨rfl, rfl, e102⟩ := hQ102
  rw [List.append_nil] at X102
  refine GoOn.step st102 ?_
  show GoOn p e below _ (T102.setTop (mkF m 4 #[.val (.ref so), .val (.ref bb), .val (.int d.toInt32), .val (.int (0 : Int32))] [(.int (0 : Int32))]))
  refine GoOn.step (fun t₀ k₀ => XS.iloadN X102.here hx rfl (hb hby d21_4) rfl k₀) ?_
  show GoOn p e below _ (T102.setTop (mkF m 5 #[.val (.ref so), .val (.ref bb), .val (.int d.toInt32), .val (.int (0 : Int32))] [(.int (0 : Int32)), (.int (0 : Int32))]))
  have hf103 : (0 : Int32) = (0 : Int32) := rfl
  refine GoOn.step (fun t₀ k₀ => XS.icmpNo X102.here hx rfl (hb hby d21_5) rfl (teq hf103).2 k₀) ?_
  show GoOn p e below _ (T102.setTop (mkF m 8 #[.val (.ref so), .val (.ref bb), .val (.int d.toInt32), .val (.int (0 : Int32))] []))
  refine GoOn.step (fun t₀ k₀ => XS.aloadN X102.here hx rfl (hb hby d21_8) rfl rfl k₀) ?_
  show GoOn p e below _ (T102.setTop (mkF m 9 #[.val (.ref so), .val (.ref bb), .val (.int d.toInt32), .val (.int (0 : Int32))] [(.ref so)]))
  obtain ⟨T104, X104, e104, st104⟩ := getF X102 hx hZ hown (host := "") (Or.inl (hw _ (List.mem_of_getElem? (i := 28) rfl))) Via.refl e102 Gv (g := (mkF m 9 #[.val (.ref so), .val (.ref bb), .val (.int d.toInt32), .val (.int (0 : Int32))] [(.ref so)])) rfl rfl (hb hby d21_9)
  refine GoOn.step st104 ?_
  show GoOn p e below _ (T104.setTop (mkF m 12 #[.val (.ref so), .val (.ref bb), .val (.int d.toInt32), .val (.int (0 : Int32))] [(.ref sy)]))
  refine GoOn.step (fun t₀ k₀ => XS.iconst X104.here hx rfl (hb hby d21_12) k₀) ?_
  show GoOn p e below _ (T104.setTop (mkF m 13 #[.val (.ref so), .val (.ref bb), .val (.int d.toInt32), .val (.int (0 : Int32))] [(.int (0 : Int32)), (.ref sy)]))
  refine GoOn.step (fun t₀ k₀ => XS.aloadN X104.here hx rfl (hb hby d21_13) rfl rfl k₀) ?_
  show GoOn p e below _ (T104.setTop (mkF m 14 #[.val (.ref so), .val (.ref bb), .val (.int d.toInt32), .val (.int (0 : Int32))] [(.ref bb), (.int (0 : Int32)), (.ref sy)]))
  refine GoOn.step (fun t₀ k₀ => XS.iloadN X104.here hx rfl (hb hby d21_14) rfl k₀) ?_
  show GoOn p e below _ (T104.setTop (mkF m 15 #[.val (.ref so), .val (.ref bb), .val (.int d.toInt32), .val (.int (0 : Int32))] [(.int d.toInt32), (.ref bb), (.int (0 : Int32)), (.ref sy)]))
  refine GoOn.step (fun t₀ k₀ => XS.iloadN X104.here hx rfl (hb hby d21_15) rfl k₀) ?_
  show GoOn p e below _ (T104.setTop (mkF m 16 #[.val (.ref so), .val (.ref bb), .val (.int d.toInt32), .val (.int (0 : Int32))] [(.int (0 : Int32)), (.int d.toInt32), (.ref bb), (.int (0 : Int32)), (.ref sy)]))
  refine GoOn.step (fun t₀ k₀ => XS.ishl X104.here hx rfl (hb hby d21_16) rfl k₀) ?_
  show GoOn p e below _ (T104.setTop (mkF m 17 #[.val (.ref so), .val (.ref bb), .val (.int d.toInt32), .val (.int (0 : Int32))] [(.int (d.toInt32 <<< ((0 : Int32) &&& 31))), (.ref bb), (.int (0 : Int32)), (.ref sy)]))
  rw [show (d.toInt32 <<< ((0 : Int32) &&& 31)) = d.toInt32 from (shl0 _)]
  refine GoOn.step (fun t₀ k₀ => XS.aloadN X104.here hx rfl (hb hby d21_17) rfl rfl k₀) ?_
  show GoOn p e below _ (T104.setTop (mkF m 18 #[.val (.ref so), .val (.ref bb), .val (.int d.toInt32), .val (.int (0 : Int32))] [(.ref so), (.int d.toInt32), (.ref bb), (.int (0 : Int32)), (.ref sy)]))
  obtain ⟨T105, X105, e105, st105⟩ := getF X104 hx hZ hown (host := "") (Or.inl (hw _ (List.mem_of_getElem? (i := 28) rfl))) Via.refl e104 Gv (g := (mkF m 18 #[.val (.ref so), .val (.ref bb), .val (.int d.toInt32), .val (.int (0 : Int32))] [(.ref so), (.int d.toInt32), (.ref bb), (.int (0 : Int32)), (.ref sy)])) rfl rfl (hb hby d21_18)
  refine GoOn.step st105 ?_
  show GoOn p e below _ (T105.setTop (mkF m 21 #[.val (.ref so), .val (.ref bb), .val (.int d.toInt32), .val (.int (0 : Int32))] [(.ref sy), (.int d.toInt32), (.ref bb), (.int (0 : Int32)), (.ref sy)]))
  refine GoOn.step (fun t₀ k₀ => kLen X105 hx hZ e105 Jy (z := k.toInt32) rfl (g := (mkF m 21 #[.val (.ref so), .val (.ref bb), .val (.int d.toInt32), .val (.int (0 : Int32))] [(.ref sy), (.int d.toInt32), (.ref bb), (.int (0 : Int32)), (.ref sy)])) rfl rfl (hb hby d21_21) t₀ k₀) ?_
  show GoOn p e below _ (T105.setTop (mkF m 22 #[.val (.ref so), .val (.ref bb), .val (.int d.toInt32), .val (.int (0 : Int32))] [(.int k.toInt32), (.int d.toInt32), (.ref bb), (.int (0 : Int32)), (.ref sy)]))
  obtain ⟨T106, h106, L106, X106, e106, N106, K106, J106, st106⟩ := kCopyAt X105 hx hZ hown (hw _ (List.mem_of_getElem? (i := 156) rfl)) (hw _ (List.mem_of_getElem? (i := 159) rfl)) (hw _ (List.mem_of_getElem? (i := 157) rfl)) (hw _ (List.mem_of_getElem? (i := 158) rfl)) e105 Jy Jb (fun i _ => fitsB (isB_i2b _)) (fun i _ => fitsB (HB i)) (by omega) (by decide) (dp := d.toInt32) (nn := k.toInt32) (toI (by omega)) (toI (by omega)) hk N0 gb (g := (mkF m 22 #[.val (.ref so), .val (.ref bb), .val (.int d.toInt32), .val (.int (0 : Int32))] [(.int k.toInt32), (.int d.toInt32), (.ref bb), (.int (0 : Int32)), (.ref sy)])) rfl (by rw [hml]; rfl) rfl (hb hby d21_22) (by decide) (W := 0) (by show 2 * 0 + _ ≤ _; exact Nat.le_of_eq rfl) (by decide)
  replace N0 := N106
  replace K0 := K0.trans K106 (allS (Or.inl (by simp)) all0)
  replace Eo := Eo.keep K106
  replace Gv := Gv.keep K106 (ninS no nin0)
  replace Gc := Gc.keep K106 (ninS no nin0)
  replace Jy := Jy.keep K106 (ninS ny nin0)
  clear Jb
  replace Z0 := Nat.le_trans Z0 K106.1
  have Jb := J106
  refine GoOn.step st106 ?_
  show GoOn p e below _ (T106.setTop (mkF m 25 #[.val (.ref so), .val (.ref bb), .val (.int d.toInt32), .val (.int (0 : Int32))] []))
  refine GoOn.step (fun t₀ k₀ => XS.goto X106.here hx rfl (pc0 := 25) (pc' := 43) rfl (hb hby d21_25) (by decide) (by decide) k₀) ?_
  show GoOn p e below _ (T106.setTop (mkF m 43 #[.val (.ref so), .val (.ref bb), .val (.int d.toInt32), .val (.int (0 : Int32))] []))
  exact GoOn.ret0 X106 hx hrt hlk (hb hby d21_43) (by decide) (by decide) (by first | exact ⟨rfl, N0, K0, Jb.congr fun i hi => by unfold apF; split <;> rfl⟩ | (rw [e106]; exact ⟨rfl, N0, K0, Jb.congr fun i hi => by unfold apF; split <;> rfl⟩))
theorem ef_c_put (m : MethodId) (x0 : Addr) (x1 : Int32) (x2 : Addr) : entryFrame m #[(.ref x0), (.int x1), (.ref x2)] 3 = mkF m 0 #[.val (.ref x0), .val (.int x1), .val (.ref x2)] [] := by first | (simp [entryFrame, mkF, argsToLocals, Value.category]; done) | rfl
set_option maxRecDepth 65536 in
set_option maxHeartbeats 40000000 in
theorem c_put (l : Launch) (Z : State) (a0 : Array Value) (hw : ∀ d ∈ tables_1, d.before a0 Z = true) (sb so sy bb : Addr) (d k : Nat) (F g : Nat → Int32) (cs : Int32) (fv : Value) (h0 : Heap) (n0 : Nat) (Z0 : n0 ≤ h0.size) (O : Old Z n0 h0) (SS : Stt Z cs fv) (Es : Exa Z h0 sb "java/lang/StringBuilder") (Bv : Fld Z h0 sb "java/lang/AbstractStringBuilder" "value" "[B" (.ref bb)) (Bc : Fld Z h0 sb "java/lang/AbstractStringBuilder" "coder" "B" (.int (0 : Int32))) (Eo : Exa Z h0 so "java/lang/String") (Gv : Fld Z h0 so "java/lang/String" "value" "[B" (.ref sy)) (Gc : Fld Z h0 so "java/lang/String" "coder" "B" (.int (0 : Int32))) (Jy : Jar Z h0 sy .byte k (fun i => .int (laB (g i)))) (Jb : Jar Z h0 bb .byte 16 (fun i => .int (F i))) (gb : n0 ≤ bb) (no : so ≠ bb) (ny : sy ≠ bb) (HB : ∀ j, isB (F j)) (hk : d + k ≤ 16) :
    Con l Z (⟨"java/lang/AbstractStringBuilder", "putStringAt", "(ILjava/lang/String;)V"⟩ : MethodName) jdk_68_method_73_code 3 none ({ frames := 2, cells := 0, slots := 0, locals := 36 } : Room) #[(.ref sb), (.int d.toInt32), (.ref so)] h0 (GbQ Z bb (apF F d g k) h0 n0) := by
  refine Con.intro (plainFor_of_name pn_8) ?_
  intro p e s m below meth c s₁ hx hby hml hrt hlk hZ hown hnm X0 e0
  replace hown : s.vm.findClass "java/lang/AbstractStringBuilder" = some m.cls := hown
  have N0 := Fr.nil n0
  refine GoOn.cast (ef_c_put m sb d.toInt32 so) ?_
  show GoOn p e below _ (s₁.setTop (mkF m 0 #[.val (.ref sb), .val (.int d.toInt32), .val (.ref so)] []))
  refine GoOn.step (fun t₀ k₀ => XS.aloadN X0.here hx rfl (hb hby d19_0) rfl rfl k₀) ?_
  show GoOn p e below _ (s₁.setTop (mkF m 1 #[.val (.ref sb), .val (.int d.toInt32), .val (.ref so)] [(.ref sb)]))
  refine GoOn.step (fun t₀ k₀ => XS.aloadN X0.here hx rfl (hb hby d19_1) rfl rfl k₀) ?_
  show GoOn p e below _ (s₁.setTop (mkF m 2 #[.val (.ref sb), .val (.int d.toInt32), .val (.ref so)] [(.ref so), (.ref sb)]))
  obtain ⟨_, T107, L107, X107, hQ107, st107⟩ := kCallP X0 hx hZ (a := sb) (y2 := (⟨"java/lang/AbstractStringBuilder", "ensureCapacityInternal", "(I)V"⟩ : MethodName)) (argsL := [(.ref so)]) (rest := []) (c_inf l Z a0 hw sb bb so cs fv h0 n0 O SS Es Bv Bc Eo Gc) hown (hw _ (List.mem_of_getElem? (i := 145) rfl)) (hw _ (List.mem_of_getElem? (i := 146) rfl)) (hw _ (List.mem_of_getElem? (i := 147) rfl)) (hw _ (List.mem_of_getElem? (i := 104) rfl)) (hw _ (List.mem_of_getElem? (i := 149) rfl)) (notFace_of_selects (args := #[]) (mvT hZ (hw _ (List.mem_of_getElem? (i := 138) rfl)))) rfl (hw _ (List.mem_of_getElem? (i := 136) rfl)) (by decide) e0 Es (g := (mkF m 2 #[.val (.ref sb), .val (.int d.toInt32), .val (.ref so)] [(.ref so), (.ref sb)])) rfl (by rw [hml]; rfl) (lenOf pd_15 rfl) rfl (W := 0) (by show 2 * 0 + _ ≤ _; exact Nat.le_of_eq rfl) (hb hby d19_2) (by decide) (by decide) (by decide) (by decide)
  obtain ⟨rfl, rfl, e107⟩ := hQ107
  rw [List.append_nil] at X107
  refine GoOn.step st107 ?_
  show GoOn p e below _ (T107.setTop (mkF m 5 #[.val (.ref sb), .val (.int d.toInt32), .val (.ref so)] []))
  refine GoOn.step (fun t₀ k₀ => XS.aloadN X107.here hx rfl (hb hby d19_5) rfl rfl k₀) ?_
  show GoOn p e below _ (T107.setTop (mkF m 6 #[.val (.ref sb), .val (.int d.toInt32), .val (.ref so)] [(.ref so)]))
  refine GoOn.step (fun t₀ k₀ => XS.aloadN X107.here hx rfl (hb hby d19_6) rfl rfl k₀) ?_
  show GoOn p e below _ (T107.setTop (mkF m 7 #[.val (.ref sb), .val (.int d.toInt32), .val (.ref so)] [(.ref sb), (.ref so)]))
  obtain ⟨T108, X108, e108, st108⟩ := getF X107 hx hZ hown (host := "") (Or.inl (hw _ (List.mem_of_getElem? (i := 108) rfl))) Via.refl e107 Bv (g := (mkF m 7 #[.val (.ref sb), .val (.int d.toInt32), .val (.ref so)] [(.ref sb), (.ref so)])) rfl rfl (hb hby d19_7)
  refine GoOn.step st108 ?_
  show GoOn p e below _ (T108.setTop (mkF m 10 #[.val (.ref sb), .val (.int d.toInt32), .val (.ref so)] [(.ref bb), (.ref so)]))
  refine GoOn.step (fun t₀ k₀ => XS.iloadN X108.here hx rfl (hb hby d19_10) rfl k₀) ?_
  show GoOn p e below _ (T108.setTop (mkF m 11 #[.val (.ref sb), .val (.int d.toInt32), .val (.ref so)] [(.int d.toInt32), (.ref bb), (.ref so)]))
  refine GoOn.step (fun t₀ k₀ => XS.aloadN X108.here hx rfl (hb hby d19_11) rfl rfl k₀) ?_
  show GoOn p e below _ (T108.setTop (mkF m 12 #[.val (.ref sb), .val (.int d.toInt32), .val (.ref so)] [(.ref sb), (.int d.toInt32), (.ref bb), (.ref so)]))
  obtain ⟨T109, X109, e109, st109⟩ := getF X108 hx hZ hown (host := "") (Or.inl (hw _ (List.mem_of_getElem? (i := 110) rfl))) Via.refl e108 Bc (g := (mkF m 12 #[.val (.ref sb), .val (.int d.toInt32), .val (.ref so)] [(.ref sb), (.int d.toInt32), (.ref bb), (.ref so)])) rfl rfl (hb hby d19_12)
  refine GoOn.step st109 ?_
  show GoOn p e below _ (T109.setTop (mkF m 15 #[.val (.ref sb), .val (.int d.toInt32), .val (.ref so)] [(.int (0 : Int32)), (.int d.toInt32), (.ref bb), (.ref so)]))
  obtain ⟨_, T110, L110, X110, hQ110, st110⟩ := kCallV X109 hx hZ (a := so) (argsL := [(.ref bb), (.int d.toInt32), (.int (0 : Int32))]) (rest := []) (c_gb l Z a0 hw so sy bb d k F g cs fv h0 n0 Z0 O SS Eo Gv Gc Jy Jb gb no ny HB hk) hown (hw _ (List.mem_of_getElem? (i := 151) rfl)) (hw _ (List.mem_of_getElem? (i := 152) rfl)) (notFace_of_selects (args := #[]) (mvT hZ (hw _ (List.mem_of_getElem? (i := 154) rfl)))) (hw _ (List.mem_of_getElem? (i := 154) rfl)) (hw _ (List.mem_of_getElem? (i := 153) rfl)) (hw _ (List.mem_of_getElem? (i := 10) rfl)) (hw _ (List.mem_of_getElem? (i := 155) rfl)) (by decide) e109 Eo (g := (mkF m 15 #[.val (.ref sb), .val (.int d.toInt32), .val (.ref so)] [(.int (0 : Int32)), (.int d.toInt32), (.ref bb), (.ref so)])) rfl (by rw [hml]; rfl) (lenOf pd_17 rfl) rfl (W := 0) (by show 2 * 0 + _ ≤ _; exact Nat.le_of_eq rfl) (hb hby d19_15) (by decide) (by decide) (by decide) (by decide)
  obtain ⟨rfl, N110, K110, Jb⟩ := hQ110
  replace N0 := Fr.app N0 N110
  have K0 := K110
  refine GoOn.step st110 ?_
  show GoOn p e below _ (T110.setTop (mkF m 18 #[.val (.ref sb), .val (.int d.toInt32), .val (.ref so)] []))
  exact GoOn.ret0 X110 hx hrt hlk (hb hby d19_18) (by decide) (by decide) ⟨rfl, N0, K0, Jb⟩
theorem ef_c_asb (m : MethodId) (x0 : Addr) (x1 : Addr) : entryFrame m #[(.ref x0), (.ref x1)] 3 = mkF m 0 #[.val (.ref x0), .val (.ref x1), .unset] [] := by first | (simp [entryFrame, mkF, argsToLocals, Value.category]; done) | rfl
set_option maxRecDepth 65536 in
set_option maxHeartbeats 40000000 in
theorem c_asb (l : Launch) (Z : State) (a0 : Array Value) (hw : ∀ d ∈ tables_1, d.before a0 Z = true) (sb so sy bb : Addr) (n k : Nat) (F g : Nat → Int32) (cs : Int32) (fv : Value) (h0 : Heap) (n0 : Nat) (Z0 : n0 ≤ h0.size) (O : Old Z n0 h0) (SS : Stt Z cs fv) (Es : Exa Z h0 sb "java/lang/StringBuilder") (Bv : Fld Z h0 sb "java/lang/AbstractStringBuilder" "value" "[B" (.ref bb)) (Bc : Fld Z h0 sb "java/lang/AbstractStringBuilder" "coder" "B" (.int (0 : Int32))) (Bn : Fld Z h0 sb "java/lang/AbstractStringBuilder" "count" "I" (.int n.toInt32)) (Eo : Exa Z h0 so "java/lang/String") (Gv : Fld Z h0 so "java/lang/String" "value" "[B" (.ref sy)) (Gc : Fld Z h0 so "java/lang/String" "coder" "B" (.int (0 : Int32))) (Jy : Jar Z h0 sy .byte k (fun i => .int (laB (g i)))) (Jb : Jar Z h0 bb .byte 16 (fun i => .int (F i))) (gb : n0 ≤ bb) (no : so ≠ bb) (ny : sy ≠ bb) (gs : n0 ≤ sb) (ns : sb ≠ bb) (HB : ∀ j, isB (F j)) (hk : n + k ≤ 16) :
    Con l Z (⟨"java/lang/AbstractStringBuilder", "append", "(Ljava/lang/String;)Ljava/lang/AbstractStringBuilder;"⟩ : MethodName) jdk_68_method_22_code 3 (some (.object "java/lang/AbstractStringBuilder")) ({ frames := 3, cells := 0, slots := 0, locals := 50 } : Room) #[(.ref sb), (.ref so)] h0 (ApQ Z sb bb (n + k) (apF F n g k) h0 n0) := by
  refine Con.intro (plainFor_of_name pn_8) ?_
  intro p e s m below meth c s₁ hx hby hml hrt hlk hZ hown hnm X0 e0
  replace hown : s.vm.findClass "java/lang/AbstractStringBuilder" = some m.cls := hown
  have N0 := Fr.nil n0
  refine GoOn.cast (ef_c_asb m sb so) ?_
  show GoOn p e below _ (s₁.setTop (mkF m 0 #[.val (.ref sb), .val (.ref so), .unset] []))
  have K0 : Keep h0 h0 [sb, bb] := Keep.refl _ _
  refine GoOn.step (fun t₀ k₀ => XS.aloadN X0.here hx rfl (hb hby d15_0) rfl rfl k₀) ?_
  show GoOn p e below _ (s₁.setTop (mkF m 1 #[.val (.ref sb), .val (.ref so), .unset] [(.ref so)]))
  refine GoOn.step (fun t₀ k₀ => XS.ifnonnullYes X0.here hx rfl (pc0 := 1) (pc' := 9) rfl (hb hby d15_1) rfl (by decide) (by decide) k₀) ?_
  show GoOn p e below _ (s₁.setTop (mkF m 9 #[.val (.ref sb), .val (.ref so), .unset] []))
  refine GoOn.step (fun t₀ k₀ => XS.aloadN X0.here hx rfl (hb hby d15_9) rfl rfl k₀) ?_
  show GoOn p e below _ (s₁.setTop (mkF m 10 #[.val (.ref sb), .val (.ref so), .unset] [(.ref so)]))
  obtain ⟨_, T111, L111, X111, hQ111, st111⟩ := kCallV X0 hx hZ (a := so) (argsL := []) (rest := []) (c_len l Z a0 hw so k (fun i => laB (g i)) cs fv h0 n0 O SS ⟨Eo, sy, Gv, Gc, Jy⟩ (by omega)) hown (hw _ (List.mem_of_getElem? (i := 122) rfl)) (hw _ (List.mem_of_getElem? (i := 123) rfl)) (notFace_of_selects (args := #[]) (mvT hZ (hw _ (List.mem_of_getElem? (i := 125) rfl)))) (hw _ (List.mem_of_getElem? (i := 125) rfl)) (hw _ (List.mem_of_getElem? (i := 124) rfl)) (hw _ (List.mem_of_getElem? (i := 10) rfl)) (hw _ (List.mem_of_getElem? (i := 126) rfl)) (by decide) e0 Eo (g := (mkF m 10 #[.val (.ref sb), .val (.ref so), .unset] [(.ref so)])) rfl (by rw [hml]; rfl) (lenOf pd_18 rfl) rfl (W := 0) (by show 2 * 0 + _ ≤ _; exact Nat.le_of_eq rfl) (hb hby d15_10) (by decide) (by decide) (by decide) (by decide)
  obtain ⟨rfl, rfl, e111⟩ := hQ111
  rw [List.append_nil] at X111
  refine GoOn.step st111 ?_
  show GoOn p e below _ (T111.setTop (mkF m 13 #[.val (.ref sb), .val (.ref so), .unset] [(.int k.toInt32)]))
  refine GoOn.step (fun t₀ k₀ => XS.istoreN X111.here hx rfl (hb hby d15_13) rfl (l' := #[.val (.ref sb), .val (.ref so), .val (.int k.toInt32)]) rfl k₀) ?_
  show GoOn p e below _ (T111.setTop (mkF m 14 #[.val (.ref sb), .val (.ref so), .val (.int k.toInt32)] []))
  refine GoOn.step (fun t₀ k₀ => XS.aloadN X111.here hx rfl (hb hby d15_14) rfl rfl k₀) ?_
  show GoOn p e below _ (T111.setTop (mkF m 15 #[.val (.ref sb), .val (.ref so), .val (.int k.toInt32)] [(.ref sb)]))
  refine GoOn.step (fun t₀ k₀ => XS.aloadN X111.here hx rfl (hb hby d15_15) rfl rfl k₀) ?_
  show GoOn p e below _ (T111.setTop (mkF m 16 #[.val (.ref sb), .val (.ref so), .val (.int k.toInt32)] [(.ref sb), (.ref sb)]))
  obtain ⟨T112, X112, e112, st112⟩ := getF X111 hx hZ hown (host := "") (Or.inl (hw _ (List.mem_of_getElem? (i := 133) rfl))) Via.refl e111 Bn (g := (mkF m 16 #[.val (.ref sb), .val (.ref so), .val (.int k.toInt32)] [(.ref sb), (.ref sb)])) rfl rfl (hb hby d15_16)
  refine GoOn.step st112 ?_
  show GoOn p e below _ (T112.setTop (mkF m 19 #[.val (.ref sb), .val (.ref so), .val (.int k.toInt32)] [(.int n.toInt32), (.ref sb)]))
  refine GoOn.step (fun t₀ k₀ => XS.iloadN X112.here hx rfl (hb hby d15_19) rfl k₀) ?_
  show GoOn p e below _ (T112.setTop (mkF m 20 #[.val (.ref sb), .val (.ref so), .val (.int k.toInt32)] [(.int k.toInt32), (.int n.toInt32), (.ref sb)]))
  refine GoOn.step (fun t₀ k₀ => XS.iadd X112.here hx rfl (hb hby d15_20) rfl k₀) ?_
  show GoOn p e below _ (T112.setTop (mkF m 21 #[.val (.ref sb), .val (.ref so), .val (.int k.toInt32)] [(.int (n.toInt32 + k.toInt32)), (.ref sb)]))
  rw [show (n.toInt32 + k.toInt32) = (n + k).toInt32 from (adN hk)]
  obtain ⟨_, T113, L113, X113, hQ113, st113⟩ := kCallP X112 hx hZ (a := sb) (y2 := (⟨"java/lang/AbstractStringBuilder", "ensureCapacityInternal", "(I)V"⟩ : MethodName)) (argsL := [(.int (n + k).toInt32)]) (rest := []) (c_ens l Z a0 hw sb bb F (n + k).toInt32 h0 Es Bv Bc Jb ⟨by rw [toI hk]; omega, by rw [toI hk]; omega⟩) hown (hw _ (List.mem_of_getElem? (i := 135) rfl)) (hw _ (List.mem_of_getElem? (i := 136) rfl)) (hw _ (List.mem_of_getElem? (i := 137) rfl)) (hw _ (List.mem_of_getElem? (i := 104) rfl)) (hw _ (List.mem_of_getElem? (i := 139) rfl)) (notFace_of_selects (args := #[]) (mvT hZ (hw _ (List.mem_of_getElem? (i := 138) rfl)))) rfl (hw _ (List.mem_of_getElem? (i := 136) rfl)) (by decide) e112 Es (g := (mkF m 21 #[.val (.ref sb), .val (.ref so), .val (.int k.toInt32)] [(.int (n + k).toInt32), (.ref sb)])) rfl (by rw [hml]; rfl) (lenOf pd_16 rfl) rfl (W := 0) (by show 2 * 0 + _ ≤ _; exact Nat.le_of_eq rfl) (hb hby d15_21) (by decide) (by decide) (by decide) (by decide)
  obtain ⟨rfl, rfl, e113⟩ := hQ113
  rw [List.append_nil] at X113
  refine GoOn.step st113 ?_
  show GoOn p e below _ (T113.setTop (mkF m 24 #[.val (.ref sb), .val (.ref so), .val (.int k.toInt32)] []))
  refine GoOn.step (fun t₀ k₀ => XS.aloadN X113.here hx rfl (hb hby d15_24) rfl rfl k₀) ?_
  show GoOn p e below _ (T113.setTop (mkF m 25 #[.val (.ref sb), .val (.ref so), .val (.int k.toInt32)] [(.ref sb)]))
  refine GoOn.step (fun t₀ k₀ => XS.aloadN X113.here hx rfl (hb hby d15_25) rfl rfl k₀) ?_
  show GoOn p e below _ (T113.setTop (mkF m 26 #[.val (.ref sb), .val (.ref so), .val (.int k.toInt32)] [(.ref sb), (.ref sb)]))
  obtain ⟨T114, X114, e114, st114⟩ := getF X113 hx hZ hown (host := "") (Or.inl (hw _ (List.mem_of_getElem? (i := 133) rfl))) Via.refl e113 Bn (g := (mkF m 26 #[.val (.ref sb), .val (.ref so), .val (.int k.toInt32)] [(.ref sb), (.ref sb)])) rfl rfl (hb hby d15_26)
  refine GoOn.step st114 ?_
  show GoOn p e below _ (T114.setTop (mkF m 29 #[.val (.ref sb), .val (.ref so), .val (.int k.toInt32)] [(.int n.toInt32), (.ref sb)]))
  refine GoOn.step (fun t₀ k₀ => XS.aloadN X114.here hx rfl (hb hby d15_29) rfl rfl k₀) ?_
  show GoOn p e below _ (T114.setTop (mkF m 30 #[.val (.ref sb), .val (.ref so), .val (.int k.toInt32)] [(.ref so), (.int n.toInt32), (.ref sb)]))
  obtain ⟨_, T115, L115, X115, hQ115, st115⟩ := kCallP X114 hx hZ (a := sb) (y2 := (⟨"java/lang/AbstractStringBuilder", "ensureCapacityInternal", "(I)V"⟩ : MethodName)) (argsL := [(.int n.toInt32), (.ref so)]) (rest := []) (c_put l Z a0 hw sb so sy bb n k F g cs fv h0 n0 Z0 O SS Es Bv Bc Eo Gv Gc Jy Jb gb no ny HB hk) hown (hw _ (List.mem_of_getElem? (i := 140) rfl)) (hw _ (List.mem_of_getElem? (i := 141) rfl)) (hw _ (List.mem_of_getElem? (i := 142) rfl)) (hw _ (List.mem_of_getElem? (i := 104) rfl)) (hw _ (List.mem_of_getElem? (i := 144) rfl)) (notFace_of_selects (args := #[]) (mvT hZ (hw _ (List.mem_of_getElem? (i := 138) rfl)))) rfl (hw _ (List.mem_of_getElem? (i := 136) rfl)) (by decide) e114 Es (g := (mkF m 30 #[.val (.ref sb), .val (.ref so), .val (.int k.toInt32)] [(.ref so), (.int n.toInt32), (.ref sb)])) rfl (by rw [hml]; rfl) (lenOf pd_19 rfl) rfl (W := 0) (by show 2 * 0 + _ ≤ _; exact Nat.le_of_eq rfl) (hb hby d15_30) (by decide) (by decide) (by decide) (by decide)
  obtain ⟨rfl, N115, K115, J115⟩ := hQ115
  replace N0 := Fr.app N0 N115
  replace K0 := K0.trans K115 (allS (Or.inl (by simp)) all0)
  replace Es := Es.keep K115
  replace Bv := Bv.keep K115 (ninS ns nin0)
  replace Bc := Bc.keep K115 (ninS ns nin0)
  replace Bn := Bn.keep K115 (ninS ns nin0)
  replace Z0 := Nat.le_trans Z0 K115.1
  have Jb := J115
  refine GoOn.step st115 ?_
  show GoOn p e below _ (T115.setTop (mkF m 33 #[.val (.ref sb), .val (.ref so), .val (.int k.toInt32)] []))
  refine GoOn.step (fun t₀ k₀ => XS.aloadN X115.here hx rfl (hb hby d15_33) rfl rfl k₀) ?_
  show GoOn p e below _ (T115.setTop (mkF m 34 #[.val (.ref sb), .val (.ref so), .val (.int k.toInt32)] [(.ref sb)]))
  refine GoOn.step (fun t₀ k₀ => XS.dup X115.here hx rfl (hb hby d15_34) rfl rfl k₀) ?_
  show GoOn p e below _ (T115.setTop (mkF m 35 #[.val (.ref sb), .val (.ref so), .val (.int k.toInt32)] [(.ref sb), (.ref sb)]))
  obtain ⟨T116, X116, e116, st116⟩ := getF X115 hx hZ hown (host := "") (Or.inl (hw _ (List.mem_of_getElem? (i := 133) rfl))) Via.refl rfl Bn (g := (mkF m 35 #[.val (.ref sb), .val (.ref so), .val (.int k.toInt32)] [(.ref sb), (.ref sb)])) rfl rfl (hb hby d15_35)
  refine GoOn.step st116 ?_
  show GoOn p e below _ (T116.setTop (mkF m 38 #[.val (.ref sb), .val (.ref so), .val (.int k.toInt32)] [(.int n.toInt32), (.ref sb)]))
  refine GoOn.step (fun t₀ k₀ => XS.iloadN X116.here hx rfl (hb hby d15_38) rfl k₀) ?_
  show GoOn p e below _ (T116.setTop (mkF m 39 #[.val (.ref sb), .val (.ref so), .val (.int k.toInt32)] [(.int k.toInt32), (.int n.toInt32), (.ref sb)]))
  refine GoOn.step (fun t₀ k₀ => XS.iadd X116.here hx rfl (hb hby d15_39) rfl k₀) ?_
  show GoOn p e below _ (T116.setTop (mkF m 40 #[.val (.ref sb), .val (.ref so), .val (.int k.toInt32)] [(.int (n.toInt32 + k.toInt32)), (.ref sb)]))
  rw [show (n.toInt32 + k.toInt32) = (n + k).toInt32 from (adN hk)]
  obtain ⟨T117, h117, X117, e117, W117, st117⟩ := putF X116 hx hZ hown (host := "") (Or.inl (hw _ (List.mem_of_getElem? (i := 133) rfl))) Via.refl e116 Bn Es (Or.inl (hw _ (List.mem_of_getElem? (i := 134) rfl))) (hw _ (List.mem_of_getElem? (i := 95) rfl)) (ty := .int) (by decide) rfl rfl (g := (mkF m 40 #[.val (.ref sb), .val (.ref so), .val (.int k.toInt32)] [(.int (n + k).toInt32), (.ref sb)])) rfl rfl (hb hby d15_40)
  replace N0 := Fr.snoc X117 N0 gs
  replace Es := Es.wr W117
  replace Bv := Bv.other W117 (Or.inr (slot_ne (Or.inl (hw _ (List.mem_of_getElem? (i := 109) rfl))) (Or.inl (hw _ (List.mem_of_getElem? (i := 134) rfl))) (by decide) (t := (.array .byte)) (t' := .int) (by decide) (by decide)))
  replace Bc := Bc.other W117 (Or.inr (slot_ne (Or.inl (hw _ (List.mem_of_getElem? (i := 111) rfl))) (Or.inl (hw _ (List.mem_of_getElem? (i := 134) rfl))) (by decide) (t := .byte) (t' := .int) (by decide) (by decide)))
  replace Bn := Fld.same W117 Bn
  replace Jb := Jb.other W117 (Ne.symm ns)
  replace Z0 := Nat.le_trans Z0 (Nat.le_of_eq W117.size.symm)
  replace K0 := K0.wr W117 (Or.inl (by simp))
  refine GoOn.step st117 ?_
  show GoOn p e below _ (T117.setTop (mkF m 43 #[.val (.ref sb), .val (.ref so), .val (.int k.toInt32)] []))
  refine GoOn.step (fun t₀ k₀ => XS.aloadN X117.here hx rfl (hb hby d15_43) rfl rfl k₀) ?_
  show GoOn p e below _ (T117.setTop (mkF m 44 #[.val (.ref sb), .val (.ref so), .val (.int k.toInt32)] [(.ref sb)]))
  exact GoOn.retR X117 hx hrt rfl hlk rfl (hb hby d15_44) (by decide) (by decide) (by first | exact ⟨rfl, N0, K0, Es, Bv, Bc, Bn, Jb⟩ | (rw [e117]; exact ⟨rfl, N0, K0, Es, Bv, Bc, Bn, Jb⟩))
theorem ef_c_app (m : MethodId) (x0 : Addr) (x1 : Addr) : entryFrame m #[(.ref x0), (.ref x1)] 2 = mkF m 0 #[.val (.ref x0), .val (.ref x1)] [] := by first | (simp [entryFrame, mkF, argsToLocals, Value.category]; done) | rfl
set_option maxRecDepth 65536 in
set_option maxHeartbeats 40000000 in
theorem c_app (l : Launch) (Z : State) (a0 : Array Value) (hw : ∀ d ∈ tables_1, d.before a0 Z = true) (sb so sy bb : Addr) (n k : Nat) (F g : Nat → Int32) (cs : Int32) (fv : Value) (h0 : Heap) (n0 : Nat) (Z0 : n0 ≤ h0.size) (O : Old Z n0 h0) (SS : Stt Z cs fv) (Es : Exa Z h0 sb "java/lang/StringBuilder") (Bv : Fld Z h0 sb "java/lang/AbstractStringBuilder" "value" "[B" (.ref bb)) (Bc : Fld Z h0 sb "java/lang/AbstractStringBuilder" "coder" "B" (.int (0 : Int32))) (Bn : Fld Z h0 sb "java/lang/AbstractStringBuilder" "count" "I" (.int n.toInt32)) (Eo : Exa Z h0 so "java/lang/String") (Gv : Fld Z h0 so "java/lang/String" "value" "[B" (.ref sy)) (Gc : Fld Z h0 so "java/lang/String" "coder" "B" (.int (0 : Int32))) (Jy : Jar Z h0 sy .byte k (fun i => .int (laB (g i)))) (Jb : Jar Z h0 bb .byte 16 (fun i => .int (F i))) (gb : n0 ≤ bb) (no : so ≠ bb) (ny : sy ≠ bb) (gs : n0 ≤ sb) (ns : sb ≠ bb) (HB : ∀ j, isB (F j)) (hk : n + k ≤ 16) :
    Con l Z (⟨"java/lang/StringBuilder", "append", "(Ljava/lang/String;)Ljava/lang/StringBuilder;"⟩ : MethodName) jdk_67_method_7_code 2 (some (.object "java/lang/StringBuilder")) ({ frames := 4, cells := 0, slots := 0, locals := 64 } : Room) #[(.ref sb), (.ref so)] h0 (ApQ Z sb bb (n + k) (apF F n g k) h0 n0) := by
  refine Con.intro (plainFor_of_name pn_9) ?_
  intro p e s m below meth c s₁ hx hby hml hrt hlk hZ hown hnm X0 e0
  replace hown : s.vm.findClass "java/lang/StringBuilder" = some m.cls := hown
  have N0 := Fr.nil n0
  refine GoOn.cast (ef_c_app m sb so) ?_
  show GoOn p e below _ (s₁.setTop (mkF m 0 #[.val (.ref sb), .val (.ref so)] []))
  refine GoOn.step (fun t₀ k₀ => XS.aloadN X0.here hx rfl (hb hby d14_0) rfl rfl k₀) ?_
  show GoOn p e below _ (s₁.setTop (mkF m 1 #[.val (.ref sb), .val (.ref so)] [(.ref sb)]))
  refine GoOn.step (fun t₀ k₀ => XS.aloadN X0.here hx rfl (hb hby d14_1) rfl rfl k₀) ?_
  show GoOn p e below _ (s₁.setTop (mkF m 2 #[.val (.ref sb), .val (.ref so)] [(.ref so), (.ref sb)]))
  obtain ⟨_, T118, L118, X118, hQ118, st118⟩ := kCallSup X0 hx hZ (a := sb) (y2 := (⟨"java/lang/AbstractStringBuilder", "ensureCapacityInternal", "(I)V"⟩ : MethodName)) (argsL := [(.ref so)]) (rest := []) (c_asb l Z a0 hw sb so sy bb n k F g cs fv h0 n0 Z0 O SS Es Bv Bc Bn Eo Gv Gc Jy Jb gb no ny gs ns HB hk) hown (hw _ (List.mem_of_getElem? (i := 117) rfl)) (hw _ (List.mem_of_getElem? (i := 118) rfl)) (hw _ (List.mem_of_getElem? (i := 119) rfl)) (by decide) (hw _ (List.mem_of_getElem? (i := 104) rfl)) (hw _ (List.mem_of_getElem? (i := 121) rfl)) (hw _ (List.mem_of_getElem? (i := 138) rfl)) rfl (hw _ (List.mem_of_getElem? (i := 136) rfl)) (by decide) e0 Es (g := (mkF m 2 #[.val (.ref sb), .val (.ref so)] [(.ref so), (.ref sb)])) rfl (by rw [hml]; rfl) (lenOf pd_20 rfl) rfl (W := 0) (by show 2 * 0 + _ ≤ _; exact Nat.le_of_eq rfl) (hb hby d14_2) (by decide) (by decide) (by decide) (by decide)
  obtain ⟨rfl, N118, K118, HQ⟩ := hQ118
  replace N0 := Fr.app N0 N118
  have K0 := K118
  refine GoOn.step st118 ?_
  show GoOn p e below _ (T118.setTop (mkF m 5 #[.val (.ref sb), .val (.ref so)] [(.ref sb)]))
  refine GoOn.step (fun t₀ k₀ => XS.pop X118.here hx rfl (hb hby d14_5) rfl rfl k₀) ?_
  show GoOn p e below _ (T118.setTop (mkF m 6 #[.val (.ref sb), .val (.ref so)] []))
  refine GoOn.step (fun t₀ k₀ => XS.aloadN X118.here hx rfl (hb hby d14_6) rfl rfl k₀) ?_
  show GoOn p e below _ (T118.setTop (mkF m 7 #[.val (.ref sb), .val (.ref so)] [(.ref sb)]))
  exact GoOn.retR X118 hx hrt rfl hlk rfl (hb hby d14_7) (by decide) (by decide) ⟨rfl, N0, K0, HQ⟩
theorem ef_c_gm (m : MethodId) (x0 : Addr) : entryFrame m #[(.ref x0)] 1 = mkF m 0 #[.val (.ref x0)] [] := by first | (simp [entryFrame, mkF, argsToLocals, Value.category]; done) | rfl
set_option maxRecDepth 65536 in
set_option maxHeartbeats 40000000 in
theorem c_gm (l : Launch) (Z : State) (a0 : Array Value) (hw : ∀ d ∈ tables_1, d.before a0 Z = true) (x rq : Addr) (h0 : Heap) (Fd : Fld Z h0 x "java/lang/Throwable" "detailMessage" "Ljava/lang/String;" (.ref rq)) :
    Con l Z (⟨"java/lang/Throwable", "getMessage", "()Ljava/lang/String;"⟩ : MethodName) jdk_78_method_6_code 1 (some (.object "java/lang/String")) ({ frames := 0, cells := 0, slots := 0, locals := 0 } : Room) #[(.ref x)] h0 (PQ (some (.ref rq)) h0) := by
  refine Con.intro (plainFor_of_name pn_5) ?_
  intro p e s m below meth c s₁ hx hby hml hrt hlk hZ hown hnm X0 e0
  replace hown : s.vm.findClass "java/lang/Throwable" = some m.cls := hown
  refine GoOn.cast (ef_c_gm m x) ?_
  show GoOn p e below _ (s₁.setTop (mkF m 0 #[.val (.ref x)] []))
  refine GoOn.step (fun t₀ k₀ => XS.aloadN X0.here hx rfl (hb hby d22_0) rfl rfl k₀) ?_
  show GoOn p e below _ (s₁.setTop (mkF m 1 #[.val (.ref x)] [(.ref x)]))
  obtain ⟨T119, X119, e119, st119⟩ := getF X0 hx hZ hown (host := "") (Or.inl (hw _ (List.mem_of_getElem? (i := 83) rfl))) Via.refl e0 Fd (g := (mkF m 1 #[.val (.ref x)] [(.ref x)])) rfl rfl (hb hby d22_1)
  refine GoOn.step st119 ?_
  show GoOn p e below _ (T119.setTop (mkF m 4 #[.val (.ref x)] [(.ref rq)]))
  exact GoOn.retR X119 hx hrt rfl hlk rfl (hb hby d22_4) (by decide) (by decide) (by first | exact ⟨rfl, rfl, rfl⟩ | (rw [e119]; exact ⟨rfl, rfl, rfl⟩))
theorem ef_c_gv (m : MethodId) (x0 : Addr) : entryFrame m #[(.ref x0)] 1 = mkF m 0 #[.val (.ref x0)] [] := by first | (simp [entryFrame, mkF, argsToLocals, Value.category]; done) | rfl
set_option maxRecDepth 65536 in
set_option maxHeartbeats 40000000 in
theorem c_gv (l : Launch) (Z : State) (a0 : Array Value) (hw : ∀ d ∈ tables_1, d.before a0 Z = true) (sb bb : Addr) (h0 : Heap) (Bv : Fld Z h0 sb "java/lang/AbstractStringBuilder" "value" "[B" (.ref bb)) :
    Con l Z (⟨"java/lang/AbstractStringBuilder", "getValue", "()[B"⟩ : MethodName) jdk_68_method_64_code 1 (some (.array .byte)) ({ frames := 0, cells := 0, slots := 0, locals := 0 } : Room) #[(.ref sb)] h0 (PQ (some (.ref bb)) h0) := by
  refine Con.intro (plainFor_of_name pn_8) ?_
  intro p e s m below meth c s₁ hx hby hml hrt hlk hZ hown hnm X0 e0
  replace hown : s.vm.findClass "java/lang/AbstractStringBuilder" = some m.cls := hown
  refine GoOn.cast (ef_c_gv m sb) ?_
  show GoOn p e below _ (s₁.setTop (mkF m 0 #[.val (.ref sb)] []))
  refine GoOn.step (fun t₀ k₀ => XS.aloadN X0.here hx rfl (hb hby d26_0) rfl rfl k₀) ?_
  show GoOn p e below _ (s₁.setTop (mkF m 1 #[.val (.ref sb)] [(.ref sb)]))
  obtain ⟨T120, X120, e120, st120⟩ := getF X0 hx hZ hown (host := "") (Or.inl (hw _ (List.mem_of_getElem? (i := 108) rfl))) Via.refl e0 Bv (g := (mkF m 1 #[.val (.ref sb)] [(.ref sb)])) rfl rfl (hb hby d26_1)
  refine GoOn.step st120 ?_
  show GoOn p e below _ (T120.setTop (mkF m 4 #[.val (.ref sb)] [(.ref bb)]))
  exact GoOn.retR X120 hx hrt rfl hlk rfl (hb hby d26_4) (by decide) (by decide) (by first | exact ⟨rfl, rfl, rfl⟩ | (rw [e120]; exact ⟨rfl, rfl, rfl⟩))
theorem ef_c_al (m : MethodId) (x0 : Addr) : entryFrame m #[(.ref x0)] 1 = mkF m 0 #[.val (.ref x0)] [] := by first | (simp [entryFrame, mkF, argsToLocals, Value.category]; done) | rfl
set_option maxRecDepth 65536 in
set_option maxHeartbeats 40000000 in
theorem c_al (l : Launch) (Z : State) (a0 : Array Value) (hw : ∀ d ∈ tables_1, d.before a0 Z = true) (sb : Addr) (n : Nat) (h0 : Heap) (Bn : Fld Z h0 sb "java/lang/AbstractStringBuilder" "count" "I" (.int n.toInt32)) :
    Con l Z (⟨"java/lang/AbstractStringBuilder", "length", "()I"⟩ : MethodName) jdk_68_method_6_code 1 (some .int) ({ frames := 0, cells := 0, slots := 0, locals := 0 } : Room) #[(.ref sb)] h0 (PQ (some (.int n.toInt32)) h0) := by
  refine Con.intro (plainFor_of_name pn_8) ?_
  intro p e s m below meth c s₁ hx hby hml hrt hlk hZ hown hnm X0 e0
  replace hown : s.vm.findClass "java/lang/AbstractStringBuilder" = some m.cls := hown
  refine GoOn.cast (ef_c_al m sb) ?_
  show GoOn p e below _ (s₁.setTop (mkF m 0 #[.val (.ref sb)] []))
  refine GoOn.step (fun t₀ k₀ => XS.aloadN X0.here hx rfl (hb hby d28_0) rfl rfl k₀) ?_
  show GoOn p e below _ (s₁.setTop (mkF m 1 #[.val (.ref sb)] [(.ref sb)]))
  obtain ⟨T121, X121, e121, st121⟩ := getF X0 hx hZ hown (host := "") (Or.inl (hw _ (List.mem_of_getElem? (i := 133) rfl))) Via.refl e0 Bn (g := (mkF m 1 #[.val (.ref sb)] [(.ref sb)])) rfl rfl (hb hby d28_1)
  refine GoOn.step st121 ?_
  show GoOn p e below _ (T121.setTop (mkF m 4 #[.val (.ref sb)] [(.int n.toInt32)]))
  exact GoOn.retI X121 hx hrt hlk (hb hby d28_4) (by decide) (by decide) (by first | exact ⟨rfl, rfl, rfl⟩ | (rw [e121]; exact ⟨rfl, rfl, rfl⟩))
theorem ef_c_sl (m : MethodId) (x0 : Addr) : entryFrame m #[(.ref x0)] 1 = mkF m 0 #[.val (.ref x0)] [] := by first | (simp [entryFrame, mkF, argsToLocals, Value.category]; done) | rfl
set_option maxRecDepth 65536 in
set_option maxHeartbeats 40000000 in
theorem c_sl (l : Launch) (Z : State) (a0 : Array Value) (hw : ∀ d ∈ tables_1, d.before a0 Z = true) (sb : Addr) (n : Nat) (h0 : Heap) (Es : Exa Z h0 sb "java/lang/StringBuilder") (Bn : Fld Z h0 sb "java/lang/AbstractStringBuilder" "count" "I" (.int n.toInt32)) :
    Con l Z (⟨"java/lang/StringBuilder", "length", "()I"⟩ : MethodName) jdk_67_method_93_code 1 (some .int) ({ frames := 1, cells := 0, slots := 0, locals := 12 } : Room) #[(.ref sb)] h0 (PQ (some (.int n.toInt32)) h0) := by
  refine Con.intro (plainFor_of_name pn_9) ?_
  intro p e s m below meth c s₁ hx hby hml hrt hlk hZ hown hnm X0 e0
  replace hown : s.vm.findClass "java/lang/StringBuilder" = some m.cls := hown
  refine GoOn.cast (ef_c_sl m sb) ?_
  show GoOn p e below _ (s₁.setTop (mkF m 0 #[.val (.ref sb)] []))
  refine GoOn.step (fun t₀ k₀ => XS.aloadN X0.here hx rfl (hb hby d27_0) rfl rfl k₀) ?_
  show GoOn p e below _ (s₁.setTop (mkF m 1 #[.val (.ref sb)] [(.ref sb)]))
  obtain ⟨_, T122, L122, X122, hQ122, st122⟩ := kCallSup X0 hx hZ (a := sb) (y2 := (⟨"java/lang/AbstractStringBuilder", "ensureCapacityInternal", "(I)V"⟩ : MethodName)) (argsL := []) (rest := []) (c_al l Z a0 hw sb n h0 Bn) hown (hw _ (List.mem_of_getElem? (i := 190) rfl)) (hw _ (List.mem_of_getElem? (i := 186) rfl)) (hw _ (List.mem_of_getElem? (i := 119) rfl)) (by decide) (hw _ (List.mem_of_getElem? (i := 104) rfl)) (hw _ (List.mem_of_getElem? (i := 191) rfl)) (hw _ (List.mem_of_getElem? (i := 138) rfl)) rfl (hw _ (List.mem_of_getElem? (i := 136) rfl)) (by decide) e0 Es (g := (mkF m 1 #[.val (.ref sb)] [(.ref sb)])) rfl (by rw [hml]; rfl) (lenOf pd_18 rfl) rfl (W := 0) (by show 2 * 0 + _ ≤ _; exact Nat.le_of_eq rfl) (hb hby d27_1) (by decide) (by decide) (by decide) (by decide)
  obtain ⟨rfl, rfl, e122⟩ := hQ122
  rw [List.append_nil] at X122
  refine GoOn.step st122 ?_
  show GoOn p e below _ (T122.setTop (mkF m 4 #[.val (.ref sb)] [(.int n.toInt32)]))
  exact GoOn.retI X122 hx hrt hlk (hb hby d27_4) (by decide) (by decide) (by first | exact ⟨rfl, rfl, rfl⟩ | (rw [e122]; exact ⟨rfl, rfl, rfl⟩))
theorem ef_c_il (m : MethodId) (x0 : Addr) : entryFrame m #[(.ref x0)] 1 = mkF m 0 #[.val (.ref x0)] [] := by first | (simp [entryFrame, mkF, argsToLocals, Value.category]; done) | rfl
set_option maxRecDepth 65536 in
set_option maxHeartbeats 40000000 in
theorem c_il (l : Launch) (Z : State) (a0 : Array Value) (hw : ∀ d ∈ tables_1, d.before a0 Z = true) (sb : Addr) (cs : Int32) (fv : Value) (h0 : Heap) (n0 : Nat) (O : Old Z n0 h0) (SS : Stt Z cs fv) (Bc : Fld Z h0 sb "java/lang/AbstractStringBuilder" "coder" "B" (.int (0 : Int32))) :
    Con l Z (⟨"java/lang/AbstractStringBuilder", "isLatin1", "()Z"⟩ : MethodName) jdk_68_method_68_code 1 (some .boolean) ({ frames := 0, cells := 0, slots := 0, locals := 0 } : Room) #[(.ref sb)] h0 (PQ (some (.int (1 : Int32))) h0) := by
  refine Con.intro (plainFor_of_name pn_8) ?_
  intro p e s m below meth c s₁ hx hby hml hrt hlk hZ hown hnm X0 e0
  replace hown : s.vm.findClass "java/lang/AbstractStringBuilder" = some m.cls := hown
  refine GoOn.cast (ef_c_il m sb) ?_
  show GoOn p e below _ (s₁.setTop (mkF m 0 #[.val (.ref sb)] []))
  obtain ⟨hcs, hfv, S1, S2⟩ := id SS
  replace S1 := S1.ext O.2
  replace S2 := S2.ext O.2
  obtain ⟨T123, X123, e123, st123⟩ := getS2 X0 hx hZ hown (host := "") (Or.inl (hw _ (List.mem_of_getElem? (i := 107) rfl))) Via.refl e0 S1 (g := (mkF m 0 #[.val (.ref sb)] [])) rfl (hb hby d29_0)
  refine GoOn.step st123 ?_
  show GoOn p e below _ (T123.setTop (mkF m 3 #[.val (.ref sb)] [(.int cs)]))
  have hf124 : ¬ (cs = (0 : Int32)) := hcs
  refine GoOn.step (fun t₀ k₀ => XS.ifNo X123.here hx rfl (hb hby d29_3) rfl ((if0 _ _).trans (feq hf124).1) k₀) ?_
  show GoOn p e below _ (T123.setTop (mkF m 6 #[.val (.ref sb)] []))
  refine GoOn.step (fun t₀ k₀ => XS.aloadN X123.here hx rfl (hb hby d29_6) rfl rfl k₀) ?_
  show GoOn p e below _ (T123.setTop (mkF m 7 #[.val (.ref sb)] [(.ref sb)]))
  obtain ⟨T125, X125, e125, st125⟩ := getF X123 hx hZ hown (host := "") (Or.inl (hw _ (List.mem_of_getElem? (i := 110) rfl))) Via.refl e123 Bc (g := (mkF m 7 #[.val (.ref sb)] [(.ref sb)])) rfl rfl (hb hby d29_7)
  refine GoOn.step st125 ?_
  show GoOn p e below _ (T125.setTop (mkF m 10 #[.val (.ref sb)] [(.int (0 : Int32))]))
  have hf126 : (0 : Int32) = (0 : Int32) := rfl
  refine GoOn.step (fun t₀ k₀ => XS.ifNo X125.here hx rfl (hb hby d29_10) rfl ((if0 _ _).trans (teq hf126).2) k₀) ?_
  show GoOn p e below _ (T125.setTop (mkF m 13 #[.val (.ref sb)] []))
  refine GoOn.step (fun t₀ k₀ => XS.iconst X125.here hx rfl (hb hby d29_13) k₀) ?_
  show GoOn p e below _ (T125.setTop (mkF m 14 #[.val (.ref sb)] [(.int (1 : Int32))]))
  refine GoOn.step (fun t₀ k₀ => XS.goto X125.here hx rfl (pc0 := 14) (pc' := 18) rfl (hb hby d29_14) (by decide) (by decide) k₀) ?_
  show GoOn p e below _ (T125.setTop (mkF m 18 #[.val (.ref sb)] [(.int (1 : Int32))]))
  exact GoOn.retN X125 hx hrt hlk (by simp) (hb hby d29_18) (by decide) (by decide) (by first | exact ⟨rfl, rfl, rfl⟩ | (rw [e125]; exact ⟨rfl, rfl, rfl⟩))
theorem ef_c_cl (m : MethodId) (x0 : Int32) (x1 : Int32) : entryFrame m #[(.int x0), (.int x1)] 2 = mkF m 0 #[.val (.int x0), .val (.int x1)] [] := by first | (simp [entryFrame, mkF, argsToLocals, Value.category]; done) | rfl
set_option maxRecDepth 65536 in
set_option maxHeartbeats 40000000 in
theorem c_cl (l : Launch) (Z : State) (a0 : Array Value) (hw : ∀ d ∈ tables_1, d.before a0 Z = true) (x y : Int32) (h0 : Heap) (h : x.toInt ≤ y.toInt) :
    Con l Z (⟨"java/util/Arrays", "checkLength", "(II)V"⟩ : MethodName) jdk_65_method_131_code 2 none ({ frames := 0, cells := 0, slots := 0, locals := 0 } : Room) #[(.int x), (.int y)] h0 (PQ none h0) := by
  refine Con.intro (plainFor_of_name pn_10) ?_
  intro p e s m below meth c s₁ hx hby hml hrt hlk hZ hown hnm X0 e0
  replace hown : s.vm.findClass "java/util/Arrays" = some m.cls := hown
  refine GoOn.cast (ef_c_cl m x y) ?_
  show GoOn p e below _ (s₁.setTop (mkF m 0 #[.val (.int x), .val (.int y)] []))
  refine GoOn.step (fun t₀ k₀ => XS.iloadN X0.here hx rfl (hb hby d32_0) rfl k₀) ?_
  show GoOn p e below _ (s₁.setTop (mkF m 1 #[.val (.int x), .val (.int y)] [(.int y)]))
  refine GoOn.step (fun t₀ k₀ => XS.iloadN X0.here hx rfl (hb hby d32_1) rfl k₀) ?_
  show GoOn p e below _ (s₁.setTop (mkF m 2 #[.val (.int x), .val (.int y)] [(.int x), (.int y)]))
  have hf127 : ¬ (y < x) := (ltN h)
  refine GoOn.step (fun t₀ k₀ => XS.icmpYes X0.here hx rfl (pc0 := 2) (pc' := 37) rfl (hb hby d32_2) rfl (flt hf127).2.1 (by decide) (by decide) k₀) ?_
  show GoOn p e below _ (s₁.setTop (mkF m 37 #[.val (.int x), .val (.int y)] []))
  exact GoOn.ret0 X0 hx hrt hlk (hb hby d32_37) (by decide) (by decide) (by first | exact ⟨rfl, rfl, rfl⟩ | (rw [e0]; exact ⟨rfl, rfl, rfl⟩))
theorem ef_c_crb (m : MethodId) (x0 : Addr) (x1 : Int32) (x2 : Int32) : entryFrame m #[(.ref x0), (.int x1), (.int x2)] 5 = mkF m 0 #[.val (.ref x0), .val (.int x1), .val (.int x2), .unset, .unset] [] := by first | (simp [entryFrame, mkF, argsToLocals, Value.category]; done) | rfl
set_option maxRecDepth 65536 in
set_option maxHeartbeats 40000000 in
theorem c_crb (l : Launch) (Z : State) (a0 : Array Value) (hw : ∀ d ∈ tables_1, d.before a0 Z = true) (bb : Addr) (n : Nat) (F : Nat → Int32) (h0 : Heap) (n0 : Nat) (Z0 : n0 ≤ h0.size) (Jb : Jar Z h0 bb .byte 16 (fun i => .int (F i))) (HB : ∀ j, isB (F j)) (hn : n ≤ 5) :
    Con l Z (⟨"java/util/Arrays", "copyOfRangeByte", "([BII)[B"⟩ : MethodName) jdk_65_method_133_code 5 (some (.array .byte)) ({ frames := 1, cells := 1, slots := 5, locals := 20 } : Room) #[(.ref bb), (.int (0 : Int32)), (.int n.toInt32)] h0 (NbQ Z n F h0 n0) := by
  refine Con.intro (plainFor_of_name pn_10) ?_
  intro p e s m below meth c s₁ hx hby hml hrt hlk hZ hown hnm X0 e0
  replace hown : s.vm.findClass "java/util/Arrays" = some m.cls := hown
  have N0 := Fr.nil n0
  refine GoOn.cast (ef_c_crb m bb (0 : Int32) n.toInt32) ?_
  show GoOn p e below _ (s₁.setTop (mkF m 0 #[.val (.ref bb), .val (.int (0 : Int32)), .val (.int n.toInt32), .unset, .unset] []))
  have K0 : Keep h0 h0 [] := Keep.refl _ _
  have tn := toI (n := n) (by omega)
  have nn := toN (n := n) (by omega)
  refine GoOn.step (fun t₀ k₀ => XS.iloadN X0.here hx rfl (hb hby d31_0) rfl k₀) ?_
  show GoOn p e below _ (s₁.setTop (mkF m 1 #[.val (.ref bb), .val (.int (0 : Int32)), .val (.int n.toInt32), .unset, .unset] [(.int (0 : Int32))]))
  refine GoOn.step (fun t₀ k₀ => XS.iloadN X0.here hx rfl (hb hby d31_1) rfl k₀) ?_
  show GoOn p e below _ (s₁.setTop (mkF m 2 #[.val (.ref bb), .val (.int (0 : Int32)), .val (.int n.toInt32), .unset, .unset] [(.int n.toInt32), (.int (0 : Int32))]))
  obtain ⟨_, T128, L128, X128, hQ128, st128⟩ := kCallS X0 hx hZ (argsL := [(.int (0 : Int32)), (.int n.toInt32)]) (rest := []) (c_cl l Z a0 hw (0 : Int32) n.toInt32 h0 (by rw [k0i]; omega)) hown (hw _ (List.mem_of_getElem? (i := 204) rfl)) (hw _ (List.mem_of_getElem? (i := 205) rfl)) (hw _ (List.mem_of_getElem? (i := 199) rfl)) (hw _ (List.mem_of_getElem? (i := 206) rfl)) (by decide) e0 (g := (mkF m 2 #[.val (.ref bb), .val (.int (0 : Int32)), .val (.int n.toInt32), .unset, .unset] [(.int n.toInt32), (.int (0 : Int32))])) rfl (by rw [hml]; rfl) (lenOf pd_2 rfl) rfl (W := 0) (by show 2 * 0 + _ ≤ _; exact Nat.le_of_eq rfl) (hb hby d31_2) (by decide) (by decide) (by decide) (by decide)
  obtain ⟨rfl, rfl, e128⟩ := hQ128
  rw [List.append_nil] at X128
  refine GoOn.step st128 ?_
  show GoOn p e below _ (T128.setTop (mkF m 5 #[.val (.ref bb), .val (.int (0 : Int32)), .val (.int n.toInt32), .unset, .unset] []))
  refine GoOn.step (fun t₀ k₀ => XS.iloadN X128.here hx rfl (hb hby d31_5) rfl k₀) ?_
  show GoOn p e below _ (T128.setTop (mkF m 6 #[.val (.ref bb), .val (.int (0 : Int32)), .val (.int n.toInt32), .unset, .unset] [(.int n.toInt32)]))
  refine GoOn.step (fun t₀ k₀ => XS.iloadN X128.here hx rfl (hb hby d31_6) rfl k₀) ?_
  show GoOn p e below _ (T128.setTop (mkF m 7 #[.val (.ref bb), .val (.int (0 : Int32)), .val (.int n.toInt32), .unset, .unset] [(.int (0 : Int32)), (.int n.toInt32)]))
  refine GoOn.step (fun t₀ k₀ => XS.isub X128.here hx rfl (hb hby d31_7) rfl k₀) ?_
  show GoOn p e below _ (T128.setTop (mkF m 8 #[.val (.ref bb), .val (.int (0 : Int32)), .val (.int n.toInt32), .unset, .unset] [(.int (n.toInt32 - (0 : Int32)))]))
  refine GoOn.step (fun t₀ k₀ => XS.istoreN X128.here hx rfl (hb hby d31_8) rfl (l' := #[.val (.ref bb), .val (.int (0 : Int32)), .val (.int n.toInt32), .val (.int (n.toInt32 - (0 : Int32))), .unset]) rfl k₀) ?_
  show GoOn p e below _ (T128.setTop (mkF m 9 #[.val (.ref bb), .val (.int (0 : Int32)), .val (.int n.toInt32), .val (.int (n.toInt32 - (0 : Int32))), .unset] []))
  refine GoOn.step (fun t₀ k₀ => XS.iloadN X128.here hx rfl (hb hby d31_9) rfl k₀) ?_
  show GoOn p e below _ (T128.setTop (mkF m 10 #[.val (.ref bb), .val (.int (0 : Int32)), .val (.int n.toInt32), .val (.int (n.toInt32 - (0 : Int32))), .unset] [(.int (n.toInt32 - (0 : Int32)))]))
  rw [show (n.toInt32 - (0 : Int32)) = n.toInt32 from (sub0 _)]
  obtain ⟨T129, h129, k129, X129, e129, E129, A129, st129⟩ := newP X128 hx hZ (hw _ (List.mem_of_getElem? (i := 23) rfl)) e128 (g := (mkF m 10 #[.val (.ref bb), .val (.int (0 : Int32)), .val (.int n.toInt32), .val (.int n.toInt32), .unset] [(.int n.toInt32)])) rfl (hb hby d31_10) rfl (ltN (by rw [k0i]; omega)) (cap := 5) (by omega) (by decide) (by decide) (by decide)
  obtain ⟨y, g129⟩ : ∃ z, z = h0.size := ⟨_, rfl⟩
  rw [← g129] at A129 st129
  have lt_bb_y : bb < y := by rw [g129]; exact Jb.lt
  have ne_bb_y : bb ≠ y := Nat.ne_of_lt lt_bb_y
  have le_y : n0 ≤ y := by rw [g129]; exact Z0
  have sz_y : h0.size ≤ y := by rw [g129]; exact K0.1
  replace Jb := Jb.ext E129
  replace Z0 := Nat.le_trans Z0 E129.1
  replace K0 := K0.ext E129
  have J_y : Jar Z h129 y .byte n (fun _ => defaultValue .byte) := Jar.new A129 nn
  refine GoOn.step st129 ?_
  show GoOn p e below _ (T129.setTop (mkF m 12 #[.val (.ref bb), .val (.int (0 : Int32)), .val (.int n.toInt32), .val (.int n.toInt32), .unset] [(.ref y)]))
  refine GoOn.step (fun t₀ k₀ => XS.astore X129.here hx rfl (hb hby d31_12) rfl rfl (l' := #[.val (.ref bb), .val (.int (0 : Int32)), .val (.int n.toInt32), .val (.int n.toInt32), .val (.ref y)]) rfl k₀) ?_
  show GoOn p e below _ (T129.setTop (mkF m 14 #[.val (.ref bb), .val (.int (0 : Int32)), .val (.int n.toInt32), .val (.int n.toInt32), .val (.ref y)] []))
  refine GoOn.step (fun t₀ k₀ => XS.aloadN X129.here hx rfl (hb hby d31_14) rfl rfl k₀) ?_
  show GoOn p e below _ (T129.setTop (mkF m 15 #[.val (.ref bb), .val (.int (0 : Int32)), .val (.int n.toInt32), .val (.int n.toInt32), .val (.ref y)] [(.ref bb)]))
  refine GoOn.step (fun t₀ k₀ => XS.iloadN X129.here hx rfl (hb hby d31_15) rfl k₀) ?_
  show GoOn p e below _ (T129.setTop (mkF m 16 #[.val (.ref bb), .val (.int (0 : Int32)), .val (.int n.toInt32), .val (.int n.toInt32), .val (.ref y)] [(.int (0 : Int32)), (.ref bb)]))
  refine GoOn.step (fun t₀ k₀ => XS.aload X129.here hx rfl (hb hby d31_16) rfl rfl k₀) ?_
  show GoOn p e below _ (T129.setTop (mkF m 18 #[.val (.ref bb), .val (.int (0 : Int32)), .val (.int n.toInt32), .val (.int n.toInt32), .val (.ref y)] [(.ref y), (.int (0 : Int32)), (.ref bb)]))
  refine GoOn.step (fun t₀ k₀ => XS.iconst X129.here hx rfl (hb hby d31_18) k₀) ?_
  show GoOn p e below _ (T129.setTop (mkF m 19 #[.val (.ref bb), .val (.int (0 : Int32)), .val (.int n.toInt32), .val (.int n.toInt32), .val (.ref y)] [(.int (0 : Int32)), (.ref y), (.int (0 : Int32)), (.ref bb)]))
  refine GoOn.step (fun t₀ k₀ => XS.aloadN X129.here hx rfl (hb hby d31_19) rfl rfl k₀) ?_
  show GoOn p e below _ (T129.setTop (mkF m 20 #[.val (.ref bb), .val (.int (0 : Int32)), .val (.int n.toInt32), .val (.int n.toInt32), .val (.ref y)] [(.ref bb), (.int (0 : Int32)), (.ref y), (.int (0 : Int32)), (.ref bb)]))
  refine GoOn.step (fun t₀ k₀ => kLen X129 hx hZ e129 Jb (z := (16 : Int32)) rfl (g := (mkF m 20 #[.val (.ref bb), .val (.int (0 : Int32)), .val (.int n.toInt32), .val (.int n.toInt32), .val (.ref y)] [(.ref bb), (.int (0 : Int32)), (.ref y), (.int (0 : Int32)), (.ref bb)])) rfl rfl (hb hby d31_20) t₀ k₀) ?_
  show GoOn p e below _ (T129.setTop (mkF m 21 #[.val (.ref bb), .val (.int (0 : Int32)), .val (.int n.toInt32), .val (.int n.toInt32), .val (.ref y)] [(.int (16 : Int32)), (.int (0 : Int32)), (.ref y), (.int (0 : Int32)), (.ref bb)]))
  refine GoOn.step (fun t₀ k₀ => XS.iloadN X129.here hx rfl (hb hby d31_21) rfl k₀) ?_
  show GoOn p e below _ (T129.setTop (mkF m 22 #[.val (.ref bb), .val (.int (0 : Int32)), .val (.int n.toInt32), .val (.int n.toInt32), .val (.ref y)] [(.int (0 : Int32)), (.int (16 : Int32)), (.int (0 : Int32)), (.ref y), (.int (0 : Int32)), (.ref bb)]))
  refine GoOn.step (fun t₀ k₀ => XS.isub X129.here hx rfl (hb hby d31_22) rfl k₀) ?_
  show GoOn p e below _ (T129.setTop (mkF m 23 #[.val (.ref bb), .val (.int (0 : Int32)), .val (.int n.toInt32), .val (.int n.toInt32), .val (.ref y)] [(.int ((16 : Int32) - (0 : Int32))), (.int (0 : Int32)), (.ref y), (.int (0 : Int32)), (.ref bb)]))
  refine GoOn.step (fun t₀ k₀ => XS.iloadN X129.here hx rfl (hb hby d31_23) rfl k₀) ?_
  show GoOn p e below _ (T129.setTop (mkF m 24 #[.val (.ref bb), .val (.int (0 : Int32)), .val (.int n.toInt32), .val (.int n.toInt32), .val (.ref y)] [(.int n.toInt32), (.int ((16 : Int32) - (0 : Int32))), (.int (0 : Int32)), (.ref y), (.int (0 : Int32)), (.ref bb)]))
  rw [show ((16 : Int32) - (0 : Int32)) = (16 : Int32) from (by decide)]
  obtain ⟨_, T130, L130, X130, hQ130, st130⟩ := kCallS X129 hx hZ (argsL := [(.int (16 : Int32)), (.int n.toInt32)]) (rest := [(.int (0 : Int32)), (.ref y), (.int (0 : Int32)), (.ref bb)]) (c_mn l Z a0 hw (16 : Int32) n.toInt32 h129) hown (hw _ (List.mem_of_getElem? (i := 207) rfl)) (hw _ (List.mem_of_getElem? (i := 5) rfl)) (hw _ (List.mem_of_getElem? (i := 6) rfl)) (hw _ (List.mem_of_getElem? (i := 7) rfl)) (by decide) e129 (g := (mkF m 24 #[.val (.ref bb), .val (.int (0 : Int32)), .val (.int n.toInt32), .val (.int n.toInt32), .val (.ref y)] [(.int n.toInt32), (.int (16 : Int32)), (.int (0 : Int32)), (.ref y), (.int (0 : Int32)), (.ref bb)])) rfl (by rw [hml]; rfl) (lenOf pd_12 rfl) rfl (W := 4) (by show 2 * 0 + _ ≤ _; exact Nat.le_of_eq rfl) (hb hby d31_24) (by decide) (by decide) (by decide) (by decide)
  obtain ⟨rfl, rfl, e130⟩ := hQ130
  rw [List.append_nil] at X130
  refine GoOn.step st130 ?_
  show GoOn p e below _ (T130.setTop (mkF m 27 #[.val (.ref bb), .val (.int (0 : Int32)), .val (.int n.toInt32), .val (.int n.toInt32), .val (.ref y)] [(.int (if n.toInt32 < (16 : Int32) then n.toInt32 else (16 : Int32))), (.int (0 : Int32)), (.ref y), (.int (0 : Int32)), (.ref bb)]))
  rw [show (if n.toInt32 < (16 : Int32) then n.toInt32 else (16 : Int32)) = n.toInt32 from (min16 hn)]
  obtain ⟨T131, h131, L131, X131, e131, N131, K131, J131, st131⟩ := kCopy X130 hx hZ hown (hw _ (List.mem_of_getElem? (i := 208) rfl)) (hw _ (List.mem_of_getElem? (i := 159) rfl)) (hw _ (List.mem_of_getElem? (i := 157) rfl)) (hw _ (List.mem_of_getElem? (i := 158) rfl)) e130 Jb J_y (fun i _ => fitsB (HB i)) (fun i _ => rfl) (by decide) (by omega) (sp := (0 : Int32)) (nn := n.toInt32) (by decide) tn (by rw [nc0]; omega) N0 le_y (g := (mkF m 27 #[.val (.ref bb), .val (.int (0 : Int32)), .val (.int n.toInt32), .val (.int n.toInt32), .val (.ref y)] [(.int n.toInt32), (.int (0 : Int32)), (.ref y), (.int (0 : Int32)), (.ref bb)])) rfl (by rw [hml]; rfl) rfl (hb hby d31_27) (by decide) (W := 0) (by show 2 * 0 + _ ≤ _; exact Nat.le_of_eq rfl) (by decide)
  replace N0 := N131
  replace K0 := K0.trans K131 (allS (Or.inr sz_y) all0)
  replace Jb := Jb.keep K131 (ninS ne_bb_y nin0)
  clear J_y
  replace Z0 := Nat.le_trans Z0 K131.1
  have J_y := J131
  refine GoOn.step st131 ?_
  show GoOn p e below _ (T131.setTop (mkF m 30 #[.val (.ref bb), .val (.int (0 : Int32)), .val (.int n.toInt32), .val (.int n.toInt32), .val (.ref y)] []))
  refine GoOn.step (fun t₀ k₀ => XS.aload X131.here hx rfl (hb hby d31_30) rfl rfl k₀) ?_
  show GoOn p e below _ (T131.setTop (mkF m 32 #[.val (.ref bb), .val (.int (0 : Int32)), .val (.int n.toInt32), .val (.int n.toInt32), .val (.ref y)] [(.ref y)]))
  exact GoOn.retR X131 hx hrt rfl hlk rfl (hb hby d31_32) (by decide) (by decide) (by first | exact ⟨y, rfl, N0, K0, sz_y, J_y.congr fun i hi => by rw [nc0, Nat.zero_add]⟩ | (rw [e131]; exact ⟨y, rfl, N0, K0, sz_y, J_y.congr fun i hi => by rw [nc0, Nat.zero_add]⟩))
theorem ef_c_cor (m : MethodId) (x0 : Addr) (x1 : Int32) (x2 : Int32) : entryFrame m #[(.ref x0), (.int x1), (.int x2)] 3 = mkF m 0 #[.val (.ref x0), .val (.int x1), .val (.int x2)] [] := by first | (simp [entryFrame, mkF, argsToLocals, Value.category]; done) | rfl
set_option maxRecDepth 65536 in
set_option maxHeartbeats 40000000 in
theorem c_cor (l : Launch) (Z : State) (a0 : Array Value) (hw : ∀ d ∈ tables_1, d.before a0 Z = true) (bb : Addr) (n : Nat) (F : Nat → Int32) (h0 : Heap) (n0 : Nat) (Z0 : n0 ≤ h0.size) (Jb : Jar Z h0 bb .byte 16 (fun i => .int (F i))) (HB : ∀ j, isB (F j)) (hn : n ≤ 5) :
    Con l Z (⟨"java/util/Arrays", "copyOfRange", "([BII)[B"⟩ : MethodName) jdk_65_method_132_code 3 (some (.array .byte)) ({ frames := 2, cells := 1, slots := 5, locals := 36 } : Room) #[(.ref bb), (.int (0 : Int32)), (.int n.toInt32)] h0 (NbQ Z n F h0 n0) := by
  refine Con.intro (plainFor_of_name pn_10) ?_
  intro p e s m below meth c s₁ hx hby hml hrt hlk hZ hown hnm X0 e0
  replace hown : s.vm.findClass "java/util/Arrays" = some m.cls := hown
  have N0 := Fr.nil n0
  refine GoOn.cast (ef_c_cor m bb (0 : Int32) n.toInt32) ?_
  show GoOn p e below _ (s₁.setTop (mkF m 0 #[.val (.ref bb), .val (.int (0 : Int32)), .val (.int n.toInt32)] []))
  refine GoOn.step (fun t₀ k₀ => XS.iloadN X0.here hx rfl (hb hby d30_0) rfl k₀) ?_
  show GoOn p e below _ (s₁.setTop (mkF m 1 #[.val (.ref bb), .val (.int (0 : Int32)), .val (.int n.toInt32)] [(.int (0 : Int32))]))
  have hf132 : (0 : Int32) = (0 : Int32) := rfl
  refine GoOn.step (fun t₀ k₀ => XS.ifNo X0.here hx rfl (hb hby d30_1) rfl ((if0 _ _).trans (teq hf132).2) k₀) ?_
  show GoOn p e below _ (s₁.setTop (mkF m 4 #[.val (.ref bb), .val (.int (0 : Int32)), .val (.int n.toInt32)] []))
  refine GoOn.step (fun t₀ k₀ => XS.iloadN X0.here hx rfl (hb hby d30_4) rfl k₀) ?_
  show GoOn p e below _ (s₁.setTop (mkF m 5 #[.val (.ref bb), .val (.int (0 : Int32)), .val (.int n.toInt32)] [(.int n.toInt32)]))
  refine GoOn.step (fun t₀ k₀ => XS.aloadN X0.here hx rfl (hb hby d30_5) rfl rfl k₀) ?_
  show GoOn p e below _ (s₁.setTop (mkF m 6 #[.val (.ref bb), .val (.int (0 : Int32)), .val (.int n.toInt32)] [(.ref bb), (.int n.toInt32)]))
  refine GoOn.step (fun t₀ k₀ => kLen X0 hx hZ e0 Jb (z := (16 : Int32)) rfl (g := (mkF m 6 #[.val (.ref bb), .val (.int (0 : Int32)), .val (.int n.toInt32)] [(.ref bb), (.int n.toInt32)])) rfl rfl (hb hby d30_6) t₀ k₀) ?_
  show GoOn p e below _ (s₁.setTop (mkF m 7 #[.val (.ref bb), .val (.int (0 : Int32)), .val (.int n.toInt32)] [(.int (16 : Int32)), (.int n.toInt32)]))
  have hf133 : ¬ (n.toInt32 = (16 : Int32)) := (fun q => by have := toI (n := n) (by omega); rw [q, k16i] at this; omega)
  refine GoOn.step (fun t₀ k₀ => XS.icmpNo X0.here hx rfl (hb hby d30_7) rfl (feq hf133).1 k₀) ?_
  show GoOn p e below _ (s₁.setTop (mkF m 10 #[.val (.ref bb), .val (.int (0 : Int32)), .val (.int n.toInt32)] []))
  refine GoOn.step (fun t₀ k₀ => XS.aloadN X0.here hx rfl (hb hby d30_10) rfl rfl k₀) ?_
  show GoOn p e below _ (s₁.setTop (mkF m 11 #[.val (.ref bb), .val (.int (0 : Int32)), .val (.int n.toInt32)] [(.ref bb)]))
  refine GoOn.step (fun t₀ k₀ => XS.iloadN X0.here hx rfl (hb hby d30_11) rfl k₀) ?_
  show GoOn p e below _ (s₁.setTop (mkF m 12 #[.val (.ref bb), .val (.int (0 : Int32)), .val (.int n.toInt32)] [(.int (0 : Int32)), (.ref bb)]))
  refine GoOn.step (fun t₀ k₀ => XS.iloadN X0.here hx rfl (hb hby d30_12) rfl k₀) ?_
  show GoOn p e below _ (s₁.setTop (mkF m 13 #[.val (.ref bb), .val (.int (0 : Int32)), .val (.int n.toInt32)] [(.int n.toInt32), (.int (0 : Int32)), (.ref bb)]))
  obtain ⟨_, T134, L134, X134, hQ134, st134⟩ := kCallS X0 hx hZ (argsL := [(.ref bb), (.int (0 : Int32)), (.int n.toInt32)]) (rest := []) (c_crb l Z a0 hw bb n F h0 n0 Z0 Jb HB hn) hown (hw _ (List.mem_of_getElem? (i := 201) rfl)) (hw _ (List.mem_of_getElem? (i := 202) rfl)) (hw _ (List.mem_of_getElem? (i := 199) rfl)) (hw _ (List.mem_of_getElem? (i := 203) rfl)) (by decide) e0 (g := (mkF m 13 #[.val (.ref bb), .val (.int (0 : Int32)), .val (.int n.toInt32)] [(.int n.toInt32), (.int (0 : Int32)), (.ref bb)])) rfl (by rw [hml]; rfl) (lenOf pd_21 rfl) rfl (W := 0) (by show 2 * 0 + _ ≤ _; exact Nat.le_of_eq rfl) (hb hby d30_13) (by decide) (by decide) (by decide) (by decide)
  obtain ⟨y, rfl, N134, K134, sy, Jy⟩ := hQ134
  replace N0 := Fr.app N0 N134
  have K0 := K134
  refine GoOn.step st134 ?_
  show GoOn p e below _ (T134.setTop (mkF m 16 #[.val (.ref bb), .val (.int (0 : Int32)), .val (.int n.toInt32)] [(.ref y)]))
  exact GoOn.retR X134 hx hrt rfl hlk rfl (hb hby d30_16) (by decide) (by decide) ⟨y, rfl, N0, K0, sy, Jy⟩
theorem ef_c_s5 (m : MethodId) (x0 : Addr) (x1 : Addr) : entryFrame m #[(.ref x0), (.ref x1), .null] 5 = mkF m 0 #[.val (.ref x0), .val (.ref x1), .val .null, .unset, .unset] [] := by first | (simp [entryFrame, mkF, argsToLocals, Value.category]; done) | rfl
set_option maxRecDepth 65536 in
set_option maxHeartbeats 40000000 in
theorem c_s5 (l : Launch) (Z : State) (a0 : Array Value) (hw : ∀ d ∈ tables_1, d.before a0 Z = true) (a sb bb : Addr) (n : Nat) (F : Nat → Int32) (cs : Int32) (fv : Value) (h0 : Heap) (n0 : Nat) (Z0 : n0 ≤ h0.size) (O : Old Z n0 h0) (SS : Stt Z cs fv) (Ex : Exa Z h0 a "java/lang/String") (Fv : Fld Z h0 a "java/lang/String" "value" "[B" .null) (Fc : Fld Z h0 a "java/lang/String" "coder" "B" (.int (0 : Int32))) (ga : n0 ≤ a) (Es : Exa Z h0 sb "java/lang/StringBuilder") (Bv : Fld Z h0 sb "java/lang/AbstractStringBuilder" "value" "[B" (.ref bb)) (Bc : Fld Z h0 sb "java/lang/AbstractStringBuilder" "coder" "B" (.int (0 : Int32))) (Bn : Fld Z h0 sb "java/lang/AbstractStringBuilder" "count" "I" (.int n.toInt32)) (Jb : Jar Z h0 bb .byte 16 (fun i => .int (F i))) (HB : ∀ j, isB (F j)) (hn : n ≤ 5) (nab : a ≠ bb) :
    Con l Z (⟨"java/lang/String", "<init>", "(Ljava/lang/AbstractStringBuilder;Ljava/lang/Void;)V"⟩ : MethodName) jdk_42_method_150_code 5 none ({ frames := 3, cells := 1, slots := 5, locals := 52 } : Room) #[(.ref a), (.ref sb), .null] h0 (SyQ Z a n F h0 n0) := by
  refine Con.intro (plainFor_of_name pn_0) ?_
  intro p e s m below meth c s₁ hx hby hml hrt hlk hZ hown hnm X0 e0
  replace hown : s.vm.findClass "java/lang/String" = some m.cls := hown
  have N0 := Fr.nil n0
  refine GoOn.cast (ef_c_s5 m a sb) ?_
  show GoOn p e below _ (s₁.setTop (mkF m 0 #[.val (.ref a), .val (.ref sb), .val .null, .unset, .unset] []))
  have K0 : Keep h0 h0 [a] := Keep.refl _ _
  refine GoOn.step (fun t₀ k₀ => XS.aloadN X0.here hx rfl (hb hby d25_0) rfl rfl k₀) ?_
  show GoOn p e below _ (s₁.setTop (mkF m 1 #[.val (.ref a), .val (.ref sb), .val .null, .unset, .unset] [(.ref a)]))
  obtain ⟨T135, X135, e135, st135⟩ := initO X0 hx hZ hown (hw _ (List.mem_of_getElem? (i := 19) rfl)) (hw _ (List.mem_of_getElem? (i := 20) rfl)) (hw _ (List.mem_of_getElem? (i := 21) rfl)) e0 (g := (mkF m 1 #[.val (.ref a), .val (.ref sb), .val .null, .unset, .unset] [(.ref a)])) rfl (by rw [hml]; rfl) rfl (hb hby d25_1) (by decide) (W := 0) (by show 2 * 0 + _ ≤ _; exact Nat.le_of_eq rfl) (by decide)
  refine GoOn.step st135 ?_
  show GoOn p e below _ (T135.setTop (mkF m 4 #[.val (.ref a), .val (.ref sb), .val .null, .unset, .unset] []))
  refine GoOn.step (fun t₀ k₀ => XS.aloadN X135.here hx rfl (hb hby d25_4) rfl rfl k₀) ?_
  show GoOn p e below _ (T135.setTop (mkF m 5 #[.val (.ref a), .val (.ref sb), .val .null, .unset, .unset] [(.ref sb)]))
  obtain ⟨_, T136, L136, X136, hQ136, st136⟩ := kCallV X135 hx hZ (a := sb) (argsL := []) (rest := []) (c_gv l Z a0 hw sb bb h0 Bv) hown (hw _ (List.mem_of_getElem? (i := 179) rfl)) (hw _ (List.mem_of_getElem? (i := 180) rfl)) (notFace_of_selects (args := #[]) (mvT hZ (hw _ (List.mem_of_getElem? (i := 182) rfl)))) (hw _ (List.mem_of_getElem? (i := 182) rfl)) (hw _ (List.mem_of_getElem? (i := 181) rfl)) (hw _ (List.mem_of_getElem? (i := 104) rfl)) (hw _ (List.mem_of_getElem? (i := 183) rfl)) (by decide) e135 Es (g := (mkF m 5 #[.val (.ref a), .val (.ref sb), .val .null, .unset, .unset] [(.ref sb)])) rfl (by rw [hml]; rfl) (lenOf pd_22 rfl) rfl (W := 0) (by show 2 * 0 + _ ≤ _; exact Nat.le_of_eq rfl) (hb hby d25_5) (by decide) (by decide) (by decide) (by decide)
  obtain ⟨rfl, rfl, e136⟩ := hQ136
  rw [List.append_nil] at X136
  refine GoOn.step st136 ?_
  show GoOn p e below _ (T136.setTop (mkF m 8 #[.val (.ref a), .val (.ref sb), .val .null, .unset, .unset] [(.ref bb)]))
  refine GoOn.step (fun t₀ k₀ => XS.astoreN X136.here hx rfl (hb hby d25_8) rfl rfl (l' := #[.val (.ref a), .val (.ref sb), .val .null, .val (.ref bb), .unset]) rfl k₀) ?_
  show GoOn p e below _ (T136.setTop (mkF m 9 #[.val (.ref a), .val (.ref sb), .val .null, .val (.ref bb), .unset] []))
  refine GoOn.step (fun t₀ k₀ => XS.aloadN X136.here hx rfl (hb hby d25_9) rfl rfl k₀) ?_
  show GoOn p e below _ (T136.setTop (mkF m 10 #[.val (.ref a), .val (.ref sb), .val .null, .val (.ref bb), .unset] [(.ref sb)]))
  obtain ⟨_, T137, L137, X137, hQ137, st137⟩ := kCallV X136 hx hZ (a := sb) (argsL := []) (rest := []) (c_sl l Z a0 hw sb n h0 Es Bn) hown (hw _ (List.mem_of_getElem? (i := 184) rfl)) (hw _ (List.mem_of_getElem? (i := 185) rfl)) (nfAs (y2 := (⟨"java/lang/AbstractStringBuilder", "ensureCapacityInternal", "(I)V"⟩ : MethodName)) (notFace_of_selects (args := #[]) (mvT hZ (hw _ (List.mem_of_getElem? (i := 138) rfl)))) rfl (mvT (args := #[]) hZ (hw _ (List.mem_of_getElem? (i := 136) rfl)))) (hw _ (List.mem_of_getElem? (i := 187) rfl)) (hw _ (List.mem_of_getElem? (i := 188) rfl)) (hw _ (List.mem_of_getElem? (i := 96) rfl)) (hw _ (List.mem_of_getElem? (i := 189) rfl)) (by decide) e136 Es (g := (mkF m 10 #[.val (.ref a), .val (.ref sb), .val .null, .val (.ref bb), .unset] [(.ref sb)])) rfl (by rw [hml]; rfl) (lenOf pd_18 rfl) rfl (W := 0) (by show 2 * 0 + _ ≤ _; exact Nat.le_of_eq rfl) (hb hby d25_10) (by decide) (by decide) (by decide) (by decide)
  obtain ⟨rfl, rfl, e137⟩ := hQ137
  rw [List.append_nil] at X137
  refine GoOn.step st137 ?_
  show GoOn p e below _ (T137.setTop (mkF m 13 #[.val (.ref a), .val (.ref sb), .val .null, .val (.ref bb), .unset] [(.int n.toInt32)]))
  refine GoOn.step (fun t₀ k₀ => XS.istore X137.here hx rfl (hb hby d25_13) rfl (l' := #[.val (.ref a), .val (.ref sb), .val .null, .val (.ref bb), .val (.int n.toInt32)]) rfl k₀) ?_
  show GoOn p e below _ (T137.setTop (mkF m 15 #[.val (.ref a), .val (.ref sb), .val .null, .val (.ref bb), .val (.int n.toInt32)] []))
  refine GoOn.step (fun t₀ k₀ => XS.aloadN X137.here hx rfl (hb hby d25_15) rfl rfl k₀) ?_
  show GoOn p e below _ (T137.setTop (mkF m 16 #[.val (.ref a), .val (.ref sb), .val .null, .val (.ref bb), .val (.int n.toInt32)] [(.ref sb)]))
  obtain ⟨_, T138, L138, X138, hQ138, st138⟩ := kCallV X137 hx hZ (a := sb) (argsL := []) (rest := []) (c_il l Z a0 hw sb cs fv h0 n0 O SS Bc) hown (hw _ (List.mem_of_getElem? (i := 192) rfl)) (hw _ (List.mem_of_getElem? (i := 193) rfl)) (notFace_of_selects (args := #[]) (mvT hZ (hw _ (List.mem_of_getElem? (i := 195) rfl)))) (hw _ (List.mem_of_getElem? (i := 195) rfl)) (hw _ (List.mem_of_getElem? (i := 194) rfl)) (hw _ (List.mem_of_getElem? (i := 104) rfl)) (hw _ (List.mem_of_getElem? (i := 196) rfl)) (by decide) e137 Es (g := (mkF m 16 #[.val (.ref a), .val (.ref sb), .val .null, .val (.ref bb), .val (.int n.toInt32)] [(.ref sb)])) rfl (by rw [hml]; rfl) (lenOf pd_3 rfl) rfl (W := 0) (by show 2 * 0 + _ ≤ _; exact Nat.le_of_eq rfl) (hb hby d25_16) (by decide) (by decide) (by decide) (by decide)
  obtain ⟨rfl, rfl, e138⟩ := hQ138
  rw [List.append_nil] at X138
  refine GoOn.step st138 ?_
  show GoOn p e below _ (T138.setTop (mkF m 19 #[.val (.ref a), .val (.ref sb), .val .null, .val (.ref bb), .val (.int n.toInt32)] [(.int (1 : Int32))]))
  have hf139 : ¬ ((1 : Int32) = (0 : Int32)) := (by decide)
  refine GoOn.step (fun t₀ k₀ => XS.ifNo X138.here hx rfl (hb hby d25_19) rfl ((if0 _ _).trans (feq hf139).1) k₀) ?_
  show GoOn p e below _ (T138.setTop (mkF m 22 #[.val (.ref a), .val (.ref sb), .val .null, .val (.ref bb), .val (.int n.toInt32)] []))
  refine GoOn.step (fun t₀ k₀ => XS.aloadN X138.here hx rfl (hb hby d25_22) rfl rfl k₀) ?_
  show GoOn p e below _ (T138.setTop (mkF m 23 #[.val (.ref a), .val (.ref sb), .val .null, .val (.ref bb), .val (.int n.toInt32)] [(.ref a)]))
  refine GoOn.step (fun t₀ k₀ => XS.iconst X138.here hx rfl (hb hby d25_23) k₀) ?_
  show GoOn p e below _ (T138.setTop (mkF m 24 #[.val (.ref a), .val (.ref sb), .val .null, .val (.ref bb), .val (.int n.toInt32)] [(.int (0 : Int32)), (.ref a)]))
  obtain ⟨T140, h140, X140, e140, W140, st140⟩ := putFN X138 hx hZ hown (hw _ (List.mem_of_getElem? (i := 29) rfl)) Via.refl e138 Fc Ex (Or.inr ⟨(hw _ (List.mem_of_getElem? (i := 25) rfl)), rfl, hnm⟩) (hw _ (List.mem_of_getElem? (i := 9) rfl)) (ty := .byte) (v' := .int (nar .byte (0 : Int32))) (by decide) rfl (fits_nar_byte _) (g := (mkF m 24 #[.val (.ref a), .val (.ref sb), .val .null, .val (.ref bb), .val (.int n.toInt32)] [(.int (0 : Int32)), (.ref a)])) rfl rfl (hb hby d25_24)
  replace N0 := Fr.snoc X140 N0 ga
  replace Ex := Ex.wr W140
  replace Fv := Fv.other W140 (Or.inr (slot_ne (Or.inr (hw _ (List.mem_of_getElem? (i := 24) rfl))) (Or.inr (hw _ (List.mem_of_getElem? (i := 25) rfl))) (by decide) (t := (.array .byte)) (t' := .byte) (by decide) (by decide)))
  replace Fc := Fld.same W140 Fc
  replace Jb := Jb.other W140 (Ne.symm nab)
  replace Z0 := Nat.le_trans Z0 (Nat.le_of_eq W140.size.symm)
  replace K0 := K0.wr W140 (Or.inl (by simp))
  refine GoOn.step st140 ?_
  show GoOn p e below _ (T140.setTop (mkF m 27 #[.val (.ref a), .val (.ref sb), .val .null, .val (.ref bb), .val (.int n.toInt32)] []))
  refine GoOn.step (fun t₀ k₀ => XS.aloadN X140.here hx rfl (hb hby d25_27) rfl rfl k₀) ?_
  show GoOn p e below _ (T140.setTop (mkF m 28 #[.val (.ref a), .val (.ref sb), .val .null, .val (.ref bb), .val (.int n.toInt32)] [(.ref a)]))
  refine GoOn.step (fun t₀ k₀ => XS.aloadN X140.here hx rfl (hb hby d25_28) rfl rfl k₀) ?_
  show GoOn p e below _ (T140.setTop (mkF m 29 #[.val (.ref a), .val (.ref sb), .val .null, .val (.ref bb), .val (.int n.toInt32)] [(.ref bb), (.ref a)]))
  refine GoOn.step (fun t₀ k₀ => XS.iconst X140.here hx rfl (hb hby d25_29) k₀) ?_
  show GoOn p e below _ (T140.setTop (mkF m 30 #[.val (.ref a), .val (.ref sb), .val .null, .val (.ref bb), .val (.int n.toInt32)] [(.int (0 : Int32)), (.ref bb), (.ref a)]))
  refine GoOn.step (fun t₀ k₀ => XS.iload X140.here hx rfl (hb hby d25_30) rfl k₀) ?_
  show GoOn p e below _ (T140.setTop (mkF m 32 #[.val (.ref a), .val (.ref sb), .val .null, .val (.ref bb), .val (.int n.toInt32)] [(.int n.toInt32), (.int (0 : Int32)), (.ref bb), (.ref a)]))
  obtain ⟨_, T141, L141, X141, hQ141, st141⟩ := kCallS X140 hx hZ (argsL := [(.ref bb), (.int (0 : Int32)), (.int n.toInt32)]) (rest := [(.ref a)]) (c_cor l Z a0 hw bb n F h140 n0 Z0 Jb HB hn) hown (hw _ (List.mem_of_getElem? (i := 197) rfl)) (hw _ (List.mem_of_getElem? (i := 198) rfl)) (hw _ (List.mem_of_getElem? (i := 199) rfl)) (hw _ (List.mem_of_getElem? (i := 200) rfl)) (by decide) e140 (g := (mkF m 32 #[.val (.ref a), .val (.ref sb), .val .null, .val (.ref bb), .val (.int n.toInt32)] [(.int n.toInt32), (.int (0 : Int32)), (.ref bb), (.ref a)])) rfl (by rw [hml]; rfl) (lenOf pd_21 rfl) rfl (W := 1) (by show 2 * 0 + _ ≤ _; exact Nat.le_of_eq rfl) (hb hby d25_32) (by decide) (by decide) (by decide) (by decide)
  obtain ⟨y, rfl, N141, K141, sy, Jy⟩ := hQ141
  replace N0 := Fr.app N0 N141
  have nay : a ≠ y := Nat.ne_of_lt (Nat.lt_of_lt_of_le Ex.lt sy)
  have sy0 := Nat.le_trans K0.1 sy
  replace K0 := K0.trans K141 all0
  replace Ex := Ex.keep K141
  replace Fv := Fv.keep K141 nin0
  replace Fc := Fc.keep K141 nin0
  replace Z0 := Nat.le_trans Z0 K141.1
  refine GoOn.step st141 ?_
  show GoOn p e below _ (T141.setTop (mkF m 35 #[.val (.ref a), .val (.ref sb), .val .null, .val (.ref bb), .val (.int n.toInt32)] [(.ref y), (.ref a)]))
  obtain ⟨T142, h142, X142, e142, W142, st142⟩ := putF X141 hx hZ hown (host := "") (Or.inl (hw _ (List.mem_of_getElem? (i := 28) rfl))) Via.refl rfl Fv Ex (Or.inr ⟨(hw _ (List.mem_of_getElem? (i := 24) rfl)), rfl, hnm⟩) (hw _ (List.mem_of_getElem? (i := 9) rfl)) (ty := (.array .byte)) (by decide) rfl rfl (g := (mkF m 35 #[.val (.ref a), .val (.ref sb), .val .null, .val (.ref bb), .val (.int n.toInt32)] [(.ref y), (.ref a)])) rfl rfl (hb hby d25_35)
  replace N0 := Fr.snoc X142 N0 ga
  replace Ex := Ex.wr W142
  replace Fv := Fld.same W142 Fv
  replace Fc := Fc.other W142 (Or.inr (slot_ne (Or.inr (hw _ (List.mem_of_getElem? (i := 25) rfl))) (Or.inr (hw _ (List.mem_of_getElem? (i := 24) rfl))) (by decide) (t := .byte) (t' := (.array .byte)) (by decide) (by decide)))
  replace Jy := Jy.other W142 (Ne.symm nay)
  replace Z0 := Nat.le_trans Z0 (Nat.le_of_eq W142.size.symm)
  replace K0 := K0.wr W142 (Or.inl (by simp))
  refine GoOn.step st142 ?_
  show GoOn p e below _ (T142.setTop (mkF m 38 #[.val (.ref a), .val (.ref sb), .val .null, .val (.ref bb), .val (.int n.toInt32)] []))
  refine GoOn.step (fun t₀ k₀ => XS.goto X142.here hx rfl (pc0 := 38) (pc' := 97) rfl (hb hby d25_38) (by decide) (by decide) k₀) ?_
  show GoOn p e below _ (T142.setTop (mkF m 97 #[.val (.ref a), .val (.ref sb), .val .null, .val (.ref bb), .val (.int n.toInt32)] []))
  exact GoOn.ret0 X142 hx hrt hlk (hb hby d25_97) (by decide) (by decide) (by first | exact ⟨rfl, N0, K0, y, sy0, Ex, Fv, Fc, Jy⟩ | (rw [e142]; exact ⟨rfl, N0, K0, y, sy0, Ex, Fv, Fc, Jy⟩))
theorem ef_c_s6 (m : MethodId) (x0 : Addr) (x1 : Addr) : entryFrame m #[(.ref x0), (.ref x1)] 2 = mkF m 0 #[.val (.ref x0), .val (.ref x1)] [] := by first | (simp [entryFrame, mkF, argsToLocals, Value.category]; done) | rfl
set_option maxRecDepth 65536 in
set_option maxHeartbeats 40000000 in
theorem c_s6 (l : Launch) (Z : State) (a0 : Array Value) (hw : ∀ d ∈ tables_1, d.before a0 Z = true) (a sb bb : Addr) (n : Nat) (F : Nat → Int32) (cs : Int32) (fv : Value) (h0 : Heap) (n0 : Nat) (Z0 : n0 ≤ h0.size) (O : Old Z n0 h0) (SS : Stt Z cs fv) (Ex : Exa Z h0 a "java/lang/String") (Fv : Fld Z h0 a "java/lang/String" "value" "[B" .null) (Fc : Fld Z h0 a "java/lang/String" "coder" "B" (.int (0 : Int32))) (ga : n0 ≤ a) (Es : Exa Z h0 sb "java/lang/StringBuilder") (Bv : Fld Z h0 sb "java/lang/AbstractStringBuilder" "value" "[B" (.ref bb)) (Bc : Fld Z h0 sb "java/lang/AbstractStringBuilder" "coder" "B" (.int (0 : Int32))) (Bn : Fld Z h0 sb "java/lang/AbstractStringBuilder" "count" "I" (.int n.toInt32)) (Jb : Jar Z h0 bb .byte 16 (fun i => .int (F i))) (HB : ∀ j, isB (F j)) (hn : n ≤ 5) (nab : a ≠ bb) :
    Con l Z (⟨"java/lang/String", "<init>", "(Ljava/lang/StringBuilder;)V"⟩ : MethodName) jdk_42_method_53_code 2 none ({ frames := 4, cells := 1, slots := 5, locals := 68 } : Room) #[(.ref a), (.ref sb)] h0 (SyQ Z a n F h0 n0) := by
  refine Con.intro (plainFor_of_name pn_0) ?_
  intro p e s m below meth c s₁ hx hby hml hrt hlk hZ hown hnm X0 e0
  replace hown : s.vm.findClass "java/lang/String" = some m.cls := hown
  have N0 := Fr.nil n0
  refine GoOn.cast (ef_c_s6 m a sb) ?_
  show GoOn p e below _ (s₁.setTop (mkF m 0 #[.val (.ref a), .val (.ref sb)] []))
  refine GoOn.step (fun t₀ k₀ => XS.aloadN X0.here hx rfl (hb hby d24_0) rfl rfl k₀) ?_
  show GoOn p e below _ (s₁.setTop (mkF m 1 #[.val (.ref a), .val (.ref sb)] [(.ref a)]))
  refine GoOn.step (fun t₀ k₀ => XS.aloadN X0.here hx rfl (hb hby d24_1) rfl rfl k₀) ?_
  show GoOn p e below _ (s₁.setTop (mkF m 2 #[.val (.ref a), .val (.ref sb)] [(.ref sb), (.ref a)]))
  refine GoOn.step (fun t₀ k₀ => XS.aconstNull X0.here hx rfl (hb hby d24_2) k₀) ?_
  show GoOn p e below _ (s₁.setTop (mkF m 3 #[.val (.ref a), .val (.ref sb)] [.null, (.ref sb), (.ref a)]))
  obtain ⟨_, T143, L143, X143, hQ143, st143⟩ := kCallI X0 hx hZ (a := a) (argsL := [(.ref sb), .null]) (rest := []) (c_s5 l Z a0 hw a sb bb n F cs fv h0 n0 Z0 O SS Ex Fv Fc ga Es Bv Bc Bn Jb HB hn nab) rfl hown (hw _ (List.mem_of_getElem? (i := 176) rfl)) (hw _ (List.mem_of_getElem? (i := 177) rfl)) (hw _ (List.mem_of_getElem? (i := 10) rfl)) (hw _ (List.mem_of_getElem? (i := 178) rfl)) (by decide) e0 (g := (mkF m 3 #[.val (.ref a), .val (.ref sb)] [.null, (.ref sb), (.ref a)])) rfl (by rw [hml]; rfl) (lenOf pd_23 rfl) rfl (W := 0) (by show 2 * 0 + _ ≤ _; exact Nat.le_of_eq rfl) (hb hby d24_3) (by decide) (by decide) (by decide) (by decide)
  obtain ⟨rfl, N143, K143, HQ⟩ := hQ143
  replace N0 := Fr.app N0 N143
  have K0 := K143
  refine GoOn.step st143 ?_
  show GoOn p e below _ (T143.setTop (mkF m 6 #[.val (.ref a), .val (.ref sb)] []))
  exact GoOn.ret0 X143 hx hrt hlk (hb hby d24_6) (by decide) (by decide) ⟨rfl, N0, K0, HQ⟩
theorem ef_c_ts (m : MethodId) (x0 : Addr) : entryFrame m #[(.ref x0)] 1 = mkF m 0 #[.val (.ref x0)] [] := by first | (simp [entryFrame, mkF, argsToLocals, Value.category]; done) | rfl
set_option maxRecDepth 65536 in
set_option maxHeartbeats 40000000 in
theorem c_ts (l : Launch) (Z : State) (a0 : Array Value) (hw : ∀ d ∈ tables_1, d.before a0 Z = true) (sb bb : Addr) (n : Nat) (F : Nat → Int32) (cs : Int32) (fv : Value) (h0 : Heap) (n0 : Nat) (Z0 : n0 ≤ h0.size) (O : Old Z n0 h0) (SS : Stt Z cs fv) (Es : Exa Z h0 sb "java/lang/StringBuilder") (Bv : Fld Z h0 sb "java/lang/AbstractStringBuilder" "value" "[B" (.ref bb)) (Bc : Fld Z h0 sb "java/lang/AbstractStringBuilder" "coder" "B" (.int (0 : Int32))) (Bn : Fld Z h0 sb "java/lang/AbstractStringBuilder" "count" "I" (.int n.toInt32)) (Jb : Jar Z h0 bb .byte 16 (fun i => .int (F i))) (HB : ∀ j, isB (F j)) (hn : n ≤ 5) :
    Con l Z (⟨"java/lang/StringBuilder", "toString", "()Ljava/lang/String;"⟩ : MethodName) jdk_67_method_42_code 1 (some (.object "java/lang/String")) ({ frames := 5, cells := 2, slots := 9, locals := 82 } : Room) #[(.ref sb)] h0 (TsQ Z n F h0 n0) := by
  refine Con.intro (plainFor_of_name pn_9) ?_
  intro p e s m below meth c s₁ hx hby hml hrt hlk hZ hown hnm X0 e0
  replace hown : s.vm.findClass "java/lang/StringBuilder" = some m.cls := hown
  have N0 := Fr.nil n0
  refine GoOn.cast (ef_c_ts m sb) ?_
  show GoOn p e below _ (s₁.setTop (mkF m 0 #[.val (.ref sb)] []))
  have K0 : Keep h0 h0 [] := Keep.refl _ _
  obtain ⟨T144, h144, X144, e144, E144, A144, D144, -, st144⟩ := newO X0 hx hZ hown (hw _ (List.mem_of_getElem? (i := 172) rfl)) (hw _ (List.mem_of_getElem? (i := 9) rfl)) (hw _ (List.mem_of_getElem? (i := 10) rfl)) e0 (g := (mkF m 0 #[.val (.ref sb)] [])) rfl (hb hby d23_0) (by decide) (by decide)
  obtain ⟨so, g144⟩ : ∃ z, z = h0.size := ⟨_, rfl⟩
  rw [← g144] at A144 D144 st144
  have lt_sb_so : sb < so := by rw [g144]; exact Es.lt
  have ne_sb_so : sb ≠ so := Nat.ne_of_lt lt_sb_so
  have lt_bb_so : bb < so := by rw [g144]; exact Jb.lt
  have ne_bb_so : bb ≠ so := Nat.ne_of_lt lt_bb_so
  have le_so : n0 ≤ so := by rw [g144]; exact Z0
  have sz_so : h0.size ≤ so := by rw [g144]; exact K0.1
  replace Es := Es.ext E144
  replace Bv := Bv.ext E144
  replace Bc := Bc.ext E144
  replace Bn := Bn.ext E144
  replace Jb := Jb.ext E144
  replace O := O.ext E144
  replace Z0 := Nat.le_trans Z0 E144.1
  replace K0 := K0.ext E144
  have Ex_so : Exa Z h144 so "java/lang/String" := A144
  have F_value_so : Fld Z h144 so "java/lang/String" "value" "[B" .null := D144 (Or.inr (hw _ (List.mem_of_getElem? (i := 24) rfl))) (ty := (.array .byte)) (by decide)
  have F_coder_so : Fld Z h144 so "java/lang/String" "coder" "B" (.int (0 : Int32)) := D144 (Or.inr (hw _ (List.mem_of_getElem? (i := 25) rfl))) (ty := .byte) (by decide)
  refine GoOn.step st144 ?_
  show GoOn p e below _ (T144.setTop (mkF m 3 #[.val (.ref sb)] [(.ref so)]))
  refine GoOn.step (fun t₀ k₀ => XS.dup X144.here hx rfl (hb hby d23_3) rfl rfl k₀) ?_
  show GoOn p e below _ (T144.setTop (mkF m 4 #[.val (.ref sb)] [(.ref so), (.ref so)]))
  refine GoOn.step (fun t₀ k₀ => XS.aloadN X144.here hx rfl (hb hby d23_4) rfl rfl k₀) ?_
  show GoOn p e below _ (T144.setTop (mkF m 5 #[.val (.ref sb)] [(.ref sb), (.ref so), (.ref so)]))
  obtain ⟨_, T145, L145, X145, hQ145, st145⟩ := kCallI X144 hx hZ (a := so) (argsL := [(.ref sb)]) (rest := [(.ref so)]) (c_s6 l Z a0 hw so sb bb n F cs fv h144 n0 Z0 O SS Ex_so F_value_so F_coder_so le_so Es Bv Bc Bn Jb HB hn (Ne.symm ne_bb_so)) rfl hown (hw _ (List.mem_of_getElem? (i := 173) rfl)) (hw _ (List.mem_of_getElem? (i := 174) rfl)) (hw _ (List.mem_of_getElem? (i := 10) rfl)) (hw _ (List.mem_of_getElem? (i := 175) rfl)) (by decide) e144 (g := (mkF m 5 #[.val (.ref sb)] [(.ref sb), (.ref so), (.ref so)])) rfl (by rw [hml]; rfl) (lenOf pd_24 rfl) rfl (W := 1) (by show 2 * 0 + _ ≤ _; exact Nat.le_of_eq rfl) (hb hby d23_5) (by decide) (by decide) (by decide) (by decide)
  obtain ⟨rfl, N145, K145, y, sy, HE, HV, HD, HJ⟩ := hQ145
  replace N0 := Fr.app N0 N145
  have sy0 := Nat.le_trans K0.1 sy
  replace K0 := K0.trans K145 (allS (Or.inr sz_so) all0)
  refine GoOn.step st145 ?_
  show GoOn p e below _ (T145.setTop (mkF m 8 #[.val (.ref sb)] [(.ref so)]))
  exact GoOn.retR X145 hx hrt rfl hlk rfl (hb hby d23_8) (by decide) (by decide) ⟨so, y, rfl, N0, K0, sz_so, sy0, HE, HV, HD, HJ⟩
theorem ef_c_rec (m : MethodId) (x0 : Addr) : entryFrame m #[(.ref x0)] 1 = mkF m 0 #[.val (.ref x0)] [] := by first | (simp [entryFrame, mkF, argsToLocals, Value.category]; done) | rfl
set_option maxRecDepth 65536 in
set_option maxHeartbeats 40000000 in
theorem c_rec (l : Launch) (Z : State) (a0 : Array Value) (hw : ∀ d ∈ tables_1, d.before a0 Z = true) (a : Addr) (h0 : Heap)  :
    Con l Z (⟨"java/lang/Record", "<init>", "()V"⟩ : MethodName) jdk_30_method_1_code 1 none ({ frames := 1, cells := 0, slots := 0, locals := 12 } : Room) #[(.ref a)] h0 (PQ none h0) := by
  refine Con.intro (plainFor_of_name pn_11) ?_
  intro p e s m below meth c s₁ hx hby hml hrt hlk hZ hown hnm X0 e0
  replace hown : s.vm.findClass "java/lang/Record" = some m.cls := hown
  refine GoOn.cast (ef_c_rec m a) ?_
  show GoOn p e below _ (s₁.setTop (mkF m 0 #[.val (.ref a)] []))
  refine GoOn.step (fun t₀ k₀ => XS.aloadN X0.here hx rfl (hb hby d34_0) rfl rfl k₀) ?_
  show GoOn p e below _ (s₁.setTop (mkF m 1 #[.val (.ref a)] [(.ref a)]))
  obtain ⟨T146, X146, e146, st146⟩ := initO X0 hx hZ hown (hw _ (List.mem_of_getElem? (i := 217) rfl)) (hw _ (List.mem_of_getElem? (i := 20) rfl)) (hw _ (List.mem_of_getElem? (i := 21) rfl)) e0 (g := (mkF m 1 #[.val (.ref a)] [(.ref a)])) rfl (by rw [hml]; rfl) rfl (hb hby d34_1) (by decide) (W := 0) (by show 2 * 0 + _ ≤ _; exact Nat.le_of_eq rfl) (by decide)
  refine GoOn.step st146 ?_
  show GoOn p e below _ (T146.setTop (mkF m 4 #[.val (.ref a)] []))
  exact GoOn.ret0 X146 hx hrt hlk (hb hby d34_4) (by decide) (by decide) (by first | exact ⟨rfl, rfl, rfl⟩ | (rw [e146]; exact ⟨rfl, rfl, rfl⟩))
theorem ef_c_vi (m : MethodId) (x0 : Addr) (x1 : Addr) (x2 : Addr) (x3 : Addr) : entryFrame m #[(.ref x0), (.ref x1), (.ref x2), (.ref x3)] 4 = mkF m 0 #[.val (.ref x0), .val (.ref x1), .val (.ref x2), .val (.ref x3)] [] := by first | (simp [entryFrame, mkF, argsToLocals, Value.category]; done) | rfl
set_option maxRecDepth 65536 in
set_option maxHeartbeats 40000000 in
theorem c_vi (l : Launch) (Z : State) (a0 : Array Value) (hw : ∀ d ∈ tables_1, d.before a0 Z = true) (vi fo ru mo : Addr) (h0 : Heap) (n0 : Nat) (Z0 : n0 ≤ h0.size) (Ev : Exa Z h0 vi "com/example/ashlar_gate/ashlargate/model/Violation") (Vf : Fld Z h0 vi "com/example/ashlar_gate/ashlargate/model/Violation" "field" "Ljava/lang/String;" .null) (Vr : Fld Z h0 vi "com/example/ashlar_gate/ashlargate/model/Violation" "rule" "Ljava/lang/String;" .null) (Vm : Fld Z h0 vi "com/example/ashlar_gate/ashlargate/model/Violation" "message" "Ljava/lang/String;" .null) (gv : n0 ≤ vi) :
    Con l Z (⟨"com/example/ashlar_gate/ashlargate/model/Violation", "<init>", "(Ljava/lang/String;Ljava/lang/String;Ljava/lang/String;)V"⟩ : MethodName) prog_16_method_1_code 4 none ({ frames := 2, cells := 0, slots := 0, locals := 24 } : Room) #[(.ref vi), (.ref fo), (.ref ru), (.ref mo)] h0 (ViQ Z vi fo ru mo h0 n0) := by
  refine Con.intro (plainFor_of_name pn_12) ?_
  intro p e s m below meth c s₁ hx hby hml hrt hlk hZ hown hnm X0 e0
  replace hown : s.vm.findClass "com/example/ashlar_gate/ashlargate/model/Violation" = some m.cls := hown
  have N0 := Fr.nil n0
  refine GoOn.cast (ef_c_vi m vi fo ru mo) ?_
  show GoOn p e below _ (s₁.setTop (mkF m 0 #[.val (.ref vi), .val (.ref fo), .val (.ref ru), .val (.ref mo)] []))
  have K0 : Keep h0 h0 [vi] := Keep.refl _ _
  refine GoOn.step (fun t₀ k₀ => XS.aloadN X0.here hx rfl (hb hby d33_0) rfl rfl k₀) ?_
  show GoOn p e below _ (s₁.setTop (mkF m 1 #[.val (.ref vi), .val (.ref fo), .val (.ref ru), .val (.ref mo)] [(.ref vi)]))
  obtain ⟨_, T147, L147, X147, hQ147, st147⟩ := kCallI X0 hx hZ (a := vi) (argsL := []) (rest := []) (c_rec l Z a0 hw vi h0) rfl hown (hw _ (List.mem_of_getElem? (i := 212) rfl)) (hw _ (List.mem_of_getElem? (i := 213) rfl)) (hw _ (List.mem_of_getElem? (i := 215) rfl)) (hw _ (List.mem_of_getElem? (i := 216) rfl)) (by decide) e0 (g := (mkF m 1 #[.val (.ref vi), .val (.ref fo), .val (.ref ru), .val (.ref mo)] [(.ref vi)])) rfl (by rw [hml]; rfl) (lenOf pd_25 rfl) rfl (W := 0) (by show 2 * 0 + _ ≤ _; exact Nat.le_of_eq rfl) (hb hby d33_1) (by decide) (by decide) (by decide) (by decide)
  obtain ⟨rfl, rfl, e147⟩ := hQ147
  rw [List.append_nil] at X147
  refine GoOn.step st147 ?_
  show GoOn p e below _ (T147.setTop (mkF m 4 #[.val (.ref vi), .val (.ref fo), .val (.ref ru), .val (.ref mo)] []))
  refine GoOn.step (fun t₀ k₀ => XS.aloadN X147.here hx rfl (hb hby d33_4) rfl rfl k₀) ?_
  show GoOn p e below _ (T147.setTop (mkF m 5 #[.val (.ref vi), .val (.ref fo), .val (.ref ru), .val (.ref mo)] [(.ref vi)]))
  refine GoOn.step (fun t₀ k₀ => XS.aloadN X147.here hx rfl (hb hby d33_5) rfl rfl k₀) ?_
  show GoOn p e below _ (T147.setTop (mkF m 6 #[.val (.ref vi), .val (.ref fo), .val (.ref ru), .val (.ref mo)] [(.ref fo), (.ref vi)]))
  obtain ⟨T148, h148, X148, e148, W148, st148⟩ := putF X147 hx hZ hown (host := "") (Or.inl (hw _ (List.mem_of_getElem? (i := 218) rfl))) Via.refl e147 Vf Ev (Or.inr ⟨(hw _ (List.mem_of_getElem? (i := 219) rfl)), rfl, hnm⟩) (hw _ (List.mem_of_getElem? (i := 92) rfl)) (ty := (.object "java/lang/String")) (by decide) rfl rfl (g := (mkF m 6 #[.val (.ref vi), .val (.ref fo), .val (.ref ru), .val (.ref mo)] [(.ref fo), (.ref vi)])) rfl rfl (hb hby d33_6)
  replace N0 := Fr.snoc X148 N0 gv
  replace Ev := Ev.wr W148
  replace Vf := Fld.same W148 Vf
  replace Vr := Vr.other W148 (Or.inr (slot_ne (Or.inr (hw _ (List.mem_of_getElem? (i := 221) rfl))) (Or.inr (hw _ (List.mem_of_getElem? (i := 219) rfl))) (by decide) (t := (.object "java/lang/String")) (t' := (.object "java/lang/String")) (by decide) (by decide)))
  replace Vm := Vm.other W148 (Or.inr (slot_ne (Or.inr (hw _ (List.mem_of_getElem? (i := 223) rfl))) (Or.inr (hw _ (List.mem_of_getElem? (i := 219) rfl))) (by decide) (t := (.object "java/lang/String")) (t' := (.object "java/lang/String")) (by decide) (by decide)))
  replace Z0 := Nat.le_trans Z0 (Nat.le_of_eq W148.size.symm)
  replace K0 := K0.wr W148 (Or.inl (by simp))
  refine GoOn.step st148 ?_
  show GoOn p e below _ (T148.setTop (mkF m 9 #[.val (.ref vi), .val (.ref fo), .val (.ref ru), .val (.ref mo)] []))
  refine GoOn.step (fun t₀ k₀ => XS.aloadN X148.here hx rfl (hb hby d33_9) rfl rfl k₀) ?_
  show GoOn p e below _ (T148.setTop (mkF m 10 #[.val (.ref vi), .val (.ref fo), .val (.ref ru), .val (.ref mo)] [(.ref vi)]))
  refine GoOn.step (fun t₀ k₀ => XS.aloadN X148.here hx rfl (hb hby d33_10) rfl rfl k₀) ?_
  show GoOn p e below _ (T148.setTop (mkF m 11 #[.val (.ref vi), .val (.ref fo), .val (.ref ru), .val (.ref mo)] [(.ref ru), (.ref vi)]))
  obtain ⟨T149, h149, X149, e149, W149, st149⟩ := putF X148 hx hZ hown (host := "") (Or.inl (hw _ (List.mem_of_getElem? (i := 220) rfl))) Via.refl e148 Vr Ev (Or.inr ⟨(hw _ (List.mem_of_getElem? (i := 221) rfl)), rfl, hnm⟩) (hw _ (List.mem_of_getElem? (i := 92) rfl)) (ty := (.object "java/lang/String")) (by decide) rfl rfl (g := (mkF m 11 #[.val (.ref vi), .val (.ref fo), .val (.ref ru), .val (.ref mo)] [(.ref ru), (.ref vi)])) rfl rfl (hb hby d33_11)
  replace N0 := Fr.snoc X149 N0 gv
  replace Ev := Ev.wr W149
  replace Vf := Vf.other W149 (Or.inr (slot_ne (Or.inr (hw _ (List.mem_of_getElem? (i := 219) rfl))) (Or.inr (hw _ (List.mem_of_getElem? (i := 221) rfl))) (by decide) (t := (.object "java/lang/String")) (t' := (.object "java/lang/String")) (by decide) (by decide)))
  replace Vr := Fld.same W149 Vr
  replace Vm := Vm.other W149 (Or.inr (slot_ne (Or.inr (hw _ (List.mem_of_getElem? (i := 223) rfl))) (Or.inr (hw _ (List.mem_of_getElem? (i := 221) rfl))) (by decide) (t := (.object "java/lang/String")) (t' := (.object "java/lang/String")) (by decide) (by decide)))
  replace Z0 := Nat.le_trans Z0 (Nat.le_of_eq W149.size.symm)
  replace K0 := K0.wr W149 (Or.inl (by simp))
  refine GoOn.step st149 ?_
  show GoOn p e below _ (T149.setTop (mkF m 14 #[.val (.ref vi), .val (.ref fo), .val (.ref ru), .val (.ref mo)] []))
  refine GoOn.step (fun t₀ k₀ => XS.aloadN X149.here hx rfl (hb hby d33_14) rfl rfl k₀) ?_
  show GoOn p e below _ (T149.setTop (mkF m 15 #[.val (.ref vi), .val (.ref fo), .val (.ref ru), .val (.ref mo)] [(.ref vi)]))
  refine GoOn.step (fun t₀ k₀ => XS.aloadN X149.here hx rfl (hb hby d33_15) rfl rfl k₀) ?_
  show GoOn p e below _ (T149.setTop (mkF m 16 #[.val (.ref vi), .val (.ref fo), .val (.ref ru), .val (.ref mo)] [(.ref mo), (.ref vi)]))
  obtain ⟨T150, h150, X150, e150, W150, st150⟩ := putF X149 hx hZ hown (host := "") (Or.inl (hw _ (List.mem_of_getElem? (i := 222) rfl))) Via.refl e149 Vm Ev (Or.inr ⟨(hw _ (List.mem_of_getElem? (i := 223) rfl)), rfl, hnm⟩) (hw _ (List.mem_of_getElem? (i := 92) rfl)) (ty := (.object "java/lang/String")) (by decide) rfl rfl (g := (mkF m 16 #[.val (.ref vi), .val (.ref fo), .val (.ref ru), .val (.ref mo)] [(.ref mo), (.ref vi)])) rfl rfl (hb hby d33_16)
  replace N0 := Fr.snoc X150 N0 gv
  replace Ev := Ev.wr W150
  replace Vf := Vf.other W150 (Or.inr (slot_ne (Or.inr (hw _ (List.mem_of_getElem? (i := 219) rfl))) (Or.inr (hw _ (List.mem_of_getElem? (i := 223) rfl))) (by decide) (t := (.object "java/lang/String")) (t' := (.object "java/lang/String")) (by decide) (by decide)))
  replace Vr := Vr.other W150 (Or.inr (slot_ne (Or.inr (hw _ (List.mem_of_getElem? (i := 221) rfl))) (Or.inr (hw _ (List.mem_of_getElem? (i := 223) rfl))) (by decide) (t := (.object "java/lang/String")) (t' := (.object "java/lang/String")) (by decide) (by decide)))
  replace Vm := Fld.same W150 Vm
  replace Z0 := Nat.le_trans Z0 (Nat.le_of_eq W150.size.symm)
  replace K0 := K0.wr W150 (Or.inl (by simp))
  refine GoOn.step st150 ?_
  show GoOn p e below _ (T150.setTop (mkF m 19 #[.val (.ref vi), .val (.ref fo), .val (.ref ru), .val (.ref mo)] []))
  exact GoOn.ret0 X150 hx hrt hlk (hb hby d33_19) (by decide) (by decide) (by first | exact ⟨rfl, N0, K0, Ev, Vf, Vr, Vm⟩ | (rw [e150]; exact ⟨rfl, N0, K0, Ev, Vf, Vr, Vm⟩))
theorem ef_c_vf (m : MethodId) (x0 : Addr) : entryFrame m #[(.ref x0)] 1 = mkF m 0 #[.val (.ref x0)] [] := by first | (simp [entryFrame, mkF, argsToLocals, Value.category]; done) | rfl
set_option maxRecDepth 65536 in
set_option maxHeartbeats 40000000 in
theorem c_vf (l : Launch) (Z : State) (a0 : Array Value) (hw : ∀ d ∈ tables_1, d.before a0 Z = true) (vi so : Addr) (h0 : Heap) (Fd : Fld Z h0 vi "com/example/ashlar_gate/ashlargate/model/Violation" "field" "Ljava/lang/String;" (.ref so)) :
    Con l Z (⟨"com/example/ashlar_gate/ashlargate/model/Violation", "field", "()Ljava/lang/String;"⟩ : MethodName) prog_16_method_5_code 1 (some (.object "java/lang/String")) ({ frames := 0, cells := 0, slots := 0, locals := 0 } : Room) #[(.ref vi)] h0 (PQ (some (.ref so)) h0) := by
  refine Con.intro (plainFor_of_name pn_12) ?_
  intro p e s m below meth c s₁ hx hby hml hrt hlk hZ hown hnm X0 e0
  replace hown : s.vm.findClass "com/example/ashlar_gate/ashlargate/model/Violation" = some m.cls := hown
  refine GoOn.cast (ef_c_vf m vi) ?_
  show GoOn p e below _ (s₁.setTop (mkF m 0 #[.val (.ref vi)] []))
  refine GoOn.step (fun t₀ k₀ => XS.aloadN X0.here hx rfl (hb hby d35_0) rfl rfl k₀) ?_
  show GoOn p e below _ (s₁.setTop (mkF m 1 #[.val (.ref vi)] [(.ref vi)]))
  obtain ⟨T151, X151, e151, st151⟩ := getF X0 hx hZ hown (host := "") (Or.inl (hw _ (List.mem_of_getElem? (i := 218) rfl))) Via.refl e0 Fd (g := (mkF m 1 #[.val (.ref vi)] [(.ref vi)])) rfl rfl (hb hby d35_1)
  refine GoOn.step st151 ?_
  show GoOn p e below _ (T151.setTop (mkF m 4 #[.val (.ref vi)] [(.ref so)]))
  exact GoOn.retR X151 hx hrt rfl hlk rfl (hb hby d35_4) (by decide) (by decide) (by first | exact ⟨rfl, rfl, rfl⟩ | (rw [e151]; exact ⟨rfl, rfl, rfl⟩))
theorem ef_c_vr (m : MethodId) (x0 : Addr) : entryFrame m #[(.ref x0)] 1 = mkF m 0 #[.val (.ref x0)] [] := by first | (simp [entryFrame, mkF, argsToLocals, Value.category]; done) | rfl
set_option maxRecDepth 65536 in
set_option maxHeartbeats 40000000 in
theorem c_vr (l : Launch) (Z : State) (a0 : Array Value) (hw : ∀ d ∈ tables_1, d.before a0 Z = true) (vi so : Addr) (h0 : Heap) (Fd : Fld Z h0 vi "com/example/ashlar_gate/ashlargate/model/Violation" "rule" "Ljava/lang/String;" (.ref so)) :
    Con l Z (⟨"com/example/ashlar_gate/ashlargate/model/Violation", "rule", "()Ljava/lang/String;"⟩ : MethodName) prog_16_method_6_code 1 (some (.object "java/lang/String")) ({ frames := 0, cells := 0, slots := 0, locals := 0 } : Room) #[(.ref vi)] h0 (PQ (some (.ref so)) h0) := by
  refine Con.intro (plainFor_of_name pn_12) ?_
  intro p e s m below meth c s₁ hx hby hml hrt hlk hZ hown hnm X0 e0
  replace hown : s.vm.findClass "com/example/ashlar_gate/ashlargate/model/Violation" = some m.cls := hown
  refine GoOn.cast (ef_c_vr m vi) ?_
  show GoOn p e below _ (s₁.setTop (mkF m 0 #[.val (.ref vi)] []))
  refine GoOn.step (fun t₀ k₀ => XS.aloadN X0.here hx rfl (hb hby d36_0) rfl rfl k₀) ?_
  show GoOn p e below _ (s₁.setTop (mkF m 1 #[.val (.ref vi)] [(.ref vi)]))
  obtain ⟨T152, X152, e152, st152⟩ := getF X0 hx hZ hown (host := "") (Or.inl (hw _ (List.mem_of_getElem? (i := 220) rfl))) Via.refl e0 Fd (g := (mkF m 1 #[.val (.ref vi)] [(.ref vi)])) rfl rfl (hb hby d36_1)
  refine GoOn.step st152 ?_
  show GoOn p e below _ (T152.setTop (mkF m 4 #[.val (.ref vi)] [(.ref so)]))
  exact GoOn.retR X152 hx hrt rfl hlk rfl (hb hby d36_4) (by decide) (by decide) (by first | exact ⟨rfl, rfl, rfl⟩ | (rw [e152]; exact ⟨rfl, rfl, rfl⟩))
theorem ef_c_vm (m : MethodId) (x0 : Addr) : entryFrame m #[(.ref x0)] 1 = mkF m 0 #[.val (.ref x0)] [] := by first | (simp [entryFrame, mkF, argsToLocals, Value.category]; done) | rfl
set_option maxRecDepth 65536 in
set_option maxHeartbeats 40000000 in
theorem c_vm (l : Launch) (Z : State) (a0 : Array Value) (hw : ∀ d ∈ tables_1, d.before a0 Z = true) (vi so : Addr) (h0 : Heap) (Fd : Fld Z h0 vi "com/example/ashlar_gate/ashlargate/model/Violation" "message" "Ljava/lang/String;" (.ref so)) :
    Con l Z (⟨"com/example/ashlar_gate/ashlargate/model/Violation", "message", "()Ljava/lang/String;"⟩ : MethodName) prog_16_method_7_code 1 (some (.object "java/lang/String")) ({ frames := 0, cells := 0, slots := 0, locals := 0 } : Room) #[(.ref vi)] h0 (PQ (some (.ref so)) h0) := by
  refine Con.intro (plainFor_of_name pn_12) ?_
  intro p e s m below meth c s₁ hx hby hml hrt hlk hZ hown hnm X0 e0
  replace hown : s.vm.findClass "com/example/ashlar_gate/ashlargate/model/Violation" = some m.cls := hown
  refine GoOn.cast (ef_c_vm m vi) ?_
  show GoOn p e below _ (s₁.setTop (mkF m 0 #[.val (.ref vi)] []))
  refine GoOn.step (fun t₀ k₀ => XS.aloadN X0.here hx rfl (hb hby d37_0) rfl rfl k₀) ?_
  show GoOn p e below _ (s₁.setTop (mkF m 1 #[.val (.ref vi)] [(.ref vi)]))
  obtain ⟨T153, X153, e153, st153⟩ := getF X0 hx hZ hown (host := "") (Or.inl (hw _ (List.mem_of_getElem? (i := 222) rfl))) Via.refl e0 Fd (g := (mkF m 1 #[.val (.ref vi)] [(.ref vi)])) rfl rfl (hb hby d37_1)
  refine GoOn.step st153 ?_
  show GoOn p e below _ (T153.setTop (mkF m 4 #[.val (.ref vi)] [(.ref so)]))
  exact GoOn.retR X153 hx hrt rfl hlk rfl (hb hby d37_4) (by decide) (by decide) (by first | exact ⟨rfl, rfl, rfl⟩ | (rw [e153]; exact ⟨rfl, rfl, rfl⟩))
theorem ef_c_iat (m : MethodId) (x0 : Addr) (x1 : Addr) : entryFrame m #[(.ref x0), (.ref x1)] 2 = mkF m 0 #[.val (.ref x0), .val (.ref x1)] [] := by first | (simp [entryFrame, mkF, argsToLocals, Value.category]; done) | rfl
set_option maxRecDepth 65536 in
set_option maxHeartbeats 40000000 in
theorem c_iat (l : Launch) (Z : State) (a0 : Array Value) (hw : ∀ d ∈ tables_1, d.before a0 Z = true) (x fo ru rq : Addr) (nf nr : Nat) (gf gr : Nat → Int32) (cs : Int32) (fv : Value) (h0 : Heap) (n0 : Nat) (Z0 : n0 ≤ h0.size) (O : Old Z n0 h0) (SS : Stt Z cs fv) (Ex : Exa Z h0 x "com/example/ashlar_gate/ashlargate/model/InvalidValueException") (Fd : Fld Z h0 x "java/lang/Throwable" "detailMessage" "Ljava/lang/String;" (.ref rq)) (Fu : Fld Z h0 x "com/example/ashlar_gate/ashlargate/model/InvalidValueException" "rule" "Ljava/lang/String;" (.ref ru)) (SOf : Str Z h0 fo nf (fun i => laB (gf i))) (SOr : Str Z h0 rq nr (fun i => laB (gr i))) (hnf : nf ≤ 2) (hnr : nr ≤ 2) :
    ConG l Z (⟨"com/example/ashlar_gate/ashlargate/model/InvalidValueException", "at", "(Ljava/lang/String;)Lcom/example/ashlar_gate/ashlargate/model/Violation;"⟩ : MethodName) prog_12_method_2_code 2 (some (.object "com/example/ashlar_gate/ashlargate/model/Violation")) ({ frames := 6, cells := 7, slots := 40, locals := 98 } : Room) #[(.ref x), (.ref fo)] h0 (fun vm => CHv Z consts_1 vm h0) (AtQ Z fo ru (nf + 1 + nr) (gm nf gf gr) h0 n0) := by
  refine ConG.intro (plainFor_of_name pn_7) ?_
  intro p e s m below meth c s₁ hx hby hml hrt hlk hZ hown hnm hPv hTK hsh X0 e0
  replace hown : s.vm.findClass "com/example/ashlar_gate/ashlargate/model/InvalidValueException" = some m.cls := hown
  have N0 := Fr.nil n0
  have hS0 : s.Since s.vm h0.size := (State.WarmedH.refl s).since h0.size
  have hk0 : h0.size ≤ h0.size := Nat.le_refl _
  refine GoOn.cast (ef_c_iat m x fo) ?_
  show GoOn p e below _ (s₁.setTop (mkF m 0 #[.val (.ref x), .val (.ref fo)] []))
  have K0 : Keep h0 h0 [] := Keep.refl _ _
  have HC : CHv Z consts_1 s.vm h0 := hPv
  obtain ⟨Ef, fy, Vf_, Cf_, Jf⟩ := SOf
  obtain ⟨Er, ry, Vr_, Cr_, Jr⟩ := SOr
  have Vf := Vf_
  have Cf := Cf_
  have Vr := Vr_
  have Cr := Cr_
  obtain ⟨T154, h154, X154, e154, E154, A154, D154, -, st154⟩ := newO X0 hx hZ hown (hw _ (List.mem_of_getElem? (i := 91) rfl)) (hw _ (List.mem_of_getElem? (i := 92) rfl)) (hw _ (List.mem_of_getElem? (i := 93) rfl)) e0 (g := (mkF m 0 #[.val (.ref x), .val (.ref fo)] [])) rfl (hb hby d11_0) (by decide) (by decide)
  obtain ⟨vi, g154⟩ : ∃ z, z = h0.size := ⟨_, rfl⟩
  rw [← g154] at A154 D154 st154
  have lt_fo_vi : fo < vi := by rw [g154]; exact Ef.lt
  have ne_fo_vi : fo ≠ vi := Nat.ne_of_lt lt_fo_vi
  have lt_fy_vi : fy < vi := by rw [g154]; exact Jf.lt
  have ne_fy_vi : fy ≠ vi := Nat.ne_of_lt lt_fy_vi
  have lt_rq_vi : rq < vi := by rw [g154]; exact Er.lt
  have ne_rq_vi : rq ≠ vi := Nat.ne_of_lt lt_rq_vi
  have lt_ry_vi : ry < vi := by rw [g154]; exact Jr.lt
  have ne_ry_vi : ry ≠ vi := Nat.ne_of_lt lt_ry_vi
  have lt_x_vi : x < vi := by rw [g154]; exact Ex.lt
  have ne_x_vi : x ≠ vi := Nat.ne_of_lt lt_x_vi
  have le_vi : n0 ≤ vi := by rw [g154]; exact Z0
  have sz_vi : h0.size ≤ vi := by rw [g154]; exact K0.1
  replace HC := HC.ext E154
  replace Ef := Ef.ext E154
  replace Vf := Vf.ext E154
  replace Cf := Cf.ext E154
  replace Jf := Jf.ext E154
  replace Er := Er.ext E154
  replace Vr := Vr.ext E154
  replace Cr := Cr.ext E154
  replace Jr := Jr.ext E154
  replace Ex := Ex.ext E154
  replace Fd := Fd.ext E154
  replace Fu := Fu.ext E154
  replace O := O.ext E154
  replace hk0 := Nat.le_trans hk0 E154.1
  replace Z0 := Nat.le_trans Z0 E154.1
  replace K0 := K0.ext E154
  have Ex_vi : Exa Z h154 vi "com/example/ashlar_gate/ashlargate/model/Violation" := A154
  have F_field_vi : Fld Z h154 vi "com/example/ashlar_gate/ashlargate/model/Violation" "field" "Ljava/lang/String;" .null := D154 (Or.inr (hw _ (List.mem_of_getElem? (i := 219) rfl))) (ty := (.object "java/lang/String")) (by decide)
  have F_rule_vi : Fld Z h154 vi "com/example/ashlar_gate/ashlargate/model/Violation" "rule" "Ljava/lang/String;" .null := D154 (Or.inr (hw _ (List.mem_of_getElem? (i := 221) rfl))) (ty := (.object "java/lang/String")) (by decide)
  have F_message_vi : Fld Z h154 vi "com/example/ashlar_gate/ashlargate/model/Violation" "message" "Ljava/lang/String;" .null := D154 (Or.inr (hw _ (List.mem_of_getElem? (i := 223) rfl))) (ty := (.object "java/lang/String")) (by decide)
  refine GoOn.step st154 ?_
  show GoOn p e below _ (T154.setTop (mkF m 3 #[.val (.ref x), .val (.ref fo)] [(.ref vi)]))
  refine GoOn.step (fun t₀ k₀ => XS.dup X154.here hx rfl (hb hby d11_3) rfl rfl k₀) ?_
  show GoOn p e below _ (T154.setTop (mkF m 4 #[.val (.ref x), .val (.ref fo)] [(.ref vi), (.ref vi)]))
  refine GoOn.step (fun t₀ k₀ => XS.aloadN X154.here hx rfl (hb hby d11_4) rfl rfl k₀) ?_
  show GoOn p e below _ (T154.setTop (mkF m 5 #[.val (.ref x), .val (.ref fo)] [(.ref fo), (.ref vi), (.ref vi)]))
  refine GoOn.step (fun t₀ k₀ => XS.aloadN X154.here hx rfl (hb hby d11_5) rfl rfl k₀) ?_
  show GoOn p e below _ (T154.setTop (mkF m 6 #[.val (.ref x), .val (.ref fo)] [(.ref x), (.ref fo), (.ref vi), (.ref vi)]))
  obtain ⟨T155, X155, e155, st155⟩ := getF X154 hx hZ hown (host := "") (Or.inl (hw _ (List.mem_of_getElem? (i := 84) rfl))) Via.refl e154 Fu (g := (mkF m 6 #[.val (.ref x), .val (.ref fo)] [(.ref x), (.ref fo), (.ref vi), (.ref vi)])) rfl rfl (hb hby d11_6)
  refine GoOn.step st155 ?_
  show GoOn p e below _ (T155.setTop (mkF m 9 #[.val (.ref x), .val (.ref fo)] [(.ref ru), (.ref fo), (.ref vi), (.ref vi)]))
  obtain ⟨T156, h156, X156, e156, E156, A156, D156, -, st156⟩ := newO X155 hx hZ hown (hw _ (List.mem_of_getElem? (i := 94) rfl)) (hw _ (List.mem_of_getElem? (i := 95) rfl)) (hw _ (List.mem_of_getElem? (i := 96) rfl)) e155 (g := (mkF m 9 #[.val (.ref x), .val (.ref fo)] [(.ref ru), (.ref fo), (.ref vi), (.ref vi)])) rfl (hb hby d11_9) (by decide) (by decide)
  obtain ⟨sb, g156⟩ : ∃ z, z = h154.size := ⟨_, rfl⟩
  rw [← g156] at A156 D156 st156
  have lt_fo_sb : fo < sb := by rw [g156]; exact Ef.lt
  have ne_fo_sb : fo ≠ sb := Nat.ne_of_lt lt_fo_sb
  have lt_fy_sb : fy < sb := by rw [g156]; exact Jf.lt
  have ne_fy_sb : fy ≠ sb := Nat.ne_of_lt lt_fy_sb
  have lt_rq_sb : rq < sb := by rw [g156]; exact Er.lt
  have ne_rq_sb : rq ≠ sb := Nat.ne_of_lt lt_rq_sb
  have lt_ry_sb : ry < sb := by rw [g156]; exact Jr.lt
  have ne_ry_sb : ry ≠ sb := Nat.ne_of_lt lt_ry_sb
  have lt_x_sb : x < sb := by rw [g156]; exact Ex.lt
  have ne_x_sb : x ≠ sb := Nat.ne_of_lt lt_x_sb
  have lt_vi_sb : vi < sb := by rw [g156]; exact Ex_vi.lt
  have ne_vi_sb : vi ≠ sb := Nat.ne_of_lt lt_vi_sb
  have le_sb : n0 ≤ sb := by rw [g156]; exact Z0
  have sz_sb : h0.size ≤ sb := by rw [g156]; exact K0.1
  replace HC := HC.ext E156
  replace Ef := Ef.ext E156
  replace Vf := Vf.ext E156
  replace Cf := Cf.ext E156
  replace Jf := Jf.ext E156
  replace Er := Er.ext E156
  replace Vr := Vr.ext E156
  replace Cr := Cr.ext E156
  replace Jr := Jr.ext E156
  replace Ex := Ex.ext E156
  replace Fd := Fd.ext E156
  replace Ex_vi := Ex_vi.ext E156
  replace F_field_vi := F_field_vi.ext E156
  replace F_rule_vi := F_rule_vi.ext E156
  replace F_message_vi := F_message_vi.ext E156
  replace O := O.ext E156
  replace hk0 := Nat.le_trans hk0 E156.1
  replace Z0 := Nat.le_trans Z0 E156.1
  replace K0 := K0.ext E156
  have Ex_sb : Exa Z h156 sb "java/lang/StringBuilder" := A156
  have F_value_sb : Fld Z h156 sb "java/lang/AbstractStringBuilder" "value" "[B" .null := D156 (Or.inl (hw _ (List.mem_of_getElem? (i := 109) rfl))) (ty := (.array .byte)) (by decide)
  have F_coder_sb : Fld Z h156 sb "java/lang/AbstractStringBuilder" "coder" "B" (.int (0 : Int32)) := D156 (Or.inl (hw _ (List.mem_of_getElem? (i := 111) rfl))) (ty := .byte) (by decide)
  have F_count_sb : Fld Z h156 sb "java/lang/AbstractStringBuilder" "count" "I" (.int (0 : Int32)) := D156 (Or.inl (hw _ (List.mem_of_getElem? (i := 134) rfl))) (ty := .int) (by decide)
  refine GoOn.step st156 ?_
  show GoOn p e below _ (T156.setTop (mkF m 12 #[.val (.ref x), .val (.ref fo)] [(.ref sb), (.ref ru), (.ref fo), (.ref vi), (.ref vi)]))
  refine GoOn.step (fun t₀ k₀ => XS.dup X156.here hx rfl (hb hby d11_12) rfl rfl k₀) ?_
  show GoOn p e below _ (T156.setTop (mkF m 13 #[.val (.ref x), .val (.ref fo)] [(.ref sb), (.ref sb), (.ref ru), (.ref fo), (.ref vi), (.ref vi)]))
  obtain ⟨_, T157, L157, X157, hQ157, st157⟩ := kCallI X156 hx hZ (a := sb) (argsL := []) (rest := [(.ref sb), (.ref ru), (.ref fo), (.ref vi), (.ref vi)]) (c_sbi l Z a0 hw sb cs fv h156 n0 Z0 O SS Ex_sb F_value_sb F_coder_sb F_count_sb le_sb) rfl hown (hw _ (List.mem_of_getElem? (i := 97) rfl)) (hw _ (List.mem_of_getElem? (i := 98) rfl)) (hw _ (List.mem_of_getElem? (i := 96) rfl)) (hw _ (List.mem_of_getElem? (i := 99) rfl)) (by decide) e156 (g := (mkF m 13 #[.val (.ref x), .val (.ref fo)] [(.ref sb), (.ref sb), (.ref ru), (.ref fo), (.ref vi), (.ref vi)])) rfl (by rw [hml]; rfl) (lenOf pd_25 rfl) rfl (W := 5) (by show 2 * 0 + _ ≤ _; exact Nat.le_of_eq rfl) (hb hby d11_13) (by decide) (by decide) (by decide) (by decide)
  obtain ⟨rfl, N157, K157, bb, szb, Es, Bv, Bc, Bn, Jb⟩ := hQ157
  have ne_vi_bb : vi ≠ bb := Nat.ne_of_lt (Nat.lt_of_lt_of_le Ex_vi.lt szb)
  have ne_sb_bb : sb ≠ bb := Nat.ne_of_lt (Nat.lt_of_lt_of_le Ex_sb.lt szb)
  have ne_x_bb : x ≠ bb := Nat.ne_of_lt (Nat.lt_of_lt_of_le Ex.lt szb)
  have ne_fo_bb : fo ≠ bb := Nat.ne_of_lt (Nat.lt_of_lt_of_le Ef.lt szb)
  have ne_fy_bb : fy ≠ bb := Nat.ne_of_lt (Nat.lt_of_lt_of_le Jf.lt szb)
  have ne_rq_bb : rq ≠ bb := Nat.ne_of_lt (Nat.lt_of_lt_of_le Er.lt szb)
  have ne_ry_bb : ry ≠ bb := Nat.ne_of_lt (Nat.lt_of_lt_of_le Jr.lt szb)
  replace N0 := Fr.app N0 N157
  have le_bb := Nat.le_trans Z0 szb
  have sz_bb := Nat.le_trans K0.1 szb
  replace K0 := K0.trans K157 (allS (Or.inr sz_sb) all0)
  have Sn := Safe.new (EL := consts_1) (Z := Z) (vm := s.vm) szb
  have HC1 := HC
  have sw158 : ∀ z_ ∈ ([sb] : List Addr), Safe Z consts_1 s.vm h156 z_ := (allS (Safe.exa hZ.alike Ex_sb (by decide) (by decide)) all0)
  replace HC := HC.keep K157 sw158
  replace Ef := Ef.keep K157
  replace Vf := Vf.keep K157 (ninS ne_fo_sb nin0)
  replace Cf := Cf.keep K157 (ninS ne_fo_sb nin0)
  replace Jf := Jf.keep K157 (ninS ne_fy_sb nin0)
  replace Er := Er.keep K157
  replace Vr := Vr.keep K157 (ninS ne_rq_sb nin0)
  replace Cr := Cr.keep K157 (ninS ne_rq_sb nin0)
  replace Jr := Jr.keep K157 (ninS ne_ry_sb nin0)
  replace Ex := Ex.keep K157
  replace Fd := Fd.keep K157 (ninS ne_x_sb nin0)
  replace Ex_vi := Ex_vi.keep K157
  replace F_field_vi := F_field_vi.keep K157 (ninS ne_vi_sb nin0)
  replace F_rule_vi := F_rule_vi.keep K157 (ninS ne_vi_sb nin0)
  replace F_message_vi := F_message_vi.keep K157 (ninS ne_vi_sb nin0)
  replace Ex_sb := Ex_sb.keep K157
  clear F_value_sb
  clear F_coder_sb
  clear F_count_sb
  replace O := O.keep K157 (allS le_sb all0)
  replace hk0 := Nat.le_trans hk0 K157.1
  replace Z0 := Nat.le_trans Z0 K157.1
  have Sf_bb := Safe.keep K157 sw158 HC1 Sn
  refine GoOn.step st157 ?_
  show GoOn p e below _ (T157.setTop (mkF m 16 #[.val (.ref x), .val (.ref fo)] [(.ref sb), (.ref ru), (.ref fo), (.ref vi), (.ref vi)]))
  refine GoOn.step (fun t₀ k₀ => XS.aloadN X157.here hx rfl (hb hby d11_16) rfl rfl k₀) ?_
  show GoOn p e below _ (T157.setTop (mkF m 17 #[.val (.ref x), .val (.ref fo)] [(.ref fo), (.ref sb), (.ref ru), (.ref fo), (.ref vi), (.ref vi)]))
  obtain ⟨_, T159, L159, X159, hQ159, st159⟩ := kCallV X157 hx hZ (a := sb) (argsL := [(.ref fo)]) (rest := [(.ref ru), (.ref fo), (.ref vi), (.ref vi)]) (c_app l Z a0 hw sb fo fy bb 0 nf (fun _ => (0 : Int32)) gf cs fv T157.heap n0 Z0 O SS Es Bv Bc Bn Ef Vf Cf Jf Jb le_bb ne_fo_bb ne_fy_bb le_sb ne_sb_bb b0 (by omega)) hown (hw _ (List.mem_of_getElem? (i := 112) rfl)) (hw _ (List.mem_of_getElem? (i := 113) rfl)) (notFace_of_selects (args := #[]) (mvT hZ (hw _ (List.mem_of_getElem? (i := 115) rfl)))) (hw _ (List.mem_of_getElem? (i := 115) rfl)) (hw _ (List.mem_of_getElem? (i := 114) rfl)) (hw _ (List.mem_of_getElem? (i := 96) rfl)) (hw _ (List.mem_of_getElem? (i := 116) rfl)) (by decide) rfl Ex_sb (g := (mkF m 17 #[.val (.ref x), .val (.ref fo)] [(.ref fo), (.ref sb), (.ref ru), (.ref fo), (.ref vi), (.ref vi)])) rfl (by rw [hml]; rfl) (lenOf pd_26 rfl) rfl (W := 4) (by show 2 * 0 + _ ≤ _; exact Nat.le_of_eq rfl) (hb hby d11_17) (by decide) (by decide) (by decide) (by decide)
  obtain ⟨rfl, N159, K159, Es159, Bv159, Bc159, Bn159, Jb159⟩ := hQ159
  replace N0 := Fr.app N0 N159
  replace K0 := K0.trans K159 (allS (Or.inr sz_sb) (allS (Or.inr sz_bb) all0))
  have sw160 : ∀ z_ ∈ ([sb, bb] : List Addr), Safe Z consts_1 s.vm T157.heap z_ := (allS (Safe.exa hZ.alike Ex_sb (by decide) (by decide)) (allS Sf_bb all0))
  replace Sf_bb := Safe.keep K159 sw160 HC Sf_bb
  replace HC := HC.keep K159 sw160
  replace Ef := Ef.keep K159
  replace Vf := Vf.keep K159 (ninS ne_fo_sb (ninS ne_fo_bb nin0))
  replace Cf := Cf.keep K159 (ninS ne_fo_sb (ninS ne_fo_bb nin0))
  replace Jf := Jf.keep K159 (ninS ne_fy_sb (ninS ne_fy_bb nin0))
  replace Er := Er.keep K159
  replace Vr := Vr.keep K159 (ninS ne_rq_sb (ninS ne_rq_bb nin0))
  replace Cr := Cr.keep K159 (ninS ne_rq_sb (ninS ne_rq_bb nin0))
  replace Jr := Jr.keep K159 (ninS ne_ry_sb (ninS ne_ry_bb nin0))
  replace Ex := Ex.keep K159
  replace Fd := Fd.keep K159 (ninS ne_x_sb (ninS ne_x_bb nin0))
  replace Ex_vi := Ex_vi.keep K159
  replace F_field_vi := F_field_vi.keep K159 (ninS ne_vi_sb (ninS ne_vi_bb nin0))
  replace F_rule_vi := F_rule_vi.keep K159 (ninS ne_vi_sb (ninS ne_vi_bb nin0))
  replace F_message_vi := F_message_vi.keep K159 (ninS ne_vi_sb (ninS ne_vi_bb nin0))
  replace Ex_sb := Ex_sb.keep K159
  replace Es := Es.keep K159
  clear Bv
  clear Bc
  clear Bn
  clear Jb
  replace O := O.keep K159 (allS le_sb (allS le_bb all0))
  replace hk0 := Nat.le_trans hk0 K159.1
  replace Z0 := Nat.le_trans Z0 K159.1
  have Es := Es159
  have Bv := Bv159
  have Bc := Bc159
  have Bn := Bn159
  have Jb := Jb159
  refine GoOn.step st159 ?_
  show GoOn p e below _ (T159.setTop (mkF m 20 #[.val (.ref x), .val (.ref fo)] [(.ref sb), (.ref ru), (.ref fo), (.ref vi), (.ref vi)]))
  have hbl := Jb.lt
  obtain ⟨la, T161, h161, k161, lb, kk161, X161, e161, E161, hS161, hk161, hZ161, hO161, Exl, Fcl, Fvl, Al161, hla161, hlb161, hC161, hL161, hne161, st161⟩ := ldcCH (s := s) (vm0 := s.vm) X159 hx hZ hown (hw _ (List.mem_of_getElem? (i := 160) rfl)) (ws_1 hw) rfl hS0 hk0 (ew_1 hw) (by simp [consts_1]) HC (text := " ") (vs := [.int 32]) (z := 1) ⟨by first | decide | simp, by first | rfl | decide | (simp [Jvm.Lit.byteI]; done)⟩ (by decide) rfl (g := (mkF m 20 #[.val (.ref x), .val (.ref fo)] [(.ref sb), (.ref ru), (.ref fo), (.ref vi), (.ref vi)])) rfl (hb hby d11_20) (n := 4) (by decide) (by decide) (by decide) (by decide)
  replace Sf_bb := hC161.safe hbl Sf_bb
  replace HC := hC161.1
  replace Er := Er.ext E161
  replace Vr := Vr.ext E161
  replace Cr := Cr.ext E161
  replace Jr := Jr.ext E161
  replace Ex := Ex.ext E161
  replace Fd := Fd.ext E161
  replace Ex_vi := Ex_vi.ext E161
  replace F_field_vi := F_field_vi.ext E161
  replace F_rule_vi := F_rule_vi.ext E161
  replace F_message_vi := F_message_vi.ext E161
  replace Ex_sb := Ex_sb.ext E161
  replace Es := Es.ext E161
  replace Bv := Bv.ext E161
  replace Bc := Bc.ext E161
  replace Bn := Bn.ext E161
  replace Jb := Jb.ext E161
  replace O := O.ext E161
  replace Z0 := Nat.le_trans Z0 E161.1
  replace K0 := K0.ext E161
  replace hZ := hZ161
  replace hown := hO161
  refine GoOn.step st161 ?_
  show GoOn p e below _ (T161.setTop (mkF m 22 #[.val (.ref x), .val (.ref fo)] [(.ref la), (.ref sb), (.ref ru), (.ref fo), (.ref vi), (.ref vi)]))
  have hsf := hne161 bb Sf_bb
  have hss := hne161 sb (Safe.exa hZ.alike Es (by decide) (by decide))
  have Jl := arv1 Al161
  replace Bn : Fld Z h161 sb "java/lang/AbstractStringBuilder" "count" "I" (.int nf.toInt32) := (by rw [Nat.zero_add] at Bn; exact Bn)
  obtain ⟨_, T162, L162, X162, hQ162, st162⟩ := kCallV X161 hx hZ (a := sb) (argsL := [(.ref la)]) (rest := [(.ref ru), (.ref fo), (.ref vi), (.ref vi)]) (c_app l Z a0 hw sb la lb bb nf 1 (apF (fun _ => (0 : Int32)) 0 gf nf) (fun _ => 32) cs fv h161 n0 Z0 O SS Es Bv Bc Bn Exl Fvl Fcl Jl Jb le_bb (Ne.symm hsf.1) (Ne.symm hsf.2) le_sb ne_sb_bb (apF_B b0) (by omega)) hown (hw _ (List.mem_of_getElem? (i := 112) rfl)) (hw _ (List.mem_of_getElem? (i := 113) rfl)) (notFace_of_selects (args := #[]) (mvT hZ (hw _ (List.mem_of_getElem? (i := 115) rfl)))) (hw _ (List.mem_of_getElem? (i := 115) rfl)) (hw _ (List.mem_of_getElem? (i := 114) rfl)) (hw _ (List.mem_of_getElem? (i := 96) rfl)) (hw _ (List.mem_of_getElem? (i := 116) rfl)) (by decide) e161 Ex_sb (g := (mkF m 22 #[.val (.ref x), .val (.ref fo)] [(.ref la), (.ref sb), (.ref ru), (.ref fo), (.ref vi), (.ref vi)])) rfl (by rw [hml]; rfl) (lenOf pd_26 rfl) rfl (W := 4) (by show 2 * 0 + _ ≤ _; exact Nat.le_of_eq rfl) (hb hby d11_22) (by decide) (by decide) (by decide) (by decide)
  obtain ⟨rfl, N162, K162, Es162, Bv162, Bc162, Bn162, Jb162⟩ := hQ162
  replace N0 := Fr.app N0 N162
  replace K0 := K0.trans K162 (allS (Or.inr sz_sb) (allS (Or.inr sz_bb) all0))
  replace Er := Er.keep K162
  replace Vr := Vr.keep K162 (ninS ne_rq_sb (ninS ne_rq_bb nin0))
  replace Cr := Cr.keep K162 (ninS ne_rq_sb (ninS ne_rq_bb nin0))
  replace Jr := Jr.keep K162 (ninS ne_ry_sb (ninS ne_ry_bb nin0))
  replace Ex := Ex.keep K162
  replace Fd := Fd.keep K162 (ninS ne_x_sb (ninS ne_x_bb nin0))
  replace Ex_vi := Ex_vi.keep K162
  replace F_field_vi := F_field_vi.keep K162 (ninS ne_vi_sb (ninS ne_vi_bb nin0))
  replace F_rule_vi := F_rule_vi.keep K162 (ninS ne_vi_sb (ninS ne_vi_bb nin0))
  replace F_message_vi := F_message_vi.keep K162 (ninS ne_vi_sb (ninS ne_vi_bb nin0))
  replace Ex_sb := Ex_sb.keep K162
  replace Es := Es.keep K162
  clear Bv
  clear Bc
  clear Bn
  clear Jb
  replace Exl := Exl.keep K162
  replace Fcl := Fcl.keep K162 (ninS (Ne.symm hss.1) (ninS (Ne.symm hsf.1) nin0))
  replace Fvl := Fvl.keep K162 (ninS (Ne.symm hss.1) (ninS (Ne.symm hsf.1) nin0))
  replace Jl := Jl.keep K162 (ninS (Ne.symm hss.2) (ninS (Ne.symm hsf.2) nin0))
  replace O := O.keep K162 (allS le_sb (allS le_bb all0))
  replace hk161 := Nat.le_trans hk161 K162.1
  replace Z0 := Nat.le_trans Z0 K162.1
  have Es := Es162
  have Bv := Bv162
  have Bc := Bc162
  have Bn := Bn162
  have Jb := Jb162
  refine GoOn.step st162 ?_
  show GoOn p e below _ (T162.setTop (mkF m 25 #[.val (.ref x), .val (.ref fo)] [(.ref sb), (.ref ru), (.ref fo), (.ref vi), (.ref vi)]))
  refine GoOn.step (fun t₀ k₀ => XS.aloadN X162.here hx rfl (hb hby d11_25) rfl rfl k₀) ?_
  show GoOn p e below _ (T162.setTop (mkF m 26 #[.val (.ref x), .val (.ref fo)] [(.ref x), (.ref sb), (.ref ru), (.ref fo), (.ref vi), (.ref vi)]))
  obtain ⟨_, T163, L163, X163, hQ163, st163⟩ := kCallU X162 hx hZ (a := x) (argsL := []) (rest := [(.ref sb), (.ref ru), (.ref fo), (.ref vi), (.ref vi)]) (c_gm l Z a0 hw x rq T162.heap Fd) hown (hw _ (List.mem_of_getElem? (i := 161) rfl)) (hw _ (List.mem_of_getElem? (i := 162) rfl)) (hw _ (List.mem_of_getElem? (i := 163) rfl)) (by decide) (hw _ (List.mem_of_getElem? (i := 165) rfl)) (hw _ (List.mem_of_getElem? (i := 164) rfl)) (hw _ (List.mem_of_getElem? (i := 45) rfl)) (hw _ (List.mem_of_getElem? (i := 166) rfl)) rfl Ex (g := (mkF m 26 #[.val (.ref x), .val (.ref fo)] [(.ref x), (.ref sb), (.ref ru), (.ref fo), (.ref vi), (.ref vi)])) rfl (by rw [hml]; rfl) (lenOf pd_27 rfl) rfl (W := 5) (by show 2 * 0 + _ ≤ _; exact Nat.le_of_eq rfl) (hb hby d11_26) (by decide) (by decide) (by decide) (by decide)
  obtain ⟨rfl, rfl, e163⟩ := hQ163
  rw [List.append_nil] at X163
  refine GoOn.step st163 ?_
  show GoOn p e below _ (T163.setTop (mkF m 29 #[.val (.ref x), .val (.ref fo)] [(.ref rq), (.ref sb), (.ref ru), (.ref fo), (.ref vi), (.ref vi)]))
  obtain ⟨_, T164, L164, X164, hQ164, st164⟩ := kCallV X163 hx hZ (a := sb) (argsL := [(.ref rq)]) (rest := [(.ref ru), (.ref fo), (.ref vi), (.ref vi)]) (c_app l Z a0 hw sb rq ry bb (nf + 1) nr (apF (apF (fun _ => (0 : Int32)) 0 gf nf) nf (fun _ => 32) 1) gr cs fv T162.heap n0 Z0 O SS Es Bv Bc Bn Er Vr Cr Jr Jb le_bb ne_rq_bb ne_ry_bb le_sb ne_sb_bb (apF_B (apF_B b0)) (by omega)) hown (hw _ (List.mem_of_getElem? (i := 112) rfl)) (hw _ (List.mem_of_getElem? (i := 113) rfl)) (notFace_of_selects (args := #[]) (mvT hZ (hw _ (List.mem_of_getElem? (i := 115) rfl)))) (hw _ (List.mem_of_getElem? (i := 115) rfl)) (hw _ (List.mem_of_getElem? (i := 114) rfl)) (hw _ (List.mem_of_getElem? (i := 96) rfl)) (hw _ (List.mem_of_getElem? (i := 116) rfl)) (by decide) e163 Ex_sb (g := (mkF m 29 #[.val (.ref x), .val (.ref fo)] [(.ref rq), (.ref sb), (.ref ru), (.ref fo), (.ref vi), (.ref vi)])) rfl (by rw [hml]; rfl) (lenOf pd_26 rfl) rfl (W := 4) (by show 2 * 0 + _ ≤ _; exact Nat.le_of_eq rfl) (hb hby d11_29) (by decide) (by decide) (by decide) (by decide)
  obtain ⟨rfl, N164, K164, Es164, Bv164, Bc164, Bn164, Jb164⟩ := hQ164
  replace N0 := Fr.app N0 N164
  replace K0 := K0.trans K164 (allS (Or.inr sz_sb) (allS (Or.inr sz_bb) all0))
  replace Er := Er.keep K164
  replace Vr := Vr.keep K164 (ninS ne_rq_sb (ninS ne_rq_bb nin0))
  replace Cr := Cr.keep K164 (ninS ne_rq_sb (ninS ne_rq_bb nin0))
  replace Jr := Jr.keep K164 (ninS ne_ry_sb (ninS ne_ry_bb nin0))
  replace Ex := Ex.keep K164
  replace Fd := Fd.keep K164 (ninS ne_x_sb (ninS ne_x_bb nin0))
  replace Ex_vi := Ex_vi.keep K164
  replace F_field_vi := F_field_vi.keep K164 (ninS ne_vi_sb (ninS ne_vi_bb nin0))
  replace F_rule_vi := F_rule_vi.keep K164 (ninS ne_vi_sb (ninS ne_vi_bb nin0))
  replace F_message_vi := F_message_vi.keep K164 (ninS ne_vi_sb (ninS ne_vi_bb nin0))
  replace Ex_sb := Ex_sb.keep K164
  replace Es := Es.keep K164
  clear Bv
  clear Bc
  clear Bn
  clear Jb
  replace O := O.keep K164 (allS le_sb (allS le_bb all0))
  replace hk161 := Nat.le_trans hk161 K164.1
  replace Z0 := Nat.le_trans Z0 K164.1
  have Es := Es164
  have Bv := Bv164
  have Bc := Bc164
  have Bn := Bn164
  have Jb := Jb164
  refine GoOn.step st164 ?_
  show GoOn p e below _ (T164.setTop (mkF m 32 #[.val (.ref x), .val (.ref fo)] [(.ref sb), (.ref ru), (.ref fo), (.ref vi), (.ref vi)]))
  obtain ⟨_, T165, L165, X165, hQ165, st165⟩ := kCallV X164 hx hZ (a := sb) (argsL := []) (rest := [(.ref ru), (.ref fo), (.ref vi), (.ref vi)]) (c_ts l Z a0 hw sb bb (nf + 1 + nr) (apF (apF (apF (fun _ => (0 : Int32)) 0 gf nf) nf (fun _ => 32) 1) (nf + 1) gr nr) cs fv T164.heap n0 Z0 O SS Es Bv Bc Bn Jb (apF_B (apF_B (apF_B b0))) (by omega)) hown (hw _ (List.mem_of_getElem? (i := 167) rfl)) (hw _ (List.mem_of_getElem? (i := 168) rfl)) (notFace_of_selects (args := #[]) (mvT hZ (hw _ (List.mem_of_getElem? (i := 170) rfl)))) (hw _ (List.mem_of_getElem? (i := 170) rfl)) (hw _ (List.mem_of_getElem? (i := 169) rfl)) (hw _ (List.mem_of_getElem? (i := 96) rfl)) (hw _ (List.mem_of_getElem? (i := 171) rfl)) (by decide) rfl Ex_sb (g := (mkF m 32 #[.val (.ref x), .val (.ref fo)] [(.ref sb), (.ref ru), (.ref fo), (.ref vi), (.ref vi)])) rfl (by rw [hml]; rfl) (lenOf pd_27 rfl) rfl (W := 4) (by show 2 * 0 + _ ≤ _; exact Nat.le_of_eq rfl) (hb hby d11_32) (by decide) (by decide) (by decide) (by decide)
  obtain ⟨mo, my, rfl, N165, K165, szm, szy, Em, Vm, Cm, Jm⟩ := hQ165
  replace N0 := Fr.app N0 N165
  have nvm : vi ≠ mo := Nat.ne_of_lt (Nat.lt_of_lt_of_le Ex_vi.lt szm)
  have nvy : vi ≠ my := Nat.ne_of_lt (Nat.lt_of_lt_of_le Ex_vi.lt szy)
  replace K0 := K0.trans K165 all0
  replace Ex_vi := Ex_vi.keep K165
  replace F_field_vi := F_field_vi.keep K165 nin0
  replace F_rule_vi := F_rule_vi.keep K165 nin0
  replace F_message_vi := F_message_vi.keep K165 nin0
  replace Ex_sb := Ex_sb.keep K165
  replace O := O.keep K165 all0
  replace hk161 := Nat.le_trans hk161 K165.1
  replace Z0 := Nat.le_trans Z0 K165.1
  refine GoOn.step st165 ?_
  show GoOn p e below _ (T165.setTop (mkF m 35 #[.val (.ref x), .val (.ref fo)] [(.ref mo), (.ref ru), (.ref fo), (.ref vi), (.ref vi)]))
  obtain ⟨_, T166, L166, X166, hQ166, st166⟩ := kCallI X165 hx hZ (a := vi) (argsL := [(.ref fo), (.ref ru), (.ref mo)]) (rest := [(.ref vi)]) (c_vi l Z a0 hw vi fo ru mo T165.heap n0 Z0 Ex_vi F_field_vi F_rule_vi F_message_vi le_vi) rfl hown (hw _ (List.mem_of_getElem? (i := 209) rfl)) (hw _ (List.mem_of_getElem? (i := 210) rfl)) (hw _ (List.mem_of_getElem? (i := 93) rfl)) (hw _ (List.mem_of_getElem? (i := 211) rfl)) (by decide) rfl (g := (mkF m 35 #[.val (.ref x), .val (.ref fo)] [(.ref mo), (.ref ru), (.ref fo), (.ref vi), (.ref vi)])) rfl (by rw [hml]; rfl) (lenOf pd_28 rfl) rfl (W := 1) (by show 2 * 0 + _ ≤ _; exact Nat.le_of_eq rfl) (hb hby d11_35) (by decide) (by decide) (by decide) (by decide)
  obtain ⟨rfl, N166, K166, Ev, Wf, Wr_, Wm⟩ := hQ166
  replace N0 := Fr.app N0 N166
  replace K0 := K0.trans K166 (allS (Or.inr sz_vi) all0)
  replace Ex_sb := Ex_sb.keep K166
  replace Em := Em.keep K166
  replace Vm := Vm.keep K166 (ninS (Ne.symm nvm) nin0)
  replace Cm := Cm.keep K166 (ninS (Ne.symm nvm) nin0)
  replace Jm := Jm.keep K166 (ninS (Ne.symm nvy) nin0)
  replace hk161 := Nat.le_trans hk161 K166.1
  refine GoOn.step st166 ?_
  show GoOn p e below _ (T166.setTop (mkF m 38 #[.val (.ref x), .val (.ref fo)] [(.ref vi)]))
  exact GoOn.retRG X166 hS161 hk161 hx hrt rfl hlk rfl (hb hby d11_38) (by decide) (by decide) ⟨vi, mo, rfl, N0, K0, Ev, Wf, Wr_, Wm, Em, my, Vm, Cm, Jm.congr fun i hi => congrArg Value.int (gm_ap hi)⟩
theorem sum3 {a b : Nat} (h1 : a ≤ 2) (h2 : b ≤ 2) : (a + 1 + b).toInt32 = ((a.toInt32 + (1 : Int32)) + b.toInt32) := by
  have e : (1 : Int32) = (1 : Nat).toInt32 := by decide
  rw [e, adN (by omega), adN (by omega)]
theorem sumN {a : Nat} (h1 : a ≤ 2) : (a.toInt32 + (1 : Int32)) = (a + 1).toInt32 := by
  have e : (1 : Int32) = (1 : Nat).toInt32 := by decide
  rw [e, adN (by omega)]
theorem sumM {a : Nat} (h1 : a ≤ 2) : (a.toInt32 + (2 : Int32)) = (a + 2).toInt32 := by
  have e : (2 : Int32) = (2 : Nat).toInt32 := by decide
  rw [e, adN (by omega)]
theorem lt_of1 {a : Nat} (h1 : a ≤ 2) (q : ¬ a.toInt32 < (1 : Int32)) : 1 ≤ a := by
  rw [Int32.lt_iff_toInt_lt, toI (by omega), k1i] at q; omega
theorem lt_of2 {a : Nat} (h1 : a ≤ 2) (q : ¬ a.toInt32 < (2 : Int32)) : a = 2 := by
  rw [Int32.lt_iff_toInt_lt, toI (by omega), k2i] at q; omega
theorem lt_12 {a : Nat} (h1 : a ≤ 2) (q : a.toInt32 < (1 : Int32)) : a.toInt32 < (2 : Int32) := by
  rw [Int32.lt_iff_toInt_lt, k1i] at q; rw [Int32.lt_iff_toInt_lt, k2i]; omega
theorem ef_law_ok (m : MethodId) (x0 : Int32) (x1 : Int32) (x2 : Int32) : entryFrame m #[(.int x0), (.int x1), (.int x2)] maxLocals = mkF m 0 #[.val (.int x0), .val (.int x1), .val (.int x2), .unset, .unset, .unset, .unset, .unset, .unset, .unset, .unset, .unset, .unset] [] := by first | (simp [entryFrame, mkF, argsToLocals, Value.category, maxLocals]; done) | rfl
set_option maxRecDepth 65536 in
set_option maxHeartbeats 40000000 in
theorem law_ok (l : Launch) (Z : State) (a0 : Array Value) (hw : ∀ d ∈ tables_1, d.before a0 Z = true) (q0 q1 q2 : Int32) (cs : Int32) (fv : Value) (us sn : Value) (h0 : Heap) (n0 : Nat) (Z0 : n0 ≤ h0.size) (O : Old Z n0 h0) (SS : Stt Z cs fv) (hl : l.stackTraces = true) (TT : Tst Z us sn) :
    ConG l Z x code maxLocals ret room_1 #[(.int q0), (.int q1), (.int q2)] h0 (fun vm => CHv Z consts_1 vm h0) (fun _ _ => LQ n0) := by
  refine ConG.intro (plainFor_of_name pn_4) ?_
  intro p e s m below meth c s₁ hx hby hml hrt hlk hZ hown hnm hPv hTK hsh X0 e0
  replace hown : s.vm.findClass "com/example/ashlar_gate/ashlargate/model/InvalidValueExceptionAtPinLaw" = some m.cls := hown
  have N0 := Fr.nil n0
  have hS0 : s.Since s.vm h0.size := (State.WarmedH.refl s).since h0.size
  have hk0 : h0.size ≤ h0.size := Nat.le_refl _
  refine GoOn.cast (ef_law_ok m q0 q1 q2) ?_
  show GoOn p e below _ (s₁.setTop (mkF m 0 #[.val (.int q0), .val (.int q1), .val (.int q2), .unset, .unset, .unset, .unset, .unset, .unset, .unset, .unset, .unset, .unset] []))
  have HC : CHv Z consts_1 s.vm h0 := hPv
  refine GoOn.step (fun t₀ k₀ => XS.iloadN X0.here hx rfl (hb hby at_0) rfl k₀) ?_
  show GoOn p e below _ (s₁.setTop (mkF m 1 #[.val (.int q0), .val (.int q1), .val (.int q2), .unset, .unset, .unset, .unset, .unset, .unset, .unset, .unset, .unset, .unset] [(.int q0)]))
  obtain ⟨_, T167, L167, X167, ⟨vS167, qS167, hQ167⟩, hS167, hZ167, hO167, st167⟩ := kCallSG X0 hx hZ (argsL := [(.int q0)]) (rest := []) (c_dr l Z a0 hw q0 cs fv h0 n0 Z0 O SS) (fun vm q => (heldAt hZ (ew_1 hw) HC q).1) hS0 hk0 hTK hown (hw _ (List.mem_of_getElem? (i := 0) rfl)) (hw _ (List.mem_of_getElem? (i := 1) rfl)) (hw _ (List.mem_of_getElem? (i := 2) rfl)) (hw _ (List.mem_of_getElem? (i := 3) rfl)) (by decide) e0 (g := (mkF m 1 #[.val (.int q0), .val (.int q1), .val (.int q2), .unset, .unset, .unset, .unset, .unset, .unset, .unset, .unset, .unset, .unset] [(.int q0)])) rfl (by rw [hml]; rfl) (lenOf pd_29 rfl) rfl (W := 0) (by show 2 * 0 + _ ≤ _; exact Nat.le_of_eq rfl) (hb hby at_1) (by decide) (by decide) (by decide) (by decide)
  obtain ⟨hR167, fo, nf, gf, rfl, N167, K167, hnf, Cgf, SOf⟩ := hQ167
  have hc167 := chCall hZ (ew_1 hw) HC qS167 hR167
  replace HC := hc167.1
  replace N0 := Fr.app N0 N167
  replace O := O.keep K167 all0
  replace Z0 := Nat.le_trans Z0 K167.1
  obtain ⟨Ef, fy, Vf, Cf, Jf⟩ := SOf
  have hk167 : T167.heap.size ≤ T167.heap.size := Nat.le_refl _
  replace hZ := hZ167
  replace hown := hO167
  refine GoOn.step st167 ?_
  show GoOn p e below _ (T167.setTop (mkF m 4 #[.val (.int q0), .val (.int q1), .val (.int q2), .unset, .unset, .unset, .unset, .unset, .unset, .unset, .unset, .unset, .unset] [(.ref fo)]))
  refine GoOn.step (fun t₀ k₀ => XS.astoreN X167.here hx rfl (hb hby at_4) rfl rfl (l' := #[.val (.int q0), .val (.int q1), .val (.int q2), .val (.ref fo), .unset, .unset, .unset, .unset, .unset, .unset, .unset, .unset, .unset]) rfl k₀) ?_
  show GoOn p e below _ (T167.setTop (mkF m 5 #[.val (.int q0), .val (.int q1), .val (.int q2), .val (.ref fo), .unset, .unset, .unset, .unset, .unset, .unset, .unset, .unset, .unset] []))
  refine GoOn.step (fun t₀ k₀ => XS.iloadN X167.here hx rfl (hb hby at_5) rfl k₀) ?_
  show GoOn p e below _ (T167.setTop (mkF m 6 #[.val (.int q0), .val (.int q1), .val (.int q2), .val (.ref fo), .unset, .unset, .unset, .unset, .unset, .unset, .unset, .unset, .unset] [(.int q1)]))
  obtain ⟨_, T168, L168, X168, ⟨vS168, qS168, hQ168⟩, hS168, hZ168, hO168, st168⟩ := kCallSG X167 hx hZ (argsL := [(.int q1)]) (rest := []) (c_dr l Z a0 hw q1 cs fv T167.heap n0 Z0 O SS) (fun vm q => (heldAt hZ (ew_1 hw) HC q).1) hS167 hk167 hTK hown (hw _ (List.mem_of_getElem? (i := 0) rfl)) (hw _ (List.mem_of_getElem? (i := 1) rfl)) (hw _ (List.mem_of_getElem? (i := 2) rfl)) (hw _ (List.mem_of_getElem? (i := 3) rfl)) (by decide) rfl (g := (mkF m 6 #[.val (.int q0), .val (.int q1), .val (.int q2), .val (.ref fo), .unset, .unset, .unset, .unset, .unset, .unset, .unset, .unset, .unset] [(.int q1)])) rfl (by rw [hml]; rfl) (lenOf pd_29 rfl) rfl (W := 0) (by show 2 * 0 + _ ≤ _; exact Nat.le_of_eq rfl) (hb hby at_6) (by decide) (by decide) (by decide) (by decide)
  obtain ⟨hR168, rq, nr, gr, rfl, N168, K168, hnr, Cgr, SOr⟩ := hQ168
  have hc168 := chCall hZ (ew_1 hw) HC qS168 hR168
  replace HC := hc168.1
  replace N0 := Fr.app N0 N168
  replace Ef := Ef.keep K168
  replace Vf := Vf.keep K168 nin0
  replace Cf := Cf.keep K168 nin0
  replace Jf := Jf.keep K168 nin0
  replace O := O.keep K168 all0
  replace Z0 := Nat.le_trans Z0 K168.1
  obtain ⟨Er, ry, Vr, Cr, Jr⟩ := SOr
  have hk168 : T168.heap.size ≤ T168.heap.size := Nat.le_refl _
  replace hZ := hZ168
  replace hown := hO168
  refine GoOn.step st168 ?_
  show GoOn p e below _ (T168.setTop (mkF m 9 #[.val (.int q0), .val (.int q1), .val (.int q2), .val (.ref fo), .unset, .unset, .unset, .unset, .unset, .unset, .unset, .unset, .unset] [(.ref rq)]))
  refine GoOn.step (fun t₀ k₀ => XS.astore X168.here hx rfl (hb hby at_9) rfl rfl (l' := #[.val (.int q0), .val (.int q1), .val (.int q2), .val (.ref fo), .val (.ref rq), .unset, .unset, .unset, .unset, .unset, .unset, .unset, .unset]) rfl k₀) ?_
  show GoOn p e below _ (T168.setTop (mkF m 11 #[.val (.int q0), .val (.int q1), .val (.int q2), .val (.ref fo), .val (.ref rq), .unset, .unset, .unset, .unset, .unset, .unset, .unset, .unset] []))
  refine GoOn.step (fun t₀ k₀ => XS.iloadN X168.here hx rfl (hb hby at_11) rfl k₀) ?_
  show GoOn p e below _ (T168.setTop (mkF m 12 #[.val (.int q0), .val (.int q1), .val (.int q2), .val (.ref fo), .val (.ref rq), .unset, .unset, .unset, .unset, .unset, .unset, .unset, .unset] [(.int q2)]))
  obtain ⟨_, T169, L169, X169, ⟨vS169, qS169, hQ169⟩, hS169, hZ169, hO169, st169⟩ := kCallSG X168 hx hZ (argsL := [(.int q2)]) (rest := []) (c_dr l Z a0 hw q2 cs fv T168.heap n0 Z0 O SS) (fun vm q => (heldAt hZ (ew_1 hw) HC q).1) hS168 hk168 hTK hown (hw _ (List.mem_of_getElem? (i := 0) rfl)) (hw _ (List.mem_of_getElem? (i := 1) rfl)) (hw _ (List.mem_of_getElem? (i := 2) rfl)) (hw _ (List.mem_of_getElem? (i := 3) rfl)) (by decide) rfl (g := (mkF m 12 #[.val (.int q0), .val (.int q1), .val (.int q2), .val (.ref fo), .val (.ref rq), .unset, .unset, .unset, .unset, .unset, .unset, .unset, .unset] [(.int q2)])) rfl (by rw [hml]; rfl) (lenOf pd_29 rfl) rfl (W := 0) (by show 2 * 0 + _ ≤ _; exact Nat.le_of_eq rfl) (hb hby at_12) (by decide) (by decide) (by decide) (by decide)
  obtain ⟨hR169, ru, nu, gu, rfl, N169, K169, hnu, Cgu, SOu⟩ := hQ169
  have hc169 := chCall hZ (ew_1 hw) HC qS169 hR169
  replace HC := hc169.1
  replace N0 := Fr.app N0 N169
  replace Ef := Ef.keep K169
  replace Vf := Vf.keep K169 nin0
  replace Cf := Cf.keep K169 nin0
  replace Jf := Jf.keep K169 nin0
  replace Er := Er.keep K169
  replace Vr := Vr.keep K169 nin0
  replace Cr := Cr.keep K169 nin0
  replace Jr := Jr.keep K169 nin0
  replace O := O.keep K169 all0
  replace Z0 := Nat.le_trans Z0 K169.1
  obtain ⟨Eu, uy, Vu, Cu, Ju⟩ := SOu
  have hk169 : T169.heap.size ≤ T169.heap.size := Nat.le_refl _
  replace hZ := hZ169
  replace hown := hO169
  refine GoOn.step st169 ?_
  show GoOn p e below _ (T169.setTop (mkF m 15 #[.val (.int q0), .val (.int q1), .val (.int q2), .val (.ref fo), .val (.ref rq), .unset, .unset, .unset, .unset, .unset, .unset, .unset, .unset] [(.ref ru)]))
  refine GoOn.step (fun t₀ k₀ => XS.astore X169.here hx rfl (hb hby at_15) rfl rfl (l' := #[.val (.int q0), .val (.int q1), .val (.int q2), .val (.ref fo), .val (.ref rq), .val (.ref ru), .unset, .unset, .unset, .unset, .unset, .unset, .unset]) rfl k₀) ?_
  show GoOn p e below _ (T169.setTop (mkF m 17 #[.val (.int q0), .val (.int q1), .val (.int q2), .val (.ref fo), .val (.ref rq), .val (.ref ru), .unset, .unset, .unset, .unset, .unset, .unset, .unset] []))
  obtain ⟨T170, h170, X170, e170, E170, A170, D170, Un_x, st170⟩ := newO X169 hx hZ hown (hw _ (List.mem_of_getElem? (i := 30) rfl)) (hw _ (List.mem_of_getElem? (i := 31) rfl)) (hw _ (List.mem_of_getElem? (i := 32) rfl)) rfl (g := (mkF m 17 #[.val (.int q0), .val (.int q1), .val (.int q2), .val (.ref fo), .val (.ref rq), .val (.ref ru), .unset, .unset, .unset, .unset, .unset, .unset, .unset] [])) rfl (hb hby at_17) (by decide) (by decide)
  obtain ⟨x, g170⟩ : ∃ z, z = T169.heap.size := ⟨_, rfl⟩
  rw [← g170] at A170 D170 st170 Un_x
  have lt_fo_x : fo < x := by rw [g170]; exact Ef.lt
  have ne_fo_x : fo ≠ x := Nat.ne_of_lt lt_fo_x
  have lt_fy_x : fy < x := by rw [g170]; exact Jf.lt
  have ne_fy_x : fy ≠ x := Nat.ne_of_lt lt_fy_x
  have lt_rq_x : rq < x := by rw [g170]; exact Er.lt
  have ne_rq_x : rq ≠ x := Nat.ne_of_lt lt_rq_x
  have lt_ry_x : ry < x := by rw [g170]; exact Jr.lt
  have ne_ry_x : ry ≠ x := Nat.ne_of_lt lt_ry_x
  have lt_ru_x : ru < x := by rw [g170]; exact Eu.lt
  have ne_ru_x : ru ≠ x := Nat.ne_of_lt lt_ru_x
  have lt_uy_x : uy < x := by rw [g170]; exact Ju.lt
  have ne_uy_x : uy ≠ x := Nat.ne_of_lt lt_uy_x
  have le_x : n0 ≤ x := by rw [g170]; exact Z0
  replace HC := HC.ext E170
  replace Ef := Ef.ext E170
  replace Vf := Vf.ext E170
  replace Cf := Cf.ext E170
  replace Jf := Jf.ext E170
  replace Er := Er.ext E170
  replace Vr := Vr.ext E170
  replace Cr := Cr.ext E170
  replace Jr := Jr.ext E170
  replace Eu := Eu.ext E170
  replace Vu := Vu.ext E170
  replace Cu := Cu.ext E170
  replace Ju := Ju.ext E170
  replace O := O.ext E170
  replace hk169 := Nat.le_trans hk169 E170.1
  replace Z0 := Nat.le_trans Z0 E170.1
  have Ex_x : Exa Z h170 x "com/example/ashlar_gate/ashlargate/model/InvalidValueException" := A170
  have F_cause_x : Fld Z h170 x "java/lang/Throwable" "cause" "Ljava/lang/Throwable;" .null := D170 (Or.inl (hw _ (List.mem_of_getElem? (i := 49) rfl))) (ty := (.object "java/lang/Throwable")) (by decide)
  have F_stackTrace_x : Fld Z h170 x "java/lang/Throwable" "stackTrace" "[Ljava/lang/StackTraceElement;" .null := D170 (Or.inl (hw _ (List.mem_of_getElem? (i := 52) rfl))) (ty := (.array (.object "java/lang/StackTraceElement"))) (by decide)
  have F_suppressedExceptions_x : Fld Z h170 x "java/lang/Throwable" "suppressedExceptions" "Ljava/util/List;" .null := D170 (Or.inl (hw _ (List.mem_of_getElem? (i := 55) rfl))) (ty := (.object "java/util/List")) (by decide)
  have F_detailMessage_x : Fld Z h170 x "java/lang/Throwable" "detailMessage" "Ljava/lang/String;" .null := D170 (Or.inl (hw _ (List.mem_of_getElem? (i := 79) rfl))) (ty := (.object "java/lang/String")) (by decide)
  have F_backtrace_x : Fld Z h170 x "java/lang/Throwable" "backtrace" "Ljava/lang/Object;" .null := D170 (Or.inl (hw _ (List.mem_of_getElem? (i := 80) rfl))) (ty := (.object "java/lang/Object")) (by decide)
  have F_depth_x : Fld Z h170 x "java/lang/Throwable" "depth" "I" (.int (0 : Int32)) := D170 (Or.inl (hw _ (List.mem_of_getElem? (i := 81) rfl))) (ty := .int) (by decide)
  have F_rule_x : Fld Z h170 x "com/example/ashlar_gate/ashlargate/model/InvalidValueException" "rule" "Ljava/lang/String;" .null := D170 (Or.inr (hw _ (List.mem_of_getElem? (i := 85) rfl))) (ty := (.object "java/lang/String")) (by decide)
  refine GoOn.step st170 ?_
  show GoOn p e below _ (T170.setTop (mkF m 20 #[.val (.int q0), .val (.int q1), .val (.int q2), .val (.ref fo), .val (.ref rq), .val (.ref ru), .unset, .unset, .unset, .unset, .unset, .unset, .unset] [(.ref x)]))
  refine GoOn.step (fun t₀ k₀ => XS.dup X170.here hx rfl (hb hby at_20) rfl rfl k₀) ?_
  show GoOn p e below _ (T170.setTop (mkF m 21 #[.val (.int q0), .val (.int q1), .val (.int q2), .val (.ref fo), .val (.ref rq), .val (.ref ru), .unset, .unset, .unset, .unset, .unset, .unset, .unset] [(.ref x), (.ref x)]))
  refine GoOn.step (fun t₀ k₀ => XS.aload X170.here hx rfl (hb hby at_21) rfl rfl k₀) ?_
  show GoOn p e below _ (T170.setTop (mkF m 23 #[.val (.int q0), .val (.int q1), .val (.int q2), .val (.ref fo), .val (.ref rq), .val (.ref ru), .unset, .unset, .unset, .unset, .unset, .unset, .unset] [(.ref ru), (.ref x), (.ref x)]))
  refine GoOn.step (fun t₀ k₀ => XS.aload X170.here hx rfl (hb hby at_23) rfl rfl k₀) ?_
  show GoOn p e below _ (T170.setTop (mkF m 25 #[.val (.int q0), .val (.int q1), .val (.int q2), .val (.ref fo), .val (.ref rq), .val (.ref ru), .unset, .unset, .unset, .unset, .unset, .unset, .unset] [(.ref rq), (.ref ru), (.ref x), (.ref x)]))
  obtain ⟨_, T171, L171, X171, hQ171, st171⟩ := kCallIK X170 hx hZ (a := x) (argsL := [(.ref ru), (.ref rq)]) (rest := [(.ref x)]) (c_ex l Z a0 hw x ru rq us sn h170 n0 Z0 O hl TT ⟨Ex_x, Un_x, F_cause_x, F_stackTrace_x, F_suppressedExceptions_x, F_backtrace_x, F_detailMessage_x, F_rule_x⟩ le_x) (knAt hS169 hTK) rfl hown (hw _ (List.mem_of_getElem? (i := 33) rfl)) (hw _ (List.mem_of_getElem? (i := 34) rfl)) (hw _ (List.mem_of_getElem? (i := 32) rfl)) (hw _ (List.mem_of_getElem? (i := 35) rfl)) (by decide) e170 (g := (mkF m 25 #[.val (.int q0), .val (.int q1), .val (.int q2), .val (.ref fo), .val (.ref rq), .val (.ref ru), .unset, .unset, .unset, .unset, .unset, .unset, .unset] [(.ref rq), (.ref ru), (.ref x), (.ref x)])) rfl (by rw [hml]; rfl) (lenOf pd_30 rfl) rfl (W := 1) (by show 2 * 0 + _ ≤ _; exact Nat.le_of_eq rfl) (hb hby at_25) (by decide) (by decide) (by decide) (by decide)
  obtain ⟨rfl, N171, K171, Ey, Fdm, Fru⟩ := hQ171
  replace N0 := Fr.app N0 N171
  have sw172 : ∀ z_ ∈ ([x] : List Addr), Safe Z consts_1 T169.vm h170 z_ := (allS (Safe.exa hZ.alike Ex_x (by decide) (by decide)) all0)
  replace HC := HC.keep K171 sw172
  replace Ef := Ef.keep K171
  replace Vf := Vf.keep K171 (ninS ne_fo_x nin0)
  replace Cf := Cf.keep K171 (ninS ne_fo_x nin0)
  replace Jf := Jf.keep K171 (ninS ne_fy_x nin0)
  replace Er := Er.keep K171
  replace Vr := Vr.keep K171 (ninS ne_rq_x nin0)
  replace Cr := Cr.keep K171 (ninS ne_rq_x nin0)
  replace Jr := Jr.keep K171 (ninS ne_ry_x nin0)
  replace Eu := Eu.keep K171
  replace Vu := Vu.keep K171 (ninS ne_ru_x nin0)
  replace Cu := Cu.keep K171 (ninS ne_ru_x nin0)
  replace Ju := Ju.keep K171 (ninS ne_uy_x nin0)
  replace Ex_x := Ex_x.keep K171
  clear F_cause_x
  clear F_stackTrace_x
  clear F_suppressedExceptions_x
  clear F_detailMessage_x
  clear F_backtrace_x
  clear F_depth_x
  clear F_rule_x
  replace O := O.keep K171 (allS le_x all0)
  replace hk169 := Nat.le_trans hk169 K171.1
  replace Z0 := Nat.le_trans Z0 K171.1
  refine GoOn.step st171 ?_
  show GoOn p e below _ (T171.setTop (mkF m 28 #[.val (.int q0), .val (.int q1), .val (.int q2), .val (.ref fo), .val (.ref rq), .val (.ref ru), .unset, .unset, .unset, .unset, .unset, .unset, .unset] [(.ref x)]))
  refine GoOn.step (fun t₀ k₀ => XS.astore X171.here hx rfl (hb hby at_28) rfl rfl (l' := #[.val (.int q0), .val (.int q1), .val (.int q2), .val (.ref fo), .val (.ref rq), .val (.ref ru), .val (.ref x), .unset, .unset, .unset, .unset, .unset, .unset]) rfl k₀) ?_
  show GoOn p e below _ (T171.setTop (mkF m 30 #[.val (.int q0), .val (.int q1), .val (.int q2), .val (.ref fo), .val (.ref rq), .val (.ref ru), .val (.ref x), .unset, .unset, .unset, .unset, .unset, .unset] []))
  refine GoOn.step (fun t₀ k₀ => XS.aload X171.here hx rfl (hb hby at_30) rfl rfl k₀) ?_
  show GoOn p e below _ (T171.setTop (mkF m 32 #[.val (.int q0), .val (.int q1), .val (.int q2), .val (.ref fo), .val (.ref rq), .val (.ref ru), .val (.ref x), .unset, .unset, .unset, .unset, .unset, .unset] [(.ref x)]))
  refine GoOn.step (fun t₀ k₀ => XS.aloadN X171.here hx rfl (hb hby at_32) rfl rfl k₀) ?_
  show GoOn p e below _ (T171.setTop (mkF m 33 #[.val (.int q0), .val (.int q1), .val (.int q2), .val (.ref fo), .val (.ref rq), .val (.ref ru), .val (.ref x), .unset, .unset, .unset, .unset, .unset, .unset] [(.ref fo), (.ref x)]))
  obtain ⟨_, T173, L173, X173, ⟨vS173, qS173, hQ173⟩, hS173, hZ173, hO173, st173⟩ := kCallVG X171 hx hZ (a := x) (argsL := [(.ref fo)]) (rest := []) (c_iat l Z a0 hw x fo ru rq nf nr gf gr cs fv T171.heap n0 Z0 O SS Ey Fdm Fru ⟨Ef, fy, Vf, Cf, Jf⟩ ⟨Er, ry, Vr, Cr, Jr⟩ hnf hnr) (fun vm q => (heldAt hZ (ew_1 hw) HC q).1) hS169 hk169 hTK hown (hw _ (List.mem_of_getElem? (i := 86) rfl)) (hw _ (List.mem_of_getElem? (i := 87) rfl)) (notFace_of_selects (args := #[]) (mvT hZ (hw _ (List.mem_of_getElem? (i := 89) rfl)))) (hw _ (List.mem_of_getElem? (i := 89) rfl)) (hw _ (List.mem_of_getElem? (i := 88) rfl)) (hw _ (List.mem_of_getElem? (i := 32) rfl)) (hw _ (List.mem_of_getElem? (i := 90) rfl)) (by decide) rfl Ex_x (g := (mkF m 33 #[.val (.int q0), .val (.int q1), .val (.int q2), .val (.ref fo), .val (.ref rq), .val (.ref ru), .val (.ref x), .unset, .unset, .unset, .unset, .unset, .unset] [(.ref fo), (.ref x)])) rfl (by rw [hml]; rfl) (lenOf pd_31 rfl) rfl (W := 0) (by show 2 * 0 + _ ≤ _; exact Nat.le_of_eq rfl) (hb hby at_33) (by decide) (by decide) (by decide) (by decide)
  obtain ⟨vi, mo, rfl, N173, K173, Ev, Wf, Wr_, Wm, SOm⟩ := hQ173
  replace N0 := Fr.app N0 N173
  replace Ef := Ef.keep K173
  replace Vf := Vf.keep K173 nin0
  replace Cf := Cf.keep K173 nin0
  replace Jf := Jf.keep K173 nin0
  replace Er := Er.keep K173
  replace Vr := Vr.keep K173 nin0
  replace Cr := Cr.keep K173 nin0
  replace Jr := Jr.keep K173 nin0
  replace Eu := Eu.keep K173
  replace Vu := Vu.keep K173 nin0
  replace Cu := Cu.keep K173 nin0
  replace Ju := Ju.keep K173 nin0
  replace Ex_x := Ex_x.keep K173
  replace Ey := Ey.keep K173
  replace O := O.keep K173 all0
  replace Z0 := Nat.le_trans Z0 K173.1
  obtain ⟨Em, my, Vm, Cm, Jm⟩ := SOm
  have hk173 : T173.heap.size ≤ T173.heap.size := Nat.le_refl _
  replace hZ := hZ173
  replace hown := hO173
  refine GoOn.step st173 ?_
  show GoOn p e below _ (T173.setTop (mkF m 36 #[.val (.int q0), .val (.int q1), .val (.int q2), .val (.ref fo), .val (.ref rq), .val (.ref ru), .val (.ref x), .unset, .unset, .unset, .unset, .unset, .unset] [(.ref vi)]))
  refine GoOn.step (fun t₀ k₀ => XS.astore X173.here hx rfl (hb hby at_36) rfl rfl (l' := #[.val (.int q0), .val (.int q1), .val (.int q2), .val (.ref fo), .val (.ref rq), .val (.ref ru), .val (.ref x), .val (.ref vi), .unset, .unset, .unset, .unset, .unset]) rfl k₀) ?_
  show GoOn p e below _ (T173.setTop (mkF m 38 #[.val (.int q0), .val (.int q1), .val (.int q2), .val (.ref fo), .val (.ref rq), .val (.ref ru), .val (.ref x), .val (.ref vi), .unset, .unset, .unset, .unset, .unset] []))
  refine GoOn.step (fun t₀ k₀ => XS.aload X173.here hx rfl (hb hby at_38) rfl rfl k₀) ?_
  show GoOn p e below _ (T173.setTop (mkF m 40 #[.val (.int q0), .val (.int q1), .val (.int q2), .val (.ref fo), .val (.ref rq), .val (.ref ru), .val (.ref x), .val (.ref vi), .unset, .unset, .unset, .unset, .unset] [(.ref vi)]))
  refine GoOn.step (fun t₀ k₀ => XS.ifnonnullYes X173.here hx rfl (pc0 := 40) (pc' := 45) rfl (hb hby at_40) rfl (by decide) (by decide) k₀) ?_
  show GoOn p e below _ (T173.setTop (mkF m 45 #[.val (.int q0), .val (.int q1), .val (.int q2), .val (.ref fo), .val (.ref rq), .val (.ref ru), .val (.ref x), .val (.ref vi), .unset, .unset, .unset, .unset, .unset] []))
  refine GoOn.step (fun t₀ k₀ => XS.aload X173.here hx rfl (hb hby at_45) rfl rfl k₀) ?_
  show GoOn p e below _ (T173.setTop (mkF m 47 #[.val (.int q0), .val (.int q1), .val (.int q2), .val (.ref fo), .val (.ref rq), .val (.ref ru), .val (.ref x), .val (.ref vi), .unset, .unset, .unset, .unset, .unset] [(.ref vi)]))
  obtain ⟨_, T174, L174, X174, hQ174, st174⟩ := kCallV X173 hx hZ (a := vi) (argsL := []) (rest := []) (c_vf l Z a0 hw vi fo T173.heap Wf) hown (hw _ (List.mem_of_getElem? (i := 224) rfl)) (hw _ (List.mem_of_getElem? (i := 225) rfl)) (notFace_of_selects (args := #[]) (mvT hZ (hw _ (List.mem_of_getElem? (i := 227) rfl)))) (hw _ (List.mem_of_getElem? (i := 227) rfl)) (hw _ (List.mem_of_getElem? (i := 226) rfl)) (hw _ (List.mem_of_getElem? (i := 93) rfl)) (hw _ (List.mem_of_getElem? (i := 228) rfl)) (by decide) rfl Ev (g := (mkF m 47 #[.val (.int q0), .val (.int q1), .val (.int q2), .val (.ref fo), .val (.ref rq), .val (.ref ru), .val (.ref x), .val (.ref vi), .unset, .unset, .unset, .unset, .unset] [(.ref vi)])) rfl (by rw [hml]; rfl) (lenOf pd_27 rfl) rfl (W := 0) (by show 2 * 0 + _ ≤ _; exact Nat.le_of_eq rfl) (hb hby at_47) (by decide) (by decide) (by decide) (by decide)
  obtain ⟨rfl, rfl, e174⟩ := hQ174
  rw [List.append_nil] at X174
  refine GoOn.step st174 ?_
  show GoOn p e below _ (T174.setTop (mkF m 50 #[.val (.int q0), .val (.int q1), .val (.int q2), .val (.ref fo), .val (.ref rq), .val (.ref ru), .val (.ref x), .val (.ref vi), .unset, .unset, .unset, .unset, .unset] [(.ref fo)]))
  refine GoOn.step (fun t₀ k₀ => XS.astore X174.here hx rfl (hb hby at_50) rfl rfl (l' := #[.val (.int q0), .val (.int q1), .val (.int q2), .val (.ref fo), .val (.ref rq), .val (.ref ru), .val (.ref x), .val (.ref vi), .val (.ref fo), .unset, .unset, .unset, .unset]) rfl k₀) ?_
  show GoOn p e below _ (T174.setTop (mkF m 52 #[.val (.int q0), .val (.int q1), .val (.int q2), .val (.ref fo), .val (.ref rq), .val (.ref ru), .val (.ref x), .val (.ref vi), .val (.ref fo), .unset, .unset, .unset, .unset] []))
  refine GoOn.step (fun t₀ k₀ => XS.aload X174.here hx rfl (hb hby at_52) rfl rfl k₀) ?_
  show GoOn p e below _ (T174.setTop (mkF m 54 #[.val (.int q0), .val (.int q1), .val (.int q2), .val (.ref fo), .val (.ref rq), .val (.ref ru), .val (.ref x), .val (.ref vi), .val (.ref fo), .unset, .unset, .unset, .unset] [(.ref vi)]))
  obtain ⟨_, T175, L175, X175, hQ175, st175⟩ := kCallV X174 hx hZ (a := vi) (argsL := []) (rest := []) (c_vr l Z a0 hw vi ru T173.heap Wr_) hown (hw _ (List.mem_of_getElem? (i := 229) rfl)) (hw _ (List.mem_of_getElem? (i := 230) rfl)) (notFace_of_selects (args := #[]) (mvT hZ (hw _ (List.mem_of_getElem? (i := 232) rfl)))) (hw _ (List.mem_of_getElem? (i := 232) rfl)) (hw _ (List.mem_of_getElem? (i := 231) rfl)) (hw _ (List.mem_of_getElem? (i := 93) rfl)) (hw _ (List.mem_of_getElem? (i := 233) rfl)) (by decide) e174 Ev (g := (mkF m 54 #[.val (.int q0), .val (.int q1), .val (.int q2), .val (.ref fo), .val (.ref rq), .val (.ref ru), .val (.ref x), .val (.ref vi), .val (.ref fo), .unset, .unset, .unset, .unset] [(.ref vi)])) rfl (by rw [hml]; rfl) (lenOf pd_27 rfl) rfl (W := 0) (by show 2 * 0 + _ ≤ _; exact Nat.le_of_eq rfl) (hb hby at_54) (by decide) (by decide) (by decide) (by decide)
  obtain ⟨rfl, rfl, e175⟩ := hQ175
  rw [List.append_nil] at X175
  refine GoOn.step st175 ?_
  show GoOn p e below _ (T175.setTop (mkF m 57 #[.val (.int q0), .val (.int q1), .val (.int q2), .val (.ref fo), .val (.ref rq), .val (.ref ru), .val (.ref x), .val (.ref vi), .val (.ref fo), .unset, .unset, .unset, .unset] [(.ref ru)]))
  refine GoOn.step (fun t₀ k₀ => XS.astore X175.here hx rfl (hb hby at_57) rfl rfl (l' := #[.val (.int q0), .val (.int q1), .val (.int q2), .val (.ref fo), .val (.ref rq), .val (.ref ru), .val (.ref x), .val (.ref vi), .val (.ref fo), .val (.ref ru), .unset, .unset, .unset]) rfl k₀) ?_
  show GoOn p e below _ (T175.setTop (mkF m 59 #[.val (.int q0), .val (.int q1), .val (.int q2), .val (.ref fo), .val (.ref rq), .val (.ref ru), .val (.ref x), .val (.ref vi), .val (.ref fo), .val (.ref ru), .unset, .unset, .unset] []))
  refine GoOn.step (fun t₀ k₀ => XS.aload X175.here hx rfl (hb hby at_59) rfl rfl k₀) ?_
  show GoOn p e below _ (T175.setTop (mkF m 61 #[.val (.int q0), .val (.int q1), .val (.int q2), .val (.ref fo), .val (.ref rq), .val (.ref ru), .val (.ref x), .val (.ref vi), .val (.ref fo), .val (.ref ru), .unset, .unset, .unset] [(.ref vi)]))
  obtain ⟨_, T176, L176, X176, hQ176, st176⟩ := kCallV X175 hx hZ (a := vi) (argsL := []) (rest := []) (c_vm l Z a0 hw vi mo T173.heap Wm) hown (hw _ (List.mem_of_getElem? (i := 234) rfl)) (hw _ (List.mem_of_getElem? (i := 235) rfl)) (notFace_of_selects (args := #[]) (mvT hZ (hw _ (List.mem_of_getElem? (i := 237) rfl)))) (hw _ (List.mem_of_getElem? (i := 237) rfl)) (hw _ (List.mem_of_getElem? (i := 236) rfl)) (hw _ (List.mem_of_getElem? (i := 93) rfl)) (hw _ (List.mem_of_getElem? (i := 238) rfl)) (by decide) e175 Ev (g := (mkF m 61 #[.val (.int q0), .val (.int q1), .val (.int q2), .val (.ref fo), .val (.ref rq), .val (.ref ru), .val (.ref x), .val (.ref vi), .val (.ref fo), .val (.ref ru), .unset, .unset, .unset] [(.ref vi)])) rfl (by rw [hml]; rfl) (lenOf pd_27 rfl) rfl (W := 0) (by show 2 * 0 + _ ≤ _; exact Nat.le_of_eq rfl) (hb hby at_61) (by decide) (by decide) (by decide) (by decide)
  obtain ⟨rfl, rfl, e176⟩ := hQ176
  rw [List.append_nil] at X176
  refine GoOn.step st176 ?_
  show GoOn p e below _ (T176.setTop (mkF m 64 #[.val (.int q0), .val (.int q1), .val (.int q2), .val (.ref fo), .val (.ref rq), .val (.ref ru), .val (.ref x), .val (.ref vi), .val (.ref fo), .val (.ref ru), .unset, .unset, .unset] [(.ref mo)]))
  refine GoOn.step (fun t₀ k₀ => XS.astore X176.here hx rfl (hb hby at_64) rfl rfl (l' := #[.val (.int q0), .val (.int q1), .val (.int q2), .val (.ref fo), .val (.ref rq), .val (.ref ru), .val (.ref x), .val (.ref vi), .val (.ref fo), .val (.ref ru), .val (.ref mo), .unset, .unset]) rfl k₀) ?_
  show GoOn p e below _ (T176.setTop (mkF m 66 #[.val (.int q0), .val (.int q1), .val (.int q2), .val (.ref fo), .val (.ref rq), .val (.ref ru), .val (.ref x), .val (.ref vi), .val (.ref fo), .val (.ref ru), .val (.ref mo), .unset, .unset] []))
  refine GoOn.step (fun t₀ k₀ => XS.aload X176.here hx rfl (hb hby at_66) rfl rfl k₀) ?_
  show GoOn p e below _ (T176.setTop (mkF m 68 #[.val (.int q0), .val (.int q1), .val (.int q2), .val (.ref fo), .val (.ref rq), .val (.ref ru), .val (.ref x), .val (.ref vi), .val (.ref fo), .val (.ref ru), .val (.ref mo), .unset, .unset] [(.ref fo)]))
  refine GoOn.step (fun t₀ k₀ => XS.ifnullNo X176.here hx rfl (hb hby at_68) rfl k₀) ?_
  show GoOn p e below _ (T176.setTop (mkF m 71 #[.val (.int q0), .val (.int q1), .val (.int q2), .val (.ref fo), .val (.ref rq), .val (.ref ru), .val (.ref x), .val (.ref vi), .val (.ref fo), .val (.ref ru), .val (.ref mo), .unset, .unset] []))
  refine GoOn.step (fun t₀ k₀ => XS.aload X176.here hx rfl (hb hby at_71) rfl rfl k₀) ?_
  show GoOn p e below _ (T176.setTop (mkF m 73 #[.val (.int q0), .val (.int q1), .val (.int q2), .val (.ref fo), .val (.ref rq), .val (.ref ru), .val (.ref x), .val (.ref vi), .val (.ref fo), .val (.ref ru), .val (.ref mo), .unset, .unset] [(.ref ru)]))
  refine GoOn.step (fun t₀ k₀ => XS.ifnullNo X176.here hx rfl (hb hby at_73) rfl k₀) ?_
  show GoOn p e below _ (T176.setTop (mkF m 76 #[.val (.int q0), .val (.int q1), .val (.int q2), .val (.ref fo), .val (.ref rq), .val (.ref ru), .val (.ref x), .val (.ref vi), .val (.ref fo), .val (.ref ru), .val (.ref mo), .unset, .unset] []))
  refine GoOn.step (fun t₀ k₀ => XS.aload X176.here hx rfl (hb hby at_76) rfl rfl k₀) ?_
  show GoOn p e below _ (T176.setTop (mkF m 78 #[.val (.int q0), .val (.int q1), .val (.int q2), .val (.ref fo), .val (.ref rq), .val (.ref ru), .val (.ref x), .val (.ref vi), .val (.ref fo), .val (.ref ru), .val (.ref mo), .unset, .unset] [(.ref mo)]))
  refine GoOn.step (fun t₀ k₀ => XS.ifnonnullYes X176.here hx rfl (pc0 := 78) (pc' := 83) rfl (hb hby at_78) rfl (by decide) (by decide) k₀) ?_
  show GoOn p e below _ (T176.setTop (mkF m 83 #[.val (.int q0), .val (.int q1), .val (.int q2), .val (.ref fo), .val (.ref rq), .val (.ref ru), .val (.ref x), .val (.ref vi), .val (.ref fo), .val (.ref ru), .val (.ref mo), .unset, .unset] []))
  refine GoOn.step (fun t₀ k₀ => XS.aload X176.here hx rfl (hb hby at_83) rfl rfl k₀) ?_
  show GoOn p e below _ (T176.setTop (mkF m 85 #[.val (.int q0), .val (.int q1), .val (.int q2), .val (.ref fo), .val (.ref rq), .val (.ref ru), .val (.ref x), .val (.ref vi), .val (.ref fo), .val (.ref ru), .val (.ref mo), .unset, .unset] [(.ref fo)]))
  refine GoOn.step (fun t₀ k₀ => XS.aloadN X176.here hx rfl (hb hby at_85) rfl rfl k₀) ?_
  show GoOn p e below _ (T176.setTop (mkF m 86 #[.val (.int q0), .val (.int q1), .val (.int q2), .val (.ref fo), .val (.ref rq), .val (.ref ru), .val (.ref x), .val (.ref vi), .val (.ref fo), .val (.ref ru), .val (.ref mo), .unset, .unset] [(.ref fo), (.ref fo)]))
  obtain ⟨_, T177, L177, X177, hQ177, st177⟩ := kCallV X176 hx hZ (a := fo) (argsL := [(.ref fo)]) (rest := []) (c_eq l Z a0 hw fo T173.heap) hown (hw _ (List.mem_of_getElem? (i := 239) rfl)) (hw _ (List.mem_of_getElem? (i := 240) rfl)) (notFace_of_selects (args := #[]) (mvT hZ (hw _ (List.mem_of_getElem? (i := 242) rfl)))) (hw _ (List.mem_of_getElem? (i := 242) rfl)) (hw _ (List.mem_of_getElem? (i := 241) rfl)) (hw _ (List.mem_of_getElem? (i := 10) rfl)) (hw _ (List.mem_of_getElem? (i := 243) rfl)) (by decide) e176 Ef (g := (mkF m 86 #[.val (.int q0), .val (.int q1), .val (.int q2), .val (.ref fo), .val (.ref rq), .val (.ref ru), .val (.ref x), .val (.ref vi), .val (.ref fo), .val (.ref ru), .val (.ref mo), .unset, .unset] [(.ref fo), (.ref fo)])) rfl (by rw [hml]; rfl) (lenOf pd_32 rfl) rfl (W := 0) (by show 2 * 0 + _ ≤ _; exact Nat.le_of_eq rfl) (hb hby at_86) (by decide) (by decide) (by decide) (by decide)
  obtain ⟨rfl, rfl, e177⟩ := hQ177
  rw [List.append_nil] at X177
  refine GoOn.step st177 ?_
  show GoOn p e below _ (T177.setTop (mkF m 89 #[.val (.int q0), .val (.int q1), .val (.int q2), .val (.ref fo), .val (.ref rq), .val (.ref ru), .val (.ref x), .val (.ref vi), .val (.ref fo), .val (.ref ru), .val (.ref mo), .unset, .unset] [(.int (1 : Int32))]))
  have hf178 : ¬ ((1 : Int32) = (0 : Int32)) := (by decide)
  refine GoOn.step (fun t₀ k₀ => XS.ifYes X177.here hx rfl (pc0 := 89) (pc' := 94) rfl (hb hby at_89) rfl ((if0 _ _).trans (feq hf178).2) (by decide) (by decide) k₀) ?_
  show GoOn p e below _ (T177.setTop (mkF m 94 #[.val (.int q0), .val (.int q1), .val (.int q2), .val (.ref fo), .val (.ref rq), .val (.ref ru), .val (.ref x), .val (.ref vi), .val (.ref fo), .val (.ref ru), .val (.ref mo), .unset, .unset] []))
  refine GoOn.step (fun t₀ k₀ => XS.aload X177.here hx rfl (hb hby at_94) rfl rfl k₀) ?_
  show GoOn p e below _ (T177.setTop (mkF m 96 #[.val (.int q0), .val (.int q1), .val (.int q2), .val (.ref fo), .val (.ref rq), .val (.ref ru), .val (.ref x), .val (.ref vi), .val (.ref fo), .val (.ref ru), .val (.ref mo), .unset, .unset] [(.ref ru)]))
  refine GoOn.step (fun t₀ k₀ => XS.aload X177.here hx rfl (hb hby at_96) rfl rfl k₀) ?_
  show GoOn p e below _ (T177.setTop (mkF m 98 #[.val (.int q0), .val (.int q1), .val (.int q2), .val (.ref fo), .val (.ref rq), .val (.ref ru), .val (.ref x), .val (.ref vi), .val (.ref fo), .val (.ref ru), .val (.ref mo), .unset, .unset] [(.ref ru), (.ref ru)]))
  obtain ⟨_, T179, L179, X179, hQ179, st179⟩ := kCallV X177 hx hZ (a := ru) (argsL := [(.ref ru)]) (rest := []) (c_eq l Z a0 hw ru T173.heap) hown (hw _ (List.mem_of_getElem? (i := 239) rfl)) (hw _ (List.mem_of_getElem? (i := 240) rfl)) (notFace_of_selects (args := #[]) (mvT hZ (hw _ (List.mem_of_getElem? (i := 242) rfl)))) (hw _ (List.mem_of_getElem? (i := 242) rfl)) (hw _ (List.mem_of_getElem? (i := 241) rfl)) (hw _ (List.mem_of_getElem? (i := 10) rfl)) (hw _ (List.mem_of_getElem? (i := 243) rfl)) (by decide) e177 Eu (g := (mkF m 98 #[.val (.int q0), .val (.int q1), .val (.int q2), .val (.ref fo), .val (.ref rq), .val (.ref ru), .val (.ref x), .val (.ref vi), .val (.ref fo), .val (.ref ru), .val (.ref mo), .unset, .unset] [(.ref ru), (.ref ru)])) rfl (by rw [hml]; rfl) (lenOf pd_32 rfl) rfl (W := 0) (by show 2 * 0 + _ ≤ _; exact Nat.le_of_eq rfl) (hb hby at_98) (by decide) (by decide) (by decide) (by decide)
  obtain ⟨rfl, rfl, e179⟩ := hQ179
  rw [List.append_nil] at X179
  refine GoOn.step st179 ?_
  show GoOn p e below _ (T179.setTop (mkF m 101 #[.val (.int q0), .val (.int q1), .val (.int q2), .val (.ref fo), .val (.ref rq), .val (.ref ru), .val (.ref x), .val (.ref vi), .val (.ref fo), .val (.ref ru), .val (.ref mo), .unset, .unset] [(.int (1 : Int32))]))
  have hf180 : ¬ ((1 : Int32) = (0 : Int32)) := (by decide)
  refine GoOn.step (fun t₀ k₀ => XS.ifYes X179.here hx rfl (pc0 := 101) (pc' := 106) rfl (hb hby at_101) rfl ((if0 _ _).trans (feq hf180).2) (by decide) (by decide) k₀) ?_
  show GoOn p e below _ (T179.setTop (mkF m 106 #[.val (.int q0), .val (.int q1), .val (.int q2), .val (.ref fo), .val (.ref rq), .val (.ref ru), .val (.ref x), .val (.ref vi), .val (.ref fo), .val (.ref ru), .val (.ref mo), .unset, .unset] []))
  refine GoOn.step (fun t₀ k₀ => XS.aloadN X179.here hx rfl (hb hby at_106) rfl rfl k₀) ?_
  show GoOn p e below _ (T179.setTop (mkF m 107 #[.val (.int q0), .val (.int q1), .val (.int q2), .val (.ref fo), .val (.ref rq), .val (.ref ru), .val (.ref x), .val (.ref vi), .val (.ref fo), .val (.ref ru), .val (.ref mo), .unset, .unset] [(.ref fo)]))
  obtain ⟨_, T181, L181, X181, hQ181, st181⟩ := kCallV X179 hx hZ (a := fo) (argsL := []) (rest := []) (c_len l Z a0 hw fo nf (fun i => laB (gf i)) cs fv T173.heap n0 O SS ⟨Ef, fy, Vf, Cf, Jf⟩ (by omega)) hown (hw _ (List.mem_of_getElem? (i := 244) rfl)) (hw _ (List.mem_of_getElem? (i := 123) rfl)) (notFace_of_selects (args := #[]) (mvT hZ (hw _ (List.mem_of_getElem? (i := 125) rfl)))) (hw _ (List.mem_of_getElem? (i := 125) rfl)) (hw _ (List.mem_of_getElem? (i := 124) rfl)) (hw _ (List.mem_of_getElem? (i := 10) rfl)) (hw _ (List.mem_of_getElem? (i := 126) rfl)) (by decide) e179 Ef (g := (mkF m 107 #[.val (.int q0), .val (.int q1), .val (.int q2), .val (.ref fo), .val (.ref rq), .val (.ref ru), .val (.ref x), .val (.ref vi), .val (.ref fo), .val (.ref ru), .val (.ref mo), .unset, .unset] [(.ref fo)])) rfl (by rw [hml]; rfl) (lenOf pd_18 rfl) rfl (W := 0) (by show 2 * 0 + _ ≤ _; exact Nat.le_of_eq rfl) (hb hby at_107) (by decide) (by decide) (by decide) (by decide)
  obtain ⟨rfl, rfl, e181⟩ := hQ181
  rw [List.append_nil] at X181
  refine GoOn.step st181 ?_
  show GoOn p e below _ (T181.setTop (mkF m 110 #[.val (.int q0), .val (.int q1), .val (.int q2), .val (.ref fo), .val (.ref rq), .val (.ref ru), .val (.ref x), .val (.ref vi), .val (.ref fo), .val (.ref ru), .val (.ref mo), .unset, .unset] [(.int nf.toInt32)]))
  refine GoOn.step (fun t₀ k₀ => XS.istore X181.here hx rfl (hb hby at_110) rfl (l' := #[.val (.int q0), .val (.int q1), .val (.int q2), .val (.ref fo), .val (.ref rq), .val (.ref ru), .val (.ref x), .val (.ref vi), .val (.ref fo), .val (.ref ru), .val (.ref mo), .val (.int nf.toInt32), .unset]) rfl k₀) ?_
  show GoOn p e below _ (T181.setTop (mkF m 112 #[.val (.int q0), .val (.int q1), .val (.int q2), .val (.ref fo), .val (.ref rq), .val (.ref ru), .val (.ref x), .val (.ref vi), .val (.ref fo), .val (.ref ru), .val (.ref mo), .val (.int nf.toInt32), .unset] []))
  refine GoOn.step (fun t₀ k₀ => XS.aload X181.here hx rfl (hb hby at_112) rfl rfl k₀) ?_
  show GoOn p e below _ (T181.setTop (mkF m 114 #[.val (.int q0), .val (.int q1), .val (.int q2), .val (.ref fo), .val (.ref rq), .val (.ref ru), .val (.ref x), .val (.ref vi), .val (.ref fo), .val (.ref ru), .val (.ref mo), .val (.int nf.toInt32), .unset] [(.ref rq)]))
  obtain ⟨_, T182, L182, X182, hQ182, st182⟩ := kCallV X181 hx hZ (a := rq) (argsL := []) (rest := []) (c_len l Z a0 hw rq nr (fun i => laB (gr i)) cs fv T173.heap n0 O SS ⟨Er, ry, Vr, Cr, Jr⟩ (by omega)) hown (hw _ (List.mem_of_getElem? (i := 244) rfl)) (hw _ (List.mem_of_getElem? (i := 123) rfl)) (notFace_of_selects (args := #[]) (mvT hZ (hw _ (List.mem_of_getElem? (i := 125) rfl)))) (hw _ (List.mem_of_getElem? (i := 125) rfl)) (hw _ (List.mem_of_getElem? (i := 124) rfl)) (hw _ (List.mem_of_getElem? (i := 10) rfl)) (hw _ (List.mem_of_getElem? (i := 126) rfl)) (by decide) e181 Er (g := (mkF m 114 #[.val (.int q0), .val (.int q1), .val (.int q2), .val (.ref fo), .val (.ref rq), .val (.ref ru), .val (.ref x), .val (.ref vi), .val (.ref fo), .val (.ref ru), .val (.ref mo), .val (.int nf.toInt32), .unset] [(.ref rq)])) rfl (by rw [hml]; rfl) (lenOf pd_18 rfl) rfl (W := 0) (by show 2 * 0 + _ ≤ _; exact Nat.le_of_eq rfl) (hb hby at_114) (by decide) (by decide) (by decide) (by decide)
  obtain ⟨rfl, rfl, e182⟩ := hQ182
  rw [List.append_nil] at X182
  refine GoOn.step st182 ?_
  show GoOn p e below _ (T182.setTop (mkF m 117 #[.val (.int q0), .val (.int q1), .val (.int q2), .val (.ref fo), .val (.ref rq), .val (.ref ru), .val (.ref x), .val (.ref vi), .val (.ref fo), .val (.ref ru), .val (.ref mo), .val (.int nf.toInt32), .unset] [(.int nr.toInt32)]))
  refine GoOn.step (fun t₀ k₀ => XS.istore X182.here hx rfl (hb hby at_117) rfl (l' := #[.val (.int q0), .val (.int q1), .val (.int q2), .val (.ref fo), .val (.ref rq), .val (.ref ru), .val (.ref x), .val (.ref vi), .val (.ref fo), .val (.ref ru), .val (.ref mo), .val (.int nf.toInt32), .val (.int nr.toInt32)]) rfl k₀) ?_
  show GoOn p e below _ (T182.setTop (mkF m 119 #[.val (.int q0), .val (.int q1), .val (.int q2), .val (.ref fo), .val (.ref rq), .val (.ref ru), .val (.ref x), .val (.ref vi), .val (.ref fo), .val (.ref ru), .val (.ref mo), .val (.int nf.toInt32), .val (.int nr.toInt32)] []))
  refine GoOn.step (fun t₀ k₀ => XS.aload X182.here hx rfl (hb hby at_119) rfl rfl k₀) ?_
  show GoOn p e below _ (T182.setTop (mkF m 121 #[.val (.int q0), .val (.int q1), .val (.int q2), .val (.ref fo), .val (.ref rq), .val (.ref ru), .val (.ref x), .val (.ref vi), .val (.ref fo), .val (.ref ru), .val (.ref mo), .val (.int nf.toInt32), .val (.int nr.toInt32)] [(.ref mo)]))
  obtain ⟨_, T183, L183, X183, hQ183, st183⟩ := kCallV X182 hx hZ (a := mo) (argsL := []) (rest := []) (c_len l Z a0 hw mo (nf + 1 + nr) (fun i => laB ((gm nf gf gr) i)) cs fv T173.heap n0 O SS ⟨Em, my, Vm, Cm, Jm⟩ (by omega)) hown (hw _ (List.mem_of_getElem? (i := 244) rfl)) (hw _ (List.mem_of_getElem? (i := 123) rfl)) (notFace_of_selects (args := #[]) (mvT hZ (hw _ (List.mem_of_getElem? (i := 125) rfl)))) (hw _ (List.mem_of_getElem? (i := 125) rfl)) (hw _ (List.mem_of_getElem? (i := 124) rfl)) (hw _ (List.mem_of_getElem? (i := 10) rfl)) (hw _ (List.mem_of_getElem? (i := 126) rfl)) (by decide) e182 Em (g := (mkF m 121 #[.val (.int q0), .val (.int q1), .val (.int q2), .val (.ref fo), .val (.ref rq), .val (.ref ru), .val (.ref x), .val (.ref vi), .val (.ref fo), .val (.ref ru), .val (.ref mo), .val (.int nf.toInt32), .val (.int nr.toInt32)] [(.ref mo)])) rfl (by rw [hml]; rfl) (lenOf pd_18 rfl) rfl (W := 0) (by show 2 * 0 + _ ≤ _; exact Nat.le_of_eq rfl) (hb hby at_121) (by decide) (by decide) (by decide) (by decide)
  obtain ⟨rfl, rfl, e183⟩ := hQ183
  rw [List.append_nil] at X183
  refine GoOn.step st183 ?_
  show GoOn p e below _ (T183.setTop (mkF m 124 #[.val (.int q0), .val (.int q1), .val (.int q2), .val (.ref fo), .val (.ref rq), .val (.ref ru), .val (.ref x), .val (.ref vi), .val (.ref fo), .val (.ref ru), .val (.ref mo), .val (.int nf.toInt32), .val (.int nr.toInt32)] [(.int (nf + 1 + nr).toInt32)]))
  refine GoOn.step (fun t₀ k₀ => XS.iload X183.here hx rfl (hb hby at_124) rfl k₀) ?_
  show GoOn p e below _ (T183.setTop (mkF m 126 #[.val (.int q0), .val (.int q1), .val (.int q2), .val (.ref fo), .val (.ref rq), .val (.ref ru), .val (.ref x), .val (.ref vi), .val (.ref fo), .val (.ref ru), .val (.ref mo), .val (.int nf.toInt32), .val (.int nr.toInt32)] [(.int nf.toInt32), (.int (nf + 1 + nr).toInt32)]))
  refine GoOn.step (fun t₀ k₀ => XS.iconst X183.here hx rfl (hb hby at_126) k₀) ?_
  show GoOn p e below _ (T183.setTop (mkF m 127 #[.val (.int q0), .val (.int q1), .val (.int q2), .val (.ref fo), .val (.ref rq), .val (.ref ru), .val (.ref x), .val (.ref vi), .val (.ref fo), .val (.ref ru), .val (.ref mo), .val (.int nf.toInt32), .val (.int nr.toInt32)] [(.int (1 : Int32)), (.int nf.toInt32), (.int (nf + 1 + nr).toInt32)]))
  refine GoOn.step (fun t₀ k₀ => XS.iadd X183.here hx rfl (hb hby at_127) rfl k₀) ?_
  show GoOn p e below _ (T183.setTop (mkF m 128 #[.val (.int q0), .val (.int q1), .val (.int q2), .val (.ref fo), .val (.ref rq), .val (.ref ru), .val (.ref x), .val (.ref vi), .val (.ref fo), .val (.ref ru), .val (.ref mo), .val (.int nf.toInt32), .val (.int nr.toInt32)] [(.int (nf.toInt32 + (1 : Int32))), (.int (nf + 1 + nr).toInt32)]))
  refine GoOn.step (fun t₀ k₀ => XS.iload X183.here hx rfl (hb hby at_128) rfl k₀) ?_
  show GoOn p e below _ (T183.setTop (mkF m 130 #[.val (.int q0), .val (.int q1), .val (.int q2), .val (.ref fo), .val (.ref rq), .val (.ref ru), .val (.ref x), .val (.ref vi), .val (.ref fo), .val (.ref ru), .val (.ref mo), .val (.int nf.toInt32), .val (.int nr.toInt32)] [(.int nr.toInt32), (.int (nf.toInt32 + (1 : Int32))), (.int (nf + 1 + nr).toInt32)]))
  refine GoOn.step (fun t₀ k₀ => XS.iadd X183.here hx rfl (hb hby at_130) rfl k₀) ?_
  show GoOn p e below _ (T183.setTop (mkF m 131 #[.val (.int q0), .val (.int q1), .val (.int q2), .val (.ref fo), .val (.ref rq), .val (.ref ru), .val (.ref x), .val (.ref vi), .val (.ref fo), .val (.ref ru), .val (.ref mo), .val (.int nf.toInt32), .val (.int nr.toInt32)] [(.int ((nf.toInt32 + (1 : Int32)) + nr.toInt32)), (.int (nf + 1 + nr).toInt32)]))
  have hf184 : (nf + 1 + nr).toInt32 = ((nf.toInt32 + (1 : Int32)) + nr.toInt32) := (sum3 hnf hnr)
  refine GoOn.step (fun t₀ k₀ => XS.icmpYes X183.here hx rfl (pc0 := 131) (pc' := 136) rfl (hb hby at_131) rfl (teq hf184).1 (by decide) (by decide) k₀) ?_
  show GoOn p e below _ (T183.setTop (mkF m 136 #[.val (.int q0), .val (.int q1), .val (.int q2), .val (.ref fo), .val (.ref rq), .val (.ref ru), .val (.ref x), .val (.ref vi), .val (.ref fo), .val (.ref ru), .val (.ref mo), .val (.int nf.toInt32), .val (.int nr.toInt32)] []))
  refine GoOn.step (fun t₀ k₀ => XS.iload X183.here hx rfl (hb hby at_136) rfl k₀) ?_
  show GoOn p e below _ (T183.setTop (mkF m 138 #[.val (.int q0), .val (.int q1), .val (.int q2), .val (.ref fo), .val (.ref rq), .val (.ref ru), .val (.ref x), .val (.ref vi), .val (.ref fo), .val (.ref ru), .val (.ref mo), .val (.int nf.toInt32), .val (.int nr.toInt32)] [(.int nf.toInt32)]))
  refine GoOn.step (fun t₀ k₀ => XS.iconst X183.here hx rfl (hb hby at_138) k₀) ?_
  show GoOn p e below _ (T183.setTop (mkF m 139 #[.val (.int q0), .val (.int q1), .val (.int q2), .val (.ref fo), .val (.ref rq), .val (.ref ru), .val (.ref x), .val (.ref vi), .val (.ref fo), .val (.ref ru), .val (.ref mo), .val (.int nf.toInt32), .val (.int nr.toInt32)] [(.int (1 : Int32)), (.int nf.toInt32)]))
  by_cases u1nf : nf.toInt32 < (1 : Int32)
  · refine GoOn.step (fun t₀ k₀ => XS.icmpYes X183.here hx rfl (pc0 := 139) (pc' := 158) rfl (hb hby at_139) rfl (tlt u1nf).1 (by decide) (by decide) k₀) ?_
    show GoOn p e below _ (T183.setTop (mkF m 158 #[.val (.int q0), .val (.int q1), .val (.int q2), .val (.ref fo), .val (.ref rq), .val (.ref ru), .val (.ref x), .val (.ref vi), .val (.ref fo), .val (.ref ru), .val (.ref mo), .val (.int nf.toInt32), .val (.int nr.toInt32)] []))
    refine GoOn.step (fun t₀ k₀ => XS.iload X183.here hx rfl (hb hby at_158) rfl k₀) ?_
    show GoOn p e below _ (T183.setTop (mkF m 160 #[.val (.int q0), .val (.int q1), .val (.int q2), .val (.ref fo), .val (.ref rq), .val (.ref ru), .val (.ref x), .val (.ref vi), .val (.ref fo), .val (.ref ru), .val (.ref mo), .val (.int nf.toInt32), .val (.int nr.toInt32)] [(.int nf.toInt32)]))
    refine GoOn.step (fun t₀ k₀ => XS.iconst X183.here hx rfl (hb hby at_160) k₀) ?_
    show GoOn p e below _ (T183.setTop (mkF m 161 #[.val (.int q0), .val (.int q1), .val (.int q2), .val (.ref fo), .val (.ref rq), .val (.ref ru), .val (.ref x), .val (.ref vi), .val (.ref fo), .val (.ref ru), .val (.ref mo), .val (.int nf.toInt32), .val (.int nr.toInt32)] [(.int (2 : Int32)), (.int nf.toInt32)]))
    have hf185 : nf.toInt32 < (2 : Int32) := (lt_12 (by omega) u1nf)
    refine GoOn.step (fun t₀ k₀ => XS.icmpYes X183.here hx rfl (pc0 := 161) (pc' := 180) rfl (hb hby at_161) rfl (tlt hf185).1 (by decide) (by decide) k₀) ?_
    show GoOn p e below _ (T183.setTop (mkF m 180 #[.val (.int q0), .val (.int q1), .val (.int q2), .val (.ref fo), .val (.ref rq), .val (.ref ru), .val (.ref x), .val (.ref vi), .val (.ref fo), .val (.ref ru), .val (.ref mo), .val (.int nf.toInt32), .val (.int nr.toInt32)] []))
    refine GoOn.step (fun t₀ k₀ => XS.aload X183.here hx rfl (hb hby at_180) rfl rfl k₀) ?_
    show GoOn p e below _ (T183.setTop (mkF m 182 #[.val (.int q0), .val (.int q1), .val (.int q2), .val (.ref fo), .val (.ref rq), .val (.ref ru), .val (.ref x), .val (.ref vi), .val (.ref fo), .val (.ref ru), .val (.ref mo), .val (.int nf.toInt32), .val (.int nr.toInt32)] [(.ref mo)]))
    refine GoOn.step (fun t₀ k₀ => XS.iload X183.here hx rfl (hb hby at_182) rfl k₀) ?_
    show GoOn p e below _ (T183.setTop (mkF m 184 #[.val (.int q0), .val (.int q1), .val (.int q2), .val (.ref fo), .val (.ref rq), .val (.ref ru), .val (.ref x), .val (.ref vi), .val (.ref fo), .val (.ref ru), .val (.ref mo), .val (.int nf.toInt32), .val (.int nr.toInt32)] [(.int nf.toInt32), (.ref mo)]))
    obtain ⟨_, T186, L186, X186, hQ186, st186⟩ := kCallV X183 hx hZ (a := mo) (argsL := [(.int nf.toInt32)]) (rest := []) (c_at l Z a0 hw mo (nf + 1 + nr) (gm nf gf gr) nf.toInt32 cs fv T173.heap n0 O SS ⟨Em, my, Vm, Cm, Jm⟩ (by omega) ⟨by rw [toI (by omega)]; omega, by rw [toI (by omega)]; omega⟩ (gm_ch Cgf Cgr)) hown (hw _ (List.mem_of_getElem? (i := 245) rfl)) (hw _ (List.mem_of_getElem? (i := 246) rfl)) (notFace_of_selects (args := #[]) (mvT hZ (hw _ (List.mem_of_getElem? (i := 248) rfl)))) (hw _ (List.mem_of_getElem? (i := 248) rfl)) (hw _ (List.mem_of_getElem? (i := 247) rfl)) (hw _ (List.mem_of_getElem? (i := 10) rfl)) (hw _ (List.mem_of_getElem? (i := 249) rfl)) (by decide) e183 Em (g := (mkF m 184 #[.val (.int q0), .val (.int q1), .val (.int q2), .val (.ref fo), .val (.ref rq), .val (.ref ru), .val (.ref x), .val (.ref vi), .val (.ref fo), .val (.ref ru), .val (.ref mo), .val (.int nf.toInt32), .val (.int nr.toInt32)] [(.int nf.toInt32), (.ref mo)])) rfl (by rw [hml]; rfl) (lenOf pd_33 rfl) rfl (W := 0) (by show 2 * 0 + _ ≤ _; exact Nat.le_of_eq rfl) (hb hby at_184) (by decide) (by decide) (by decide) (by decide)
    obtain ⟨rfl, rfl, e186⟩ := hQ186
    rw [List.append_nil] at X186
    refine GoOn.step st186 ?_
    show GoOn p e below _ (T186.setTop (mkF m 187 #[.val (.int q0), .val (.int q1), .val (.int q2), .val (.ref fo), .val (.ref rq), .val (.ref ru), .val (.ref x), .val (.ref vi), .val (.ref fo), .val (.ref ru), .val (.ref mo), .val (.int nf.toInt32), .val (.int nr.toInt32)] [(.int ((gm nf gf gr) nf.toInt32.toNatClampNeg))]))
    refine GoOn.step (fun t₀ k₀ => XS.bipush X186.here hx rfl (hb hby at_187) k₀) ?_
    show GoOn p e below _ (T186.setTop (mkF m 189 #[.val (.int q0), .val (.int q1), .val (.int q2), .val (.ref fo), .val (.ref rq), .val (.ref ru), .val (.ref x), .val (.ref vi), .val (.ref fo), .val (.ref ru), .val (.ref mo), .val (.int nf.toInt32), .val (.int nr.toInt32)] [(.int (32 : Int32)), (.int ((gm nf gf gr) nf.toInt32.toNatClampNeg))]))
    have hf187 : ((gm nf gf gr) nf.toInt32.toNatClampNeg) = (32 : Int32) := (by rw [toN (by omega)]; exact gm_s)
    refine GoOn.step (fun t₀ k₀ => XS.icmpYes X186.here hx rfl (pc0 := 189) (pc' := 194) rfl (hb hby at_189) rfl (teq hf187).1 (by decide) (by decide) k₀) ?_
    show GoOn p e below _ (T186.setTop (mkF m 194 #[.val (.int q0), .val (.int q1), .val (.int q2), .val (.ref fo), .val (.ref rq), .val (.ref ru), .val (.ref x), .val (.ref vi), .val (.ref fo), .val (.ref ru), .val (.ref mo), .val (.int nf.toInt32), .val (.int nr.toInt32)] []))
    refine GoOn.step (fun t₀ k₀ => XS.iload X186.here hx rfl (hb hby at_194) rfl k₀) ?_
    show GoOn p e below _ (T186.setTop (mkF m 196 #[.val (.int q0), .val (.int q1), .val (.int q2), .val (.ref fo), .val (.ref rq), .val (.ref ru), .val (.ref x), .val (.ref vi), .val (.ref fo), .val (.ref ru), .val (.ref mo), .val (.int nf.toInt32), .val (.int nr.toInt32)] [(.int nr.toInt32)]))
    refine GoOn.step (fun t₀ k₀ => XS.iconst X186.here hx rfl (hb hby at_196) k₀) ?_
    show GoOn p e below _ (T186.setTop (mkF m 197 #[.val (.int q0), .val (.int q1), .val (.int q2), .val (.ref fo), .val (.ref rq), .val (.ref ru), .val (.ref x), .val (.ref vi), .val (.ref fo), .val (.ref ru), .val (.ref mo), .val (.int nf.toInt32), .val (.int nr.toInt32)] [(.int (1 : Int32)), (.int nr.toInt32)]))
    by_cases u1nr : nr.toInt32 < (1 : Int32)
    · refine GoOn.step (fun t₀ k₀ => XS.icmpYes X186.here hx rfl (pc0 := 197) (pc' := 220) rfl (hb hby at_197) rfl (tlt u1nr).1 (by decide) (by decide) k₀) ?_
      show GoOn p e below _ (T186.setTop (mkF m 220 #[.val (.int q0), .val (.int q1), .val (.int q2), .val (.ref fo), .val (.ref rq), .val (.ref ru), .val (.ref x), .val (.ref vi), .val (.ref fo), .val (.ref ru), .val (.ref mo), .val (.int nf.toInt32), .val (.int nr.toInt32)] []))
      refine GoOn.step (fun t₀ k₀ => XS.iload X186.here hx rfl (hb hby at_220) rfl k₀) ?_
      show GoOn p e below _ (T186.setTop (mkF m 222 #[.val (.int q0), .val (.int q1), .val (.int q2), .val (.ref fo), .val (.ref rq), .val (.ref ru), .val (.ref x), .val (.ref vi), .val (.ref fo), .val (.ref ru), .val (.ref mo), .val (.int nf.toInt32), .val (.int nr.toInt32)] [(.int nr.toInt32)]))
      refine GoOn.step (fun t₀ k₀ => XS.iconst X186.here hx rfl (hb hby at_222) k₀) ?_
      show GoOn p e below _ (T186.setTop (mkF m 223 #[.val (.int q0), .val (.int q1), .val (.int q2), .val (.ref fo), .val (.ref rq), .val (.ref ru), .val (.ref x), .val (.ref vi), .val (.ref fo), .val (.ref ru), .val (.ref mo), .val (.int nf.toInt32), .val (.int nr.toInt32)] [(.int (2 : Int32)), (.int nr.toInt32)]))
      have hf188 : nr.toInt32 < (2 : Int32) := (lt_12 (by omega) u1nr)
      refine GoOn.step (fun t₀ k₀ => XS.icmpYes X186.here hx rfl (pc0 := 223) (pc' := 246) rfl (hb hby at_223) rfl (tlt hf188).1 (by decide) (by decide) k₀) ?_
      show GoOn p e below _ (T186.setTop (mkF m 246 #[.val (.int q0), .val (.int q1), .val (.int q2), .val (.ref fo), .val (.ref rq), .val (.ref ru), .val (.ref x), .val (.ref vi), .val (.ref fo), .val (.ref ru), .val (.ref mo), .val (.int nf.toInt32), .val (.int nr.toInt32)] []))
      refine GoOn.step (fun t₀ k₀ => XS.iconst X186.here hx rfl (hb hby at_246) k₀) ?_
      show GoOn p e below _ (T186.setTop (mkF m 247 #[.val (.int q0), .val (.int q1), .val (.int q2), .val (.ref fo), .val (.ref rq), .val (.ref ru), .val (.ref x), .val (.ref vi), .val (.ref fo), .val (.ref ru), .val (.ref mo), .val (.int nf.toInt32), .val (.int nr.toInt32)] [(.int (1 : Int32))]))
      exact GoOn.retNG X186 hS173 (by rw [e186]; exact hk173) hx hrt hlk (by simp) (hb hby at_247) (by decide) (by decide) (by first | exact ⟨rfl, N0⟩ | (rw [e186]; exact ⟨rfl, N0⟩))
    · refine GoOn.step (fun t₀ k₀ => XS.icmpNo X186.here hx rfl (hb hby at_197) rfl (flt u1nr).1 k₀) ?_
      show GoOn p e below _ (T186.setTop (mkF m 200 #[.val (.int q0), .val (.int q1), .val (.int q2), .val (.ref fo), .val (.ref rq), .val (.ref ru), .val (.ref x), .val (.ref vi), .val (.ref fo), .val (.ref ru), .val (.ref mo), .val (.int nf.toInt32), .val (.int nr.toInt32)] []))
      have w1nr := lt_of1 (by omega) u1nr
      refine GoOn.step (fun t₀ k₀ => XS.aload X186.here hx rfl (hb hby at_200) rfl rfl k₀) ?_
      show GoOn p e below _ (T186.setTop (mkF m 202 #[.val (.int q0), .val (.int q1), .val (.int q2), .val (.ref fo), .val (.ref rq), .val (.ref ru), .val (.ref x), .val (.ref vi), .val (.ref fo), .val (.ref ru), .val (.ref mo), .val (.int nf.toInt32), .val (.int nr.toInt32)] [(.ref mo)]))
      refine GoOn.step (fun t₀ k₀ => XS.iload X186.here hx rfl (hb hby at_202) rfl k₀) ?_
      show GoOn p e below _ (T186.setTop (mkF m 204 #[.val (.int q0), .val (.int q1), .val (.int q2), .val (.ref fo), .val (.ref rq), .val (.ref ru), .val (.ref x), .val (.ref vi), .val (.ref fo), .val (.ref ru), .val (.ref mo), .val (.int nf.toInt32), .val (.int nr.toInt32)] [(.int nf.toInt32), (.ref mo)]))
      refine GoOn.step (fun t₀ k₀ => XS.iconst X186.here hx rfl (hb hby at_204) k₀) ?_
      show GoOn p e below _ (T186.setTop (mkF m 205 #[.val (.int q0), .val (.int q1), .val (.int q2), .val (.ref fo), .val (.ref rq), .val (.ref ru), .val (.ref x), .val (.ref vi), .val (.ref fo), .val (.ref ru), .val (.ref mo), .val (.int nf.toInt32), .val (.int nr.toInt32)] [(.int (1 : Int32)), (.int nf.toInt32), (.ref mo)]))
      refine GoOn.step (fun t₀ k₀ => XS.iadd X186.here hx rfl (hb hby at_205) rfl k₀) ?_
      show GoOn p e below _ (T186.setTop (mkF m 206 #[.val (.int q0), .val (.int q1), .val (.int q2), .val (.ref fo), .val (.ref rq), .val (.ref ru), .val (.ref x), .val (.ref vi), .val (.ref fo), .val (.ref ru), .val (.ref mo), .val (.int nf.toInt32), .val (.int nr.toInt32)] [(.int (nf.toInt32 + (1 : Int32))), (.ref mo)]))
      rw [show (nf.toInt32 + (1 : Int32)) = (nf + 1).toInt32 from (sumN (by omega))]
      obtain ⟨_, T189, L189, X189, hQ189, st189⟩ := kCallV X186 hx hZ (a := mo) (argsL := [(.int (nf + 1).toInt32)]) (rest := []) (c_at l Z a0 hw mo (nf + 1 + nr) (gm nf gf gr) (nf + 1).toInt32 cs fv T173.heap n0 O SS ⟨Em, my, Vm, Cm, Jm⟩ (by omega) ⟨by rw [toI (by omega)]; omega, by rw [toI (by omega)]; omega⟩ (gm_ch Cgf Cgr)) hown (hw _ (List.mem_of_getElem? (i := 245) rfl)) (hw _ (List.mem_of_getElem? (i := 246) rfl)) (notFace_of_selects (args := #[]) (mvT hZ (hw _ (List.mem_of_getElem? (i := 248) rfl)))) (hw _ (List.mem_of_getElem? (i := 248) rfl)) (hw _ (List.mem_of_getElem? (i := 247) rfl)) (hw _ (List.mem_of_getElem? (i := 10) rfl)) (hw _ (List.mem_of_getElem? (i := 249) rfl)) (by decide) e186 Em (g := (mkF m 206 #[.val (.int q0), .val (.int q1), .val (.int q2), .val (.ref fo), .val (.ref rq), .val (.ref ru), .val (.ref x), .val (.ref vi), .val (.ref fo), .val (.ref ru), .val (.ref mo), .val (.int nf.toInt32), .val (.int nr.toInt32)] [(.int (nf + 1).toInt32), (.ref mo)])) rfl (by rw [hml]; rfl) (lenOf pd_33 rfl) rfl (W := 0) (by show 2 * 0 + _ ≤ _; exact Nat.le_of_eq rfl) (hb hby at_206) (by decide) (by decide) (by decide) (by decide)
      obtain ⟨rfl, rfl, e189⟩ := hQ189
      rw [List.append_nil] at X189
      refine GoOn.step st189 ?_
      show GoOn p e below _ (T189.setTop (mkF m 209 #[.val (.int q0), .val (.int q1), .val (.int q2), .val (.ref fo), .val (.ref rq), .val (.ref ru), .val (.ref x), .val (.ref vi), .val (.ref fo), .val (.ref ru), .val (.ref mo), .val (.int nf.toInt32), .val (.int nr.toInt32)] [(.int ((gm nf gf gr) (nf + 1).toInt32.toNatClampNeg))]))
      refine GoOn.step (fun t₀ k₀ => XS.aload X189.here hx rfl (hb hby at_209) rfl rfl k₀) ?_
      show GoOn p e below _ (T189.setTop (mkF m 211 #[.val (.int q0), .val (.int q1), .val (.int q2), .val (.ref fo), .val (.ref rq), .val (.ref ru), .val (.ref x), .val (.ref vi), .val (.ref fo), .val (.ref ru), .val (.ref mo), .val (.int nf.toInt32), .val (.int nr.toInt32)] [(.ref rq), (.int ((gm nf gf gr) (nf + 1).toInt32.toNatClampNeg))]))
      refine GoOn.step (fun t₀ k₀ => XS.iconst X189.here hx rfl (hb hby at_211) k₀) ?_
      show GoOn p e below _ (T189.setTop (mkF m 212 #[.val (.int q0), .val (.int q1), .val (.int q2), .val (.ref fo), .val (.ref rq), .val (.ref ru), .val (.ref x), .val (.ref vi), .val (.ref fo), .val (.ref ru), .val (.ref mo), .val (.int nf.toInt32), .val (.int nr.toInt32)] [(.int (0 : Int32)), (.ref rq), (.int ((gm nf gf gr) (nf + 1).toInt32.toNatClampNeg))]))
      obtain ⟨_, T190, L190, X190, hQ190, st190⟩ := kCallV X189 hx hZ (a := rq) (argsL := [(.int (0 : Int32))]) (rest := [(.int ((gm nf gf gr) (nf + 1).toInt32.toNatClampNeg))]) (c_at l Z a0 hw rq nr gr (0 : Int32) cs fv T173.heap n0 O SS ⟨Er, ry, Vr, Cr, Jr⟩ (by omega) ⟨by decide, (by have := k0i; omega)⟩ Cgr) hown (hw _ (List.mem_of_getElem? (i := 245) rfl)) (hw _ (List.mem_of_getElem? (i := 246) rfl)) (notFace_of_selects (args := #[]) (mvT hZ (hw _ (List.mem_of_getElem? (i := 248) rfl)))) (hw _ (List.mem_of_getElem? (i := 248) rfl)) (hw _ (List.mem_of_getElem? (i := 247) rfl)) (hw _ (List.mem_of_getElem? (i := 10) rfl)) (hw _ (List.mem_of_getElem? (i := 249) rfl)) (by decide) e189 Er (g := (mkF m 212 #[.val (.int q0), .val (.int q1), .val (.int q2), .val (.ref fo), .val (.ref rq), .val (.ref ru), .val (.ref x), .val (.ref vi), .val (.ref fo), .val (.ref ru), .val (.ref mo), .val (.int nf.toInt32), .val (.int nr.toInt32)] [(.int (0 : Int32)), (.ref rq), (.int ((gm nf gf gr) (nf + 1).toInt32.toNatClampNeg))])) rfl (by rw [hml]; rfl) (lenOf pd_33 rfl) rfl (W := 1) (by show 2 * 0 + _ ≤ _; exact Nat.le_of_eq rfl) (hb hby at_212) (by decide) (by decide) (by decide) (by decide)
      obtain ⟨rfl, rfl, e190⟩ := hQ190
      rw [List.append_nil] at X190
      refine GoOn.step st190 ?_
      show GoOn p e below _ (T190.setTop (mkF m 215 #[.val (.int q0), .val (.int q1), .val (.int q2), .val (.ref fo), .val (.ref rq), .val (.ref ru), .val (.ref x), .val (.ref vi), .val (.ref fo), .val (.ref ru), .val (.ref mo), .val (.int nf.toInt32), .val (.int nr.toInt32)] [(.int (gr (0 : Int32).toNatClampNeg)), (.int ((gm nf gf gr) (nf + 1).toInt32.toNatClampNeg))]))
      have hf191 : ((gm nf gf gr) (nf + 1).toInt32.toNatClampNeg) = (gr (0 : Int32).toNatClampNeg) := (by rw [toN (by omega), nc0]; exact gm_r (j := 0))
      refine GoOn.step (fun t₀ k₀ => XS.icmpYes X190.here hx rfl (pc0 := 215) (pc' := 220) rfl (hb hby at_215) rfl (teq hf191).1 (by decide) (by decide) k₀) ?_
      show GoOn p e below _ (T190.setTop (mkF m 220 #[.val (.int q0), .val (.int q1), .val (.int q2), .val (.ref fo), .val (.ref rq), .val (.ref ru), .val (.ref x), .val (.ref vi), .val (.ref fo), .val (.ref ru), .val (.ref mo), .val (.int nf.toInt32), .val (.int nr.toInt32)] []))
      refine GoOn.step (fun t₀ k₀ => XS.iload X190.here hx rfl (hb hby at_220) rfl k₀) ?_
      show GoOn p e below _ (T190.setTop (mkF m 222 #[.val (.int q0), .val (.int q1), .val (.int q2), .val (.ref fo), .val (.ref rq), .val (.ref ru), .val (.ref x), .val (.ref vi), .val (.ref fo), .val (.ref ru), .val (.ref mo), .val (.int nf.toInt32), .val (.int nr.toInt32)] [(.int nr.toInt32)]))
      refine GoOn.step (fun t₀ k₀ => XS.iconst X190.here hx rfl (hb hby at_222) k₀) ?_
      show GoOn p e below _ (T190.setTop (mkF m 223 #[.val (.int q0), .val (.int q1), .val (.int q2), .val (.ref fo), .val (.ref rq), .val (.ref ru), .val (.ref x), .val (.ref vi), .val (.ref fo), .val (.ref ru), .val (.ref mo), .val (.int nf.toInt32), .val (.int nr.toInt32)] [(.int (2 : Int32)), (.int nr.toInt32)]))
      by_cases u2nr : nr.toInt32 < (2 : Int32)
      · refine GoOn.step (fun t₀ k₀ => XS.icmpYes X190.here hx rfl (pc0 := 223) (pc' := 246) rfl (hb hby at_223) rfl (tlt u2nr).1 (by decide) (by decide) k₀) ?_
        show GoOn p e below _ (T190.setTop (mkF m 246 #[.val (.int q0), .val (.int q1), .val (.int q2), .val (.ref fo), .val (.ref rq), .val (.ref ru), .val (.ref x), .val (.ref vi), .val (.ref fo), .val (.ref ru), .val (.ref mo), .val (.int nf.toInt32), .val (.int nr.toInt32)] []))
        refine GoOn.step (fun t₀ k₀ => XS.iconst X190.here hx rfl (hb hby at_246) k₀) ?_
        show GoOn p e below _ (T190.setTop (mkF m 247 #[.val (.int q0), .val (.int q1), .val (.int q2), .val (.ref fo), .val (.ref rq), .val (.ref ru), .val (.ref x), .val (.ref vi), .val (.ref fo), .val (.ref ru), .val (.ref mo), .val (.int nf.toInt32), .val (.int nr.toInt32)] [(.int (1 : Int32))]))
        exact GoOn.retNG X190 hS173 (by rw [e190]; exact hk173) hx hrt hlk (by simp) (hb hby at_247) (by decide) (by decide) (by first | exact ⟨rfl, N0⟩ | (rw [e190]; exact ⟨rfl, N0⟩))
      · refine GoOn.step (fun t₀ k₀ => XS.icmpNo X190.here hx rfl (hb hby at_223) rfl (flt u2nr).1 k₀) ?_
        show GoOn p e below _ (T190.setTop (mkF m 226 #[.val (.int q0), .val (.int q1), .val (.int q2), .val (.ref fo), .val (.ref rq), .val (.ref ru), .val (.ref x), .val (.ref vi), .val (.ref fo), .val (.ref ru), .val (.ref mo), .val (.int nf.toInt32), .val (.int nr.toInt32)] []))
        have w2nr := lt_of2 (by omega) u2nr
        refine GoOn.step (fun t₀ k₀ => XS.aload X190.here hx rfl (hb hby at_226) rfl rfl k₀) ?_
        show GoOn p e below _ (T190.setTop (mkF m 228 #[.val (.int q0), .val (.int q1), .val (.int q2), .val (.ref fo), .val (.ref rq), .val (.ref ru), .val (.ref x), .val (.ref vi), .val (.ref fo), .val (.ref ru), .val (.ref mo), .val (.int nf.toInt32), .val (.int nr.toInt32)] [(.ref mo)]))
        refine GoOn.step (fun t₀ k₀ => XS.iload X190.here hx rfl (hb hby at_228) rfl k₀) ?_
        show GoOn p e below _ (T190.setTop (mkF m 230 #[.val (.int q0), .val (.int q1), .val (.int q2), .val (.ref fo), .val (.ref rq), .val (.ref ru), .val (.ref x), .val (.ref vi), .val (.ref fo), .val (.ref ru), .val (.ref mo), .val (.int nf.toInt32), .val (.int nr.toInt32)] [(.int nf.toInt32), (.ref mo)]))
        refine GoOn.step (fun t₀ k₀ => XS.iconst X190.here hx rfl (hb hby at_230) k₀) ?_
        show GoOn p e below _ (T190.setTop (mkF m 231 #[.val (.int q0), .val (.int q1), .val (.int q2), .val (.ref fo), .val (.ref rq), .val (.ref ru), .val (.ref x), .val (.ref vi), .val (.ref fo), .val (.ref ru), .val (.ref mo), .val (.int nf.toInt32), .val (.int nr.toInt32)] [(.int (2 : Int32)), (.int nf.toInt32), (.ref mo)]))
        refine GoOn.step (fun t₀ k₀ => XS.iadd X190.here hx rfl (hb hby at_231) rfl k₀) ?_
        show GoOn p e below _ (T190.setTop (mkF m 232 #[.val (.int q0), .val (.int q1), .val (.int q2), .val (.ref fo), .val (.ref rq), .val (.ref ru), .val (.ref x), .val (.ref vi), .val (.ref fo), .val (.ref ru), .val (.ref mo), .val (.int nf.toInt32), .val (.int nr.toInt32)] [(.int (nf.toInt32 + (2 : Int32))), (.ref mo)]))
        rw [show (nf.toInt32 + (2 : Int32)) = (nf + 2).toInt32 from (sumM (by omega))]
        obtain ⟨_, T192, L192, X192, hQ192, st192⟩ := kCallV X190 hx hZ (a := mo) (argsL := [(.int (nf + 2).toInt32)]) (rest := []) (c_at l Z a0 hw mo (nf + 1 + nr) (gm nf gf gr) (nf + 2).toInt32 cs fv T173.heap n0 O SS ⟨Em, my, Vm, Cm, Jm⟩ (by omega) ⟨by rw [toI (by omega)]; omega, by rw [toI (by omega)]; omega⟩ (gm_ch Cgf Cgr)) hown (hw _ (List.mem_of_getElem? (i := 245) rfl)) (hw _ (List.mem_of_getElem? (i := 246) rfl)) (notFace_of_selects (args := #[]) (mvT hZ (hw _ (List.mem_of_getElem? (i := 248) rfl)))) (hw _ (List.mem_of_getElem? (i := 248) rfl)) (hw _ (List.mem_of_getElem? (i := 247) rfl)) (hw _ (List.mem_of_getElem? (i := 10) rfl)) (hw _ (List.mem_of_getElem? (i := 249) rfl)) (by decide) e190 Em (g := (mkF m 232 #[.val (.int q0), .val (.int q1), .val (.int q2), .val (.ref fo), .val (.ref rq), .val (.ref ru), .val (.ref x), .val (.ref vi), .val (.ref fo), .val (.ref ru), .val (.ref mo), .val (.int nf.toInt32), .val (.int nr.toInt32)] [(.int (nf + 2).toInt32), (.ref mo)])) rfl (by rw [hml]; rfl) (lenOf pd_33 rfl) rfl (W := 0) (by show 2 * 0 + _ ≤ _; exact Nat.le_of_eq rfl) (hb hby at_232) (by decide) (by decide) (by decide) (by decide)
        obtain ⟨rfl, rfl, e192⟩ := hQ192
        rw [List.append_nil] at X192
        refine GoOn.step st192 ?_
        show GoOn p e below _ (T192.setTop (mkF m 235 #[.val (.int q0), .val (.int q1), .val (.int q2), .val (.ref fo), .val (.ref rq), .val (.ref ru), .val (.ref x), .val (.ref vi), .val (.ref fo), .val (.ref ru), .val (.ref mo), .val (.int nf.toInt32), .val (.int nr.toInt32)] [(.int ((gm nf gf gr) (nf + 2).toInt32.toNatClampNeg))]))
        refine GoOn.step (fun t₀ k₀ => XS.aload X192.here hx rfl (hb hby at_235) rfl rfl k₀) ?_
        show GoOn p e below _ (T192.setTop (mkF m 237 #[.val (.int q0), .val (.int q1), .val (.int q2), .val (.ref fo), .val (.ref rq), .val (.ref ru), .val (.ref x), .val (.ref vi), .val (.ref fo), .val (.ref ru), .val (.ref mo), .val (.int nf.toInt32), .val (.int nr.toInt32)] [(.ref rq), (.int ((gm nf gf gr) (nf + 2).toInt32.toNatClampNeg))]))
        refine GoOn.step (fun t₀ k₀ => XS.iconst X192.here hx rfl (hb hby at_237) k₀) ?_
        show GoOn p e below _ (T192.setTop (mkF m 238 #[.val (.int q0), .val (.int q1), .val (.int q2), .val (.ref fo), .val (.ref rq), .val (.ref ru), .val (.ref x), .val (.ref vi), .val (.ref fo), .val (.ref ru), .val (.ref mo), .val (.int nf.toInt32), .val (.int nr.toInt32)] [(.int (1 : Int32)), (.ref rq), (.int ((gm nf gf gr) (nf + 2).toInt32.toNatClampNeg))]))
        obtain ⟨_, T193, L193, X193, hQ193, st193⟩ := kCallV X192 hx hZ (a := rq) (argsL := [(.int (1 : Int32))]) (rest := [(.int ((gm nf gf gr) (nf + 2).toInt32.toNatClampNeg))]) (c_at l Z a0 hw rq nr gr (1 : Int32) cs fv T173.heap n0 O SS ⟨Er, ry, Vr, Cr, Jr⟩ (by omega) ⟨by decide, (by have := k1i; omega)⟩ Cgr) hown (hw _ (List.mem_of_getElem? (i := 245) rfl)) (hw _ (List.mem_of_getElem? (i := 246) rfl)) (notFace_of_selects (args := #[]) (mvT hZ (hw _ (List.mem_of_getElem? (i := 248) rfl)))) (hw _ (List.mem_of_getElem? (i := 248) rfl)) (hw _ (List.mem_of_getElem? (i := 247) rfl)) (hw _ (List.mem_of_getElem? (i := 10) rfl)) (hw _ (List.mem_of_getElem? (i := 249) rfl)) (by decide) e192 Er (g := (mkF m 238 #[.val (.int q0), .val (.int q1), .val (.int q2), .val (.ref fo), .val (.ref rq), .val (.ref ru), .val (.ref x), .val (.ref vi), .val (.ref fo), .val (.ref ru), .val (.ref mo), .val (.int nf.toInt32), .val (.int nr.toInt32)] [(.int (1 : Int32)), (.ref rq), (.int ((gm nf gf gr) (nf + 2).toInt32.toNatClampNeg))])) rfl (by rw [hml]; rfl) (lenOf pd_33 rfl) rfl (W := 1) (by show 2 * 0 + _ ≤ _; exact Nat.le_of_eq rfl) (hb hby at_238) (by decide) (by decide) (by decide) (by decide)
        obtain ⟨rfl, rfl, e193⟩ := hQ193
        rw [List.append_nil] at X193
        refine GoOn.step st193 ?_
        show GoOn p e below _ (T193.setTop (mkF m 241 #[.val (.int q0), .val (.int q1), .val (.int q2), .val (.ref fo), .val (.ref rq), .val (.ref ru), .val (.ref x), .val (.ref vi), .val (.ref fo), .val (.ref ru), .val (.ref mo), .val (.int nf.toInt32), .val (.int nr.toInt32)] [(.int (gr (1 : Int32).toNatClampNeg)), (.int ((gm nf gf gr) (nf + 2).toInt32.toNatClampNeg))]))
        have hf194 : ((gm nf gf gr) (nf + 2).toInt32.toNatClampNeg) = (gr (1 : Int32).toNatClampNeg) := (by rw [toN (by omega), nc1]; exact gm_r (j := 1))
        refine GoOn.step (fun t₀ k₀ => XS.icmpYes X193.here hx rfl (pc0 := 241) (pc' := 246) rfl (hb hby at_241) rfl (teq hf194).1 (by decide) (by decide) k₀) ?_
        show GoOn p e below _ (T193.setTop (mkF m 246 #[.val (.int q0), .val (.int q1), .val (.int q2), .val (.ref fo), .val (.ref rq), .val (.ref ru), .val (.ref x), .val (.ref vi), .val (.ref fo), .val (.ref ru), .val (.ref mo), .val (.int nf.toInt32), .val (.int nr.toInt32)] []))
        refine GoOn.step (fun t₀ k₀ => XS.iconst X193.here hx rfl (hb hby at_246) k₀) ?_
        show GoOn p e below _ (T193.setTop (mkF m 247 #[.val (.int q0), .val (.int q1), .val (.int q2), .val (.ref fo), .val (.ref rq), .val (.ref ru), .val (.ref x), .val (.ref vi), .val (.ref fo), .val (.ref ru), .val (.ref mo), .val (.int nf.toInt32), .val (.int nr.toInt32)] [(.int (1 : Int32))]))
        exact GoOn.retNG X193 hS173 (by rw [e193]; exact hk173) hx hrt hlk (by simp) (hb hby at_247) (by decide) (by decide) (by first | exact ⟨rfl, N0⟩ | (rw [e193]; exact ⟨rfl, N0⟩))
  · refine GoOn.step (fun t₀ k₀ => XS.icmpNo X183.here hx rfl (hb hby at_139) rfl (flt u1nf).1 k₀) ?_
    show GoOn p e below _ (T183.setTop (mkF m 142 #[.val (.int q0), .val (.int q1), .val (.int q2), .val (.ref fo), .val (.ref rq), .val (.ref ru), .val (.ref x), .val (.ref vi), .val (.ref fo), .val (.ref ru), .val (.ref mo), .val (.int nf.toInt32), .val (.int nr.toInt32)] []))
    have w1nf := lt_of1 (by omega) u1nf
    refine GoOn.step (fun t₀ k₀ => XS.aload X183.here hx rfl (hb hby at_142) rfl rfl k₀) ?_
    show GoOn p e below _ (T183.setTop (mkF m 144 #[.val (.int q0), .val (.int q1), .val (.int q2), .val (.ref fo), .val (.ref rq), .val (.ref ru), .val (.ref x), .val (.ref vi), .val (.ref fo), .val (.ref ru), .val (.ref mo), .val (.int nf.toInt32), .val (.int nr.toInt32)] [(.ref mo)]))
    refine GoOn.step (fun t₀ k₀ => XS.iconst X183.here hx rfl (hb hby at_144) k₀) ?_
    show GoOn p e below _ (T183.setTop (mkF m 145 #[.val (.int q0), .val (.int q1), .val (.int q2), .val (.ref fo), .val (.ref rq), .val (.ref ru), .val (.ref x), .val (.ref vi), .val (.ref fo), .val (.ref ru), .val (.ref mo), .val (.int nf.toInt32), .val (.int nr.toInt32)] [(.int (0 : Int32)), (.ref mo)]))
    obtain ⟨_, T195, L195, X195, hQ195, st195⟩ := kCallV X183 hx hZ (a := mo) (argsL := [(.int (0 : Int32))]) (rest := []) (c_at l Z a0 hw mo (nf + 1 + nr) (gm nf gf gr) (0 : Int32) cs fv T173.heap n0 O SS ⟨Em, my, Vm, Cm, Jm⟩ (by omega) ⟨by decide, (by have := k0i; omega)⟩ (gm_ch Cgf Cgr)) hown (hw _ (List.mem_of_getElem? (i := 245) rfl)) (hw _ (List.mem_of_getElem? (i := 246) rfl)) (notFace_of_selects (args := #[]) (mvT hZ (hw _ (List.mem_of_getElem? (i := 248) rfl)))) (hw _ (List.mem_of_getElem? (i := 248) rfl)) (hw _ (List.mem_of_getElem? (i := 247) rfl)) (hw _ (List.mem_of_getElem? (i := 10) rfl)) (hw _ (List.mem_of_getElem? (i := 249) rfl)) (by decide) e183 Em (g := (mkF m 145 #[.val (.int q0), .val (.int q1), .val (.int q2), .val (.ref fo), .val (.ref rq), .val (.ref ru), .val (.ref x), .val (.ref vi), .val (.ref fo), .val (.ref ru), .val (.ref mo), .val (.int nf.toInt32), .val (.int nr.toInt32)] [(.int (0 : Int32)), (.ref mo)])) rfl (by rw [hml]; rfl) (lenOf pd_33 rfl) rfl (W := 0) (by show 2 * 0 + _ ≤ _; exact Nat.le_of_eq rfl) (hb hby at_145) (by decide) (by decide) (by decide) (by decide)
    obtain ⟨rfl, rfl, e195⟩ := hQ195
    rw [List.append_nil] at X195
    refine GoOn.step st195 ?_
    show GoOn p e below _ (T195.setTop (mkF m 148 #[.val (.int q0), .val (.int q1), .val (.int q2), .val (.ref fo), .val (.ref rq), .val (.ref ru), .val (.ref x), .val (.ref vi), .val (.ref fo), .val (.ref ru), .val (.ref mo), .val (.int nf.toInt32), .val (.int nr.toInt32)] [(.int ((gm nf gf gr) (0 : Int32).toNatClampNeg))]))
    refine GoOn.step (fun t₀ k₀ => XS.aloadN X195.here hx rfl (hb hby at_148) rfl rfl k₀) ?_
    show GoOn p e below _ (T195.setTop (mkF m 149 #[.val (.int q0), .val (.int q1), .val (.int q2), .val (.ref fo), .val (.ref rq), .val (.ref ru), .val (.ref x), .val (.ref vi), .val (.ref fo), .val (.ref ru), .val (.ref mo), .val (.int nf.toInt32), .val (.int nr.toInt32)] [(.ref fo), (.int ((gm nf gf gr) (0 : Int32).toNatClampNeg))]))
    refine GoOn.step (fun t₀ k₀ => XS.iconst X195.here hx rfl (hb hby at_149) k₀) ?_
    show GoOn p e below _ (T195.setTop (mkF m 150 #[.val (.int q0), .val (.int q1), .val (.int q2), .val (.ref fo), .val (.ref rq), .val (.ref ru), .val (.ref x), .val (.ref vi), .val (.ref fo), .val (.ref ru), .val (.ref mo), .val (.int nf.toInt32), .val (.int nr.toInt32)] [(.int (0 : Int32)), (.ref fo), (.int ((gm nf gf gr) (0 : Int32).toNatClampNeg))]))
    obtain ⟨_, T196, L196, X196, hQ196, st196⟩ := kCallV X195 hx hZ (a := fo) (argsL := [(.int (0 : Int32))]) (rest := [(.int ((gm nf gf gr) (0 : Int32).toNatClampNeg))]) (c_at l Z a0 hw fo nf gf (0 : Int32) cs fv T173.heap n0 O SS ⟨Ef, fy, Vf, Cf, Jf⟩ (by omega) ⟨by decide, (by have := k0i; omega)⟩ Cgf) hown (hw _ (List.mem_of_getElem? (i := 245) rfl)) (hw _ (List.mem_of_getElem? (i := 246) rfl)) (notFace_of_selects (args := #[]) (mvT hZ (hw _ (List.mem_of_getElem? (i := 248) rfl)))) (hw _ (List.mem_of_getElem? (i := 248) rfl)) (hw _ (List.mem_of_getElem? (i := 247) rfl)) (hw _ (List.mem_of_getElem? (i := 10) rfl)) (hw _ (List.mem_of_getElem? (i := 249) rfl)) (by decide) e195 Ef (g := (mkF m 150 #[.val (.int q0), .val (.int q1), .val (.int q2), .val (.ref fo), .val (.ref rq), .val (.ref ru), .val (.ref x), .val (.ref vi), .val (.ref fo), .val (.ref ru), .val (.ref mo), .val (.int nf.toInt32), .val (.int nr.toInt32)] [(.int (0 : Int32)), (.ref fo), (.int ((gm nf gf gr) (0 : Int32).toNatClampNeg))])) rfl (by rw [hml]; rfl) (lenOf pd_33 rfl) rfl (W := 1) (by show 2 * 0 + _ ≤ _; exact Nat.le_of_eq rfl) (hb hby at_150) (by decide) (by decide) (by decide) (by decide)
    obtain ⟨rfl, rfl, e196⟩ := hQ196
    rw [List.append_nil] at X196
    refine GoOn.step st196 ?_
    show GoOn p e below _ (T196.setTop (mkF m 153 #[.val (.int q0), .val (.int q1), .val (.int q2), .val (.ref fo), .val (.ref rq), .val (.ref ru), .val (.ref x), .val (.ref vi), .val (.ref fo), .val (.ref ru), .val (.ref mo), .val (.int nf.toInt32), .val (.int nr.toInt32)] [(.int (gf (0 : Int32).toNatClampNeg)), (.int ((gm nf gf gr) (0 : Int32).toNatClampNeg))]))
    have hf197 : ((gm nf gf gr) (0 : Int32).toNatClampNeg) = (gf (0 : Int32).toNatClampNeg) := (by rw [nc0]; exact gm_f (by omega))
    refine GoOn.step (fun t₀ k₀ => XS.icmpYes X196.here hx rfl (pc0 := 153) (pc' := 158) rfl (hb hby at_153) rfl (teq hf197).1 (by decide) (by decide) k₀) ?_
    show GoOn p e below _ (T196.setTop (mkF m 158 #[.val (.int q0), .val (.int q1), .val (.int q2), .val (.ref fo), .val (.ref rq), .val (.ref ru), .val (.ref x), .val (.ref vi), .val (.ref fo), .val (.ref ru), .val (.ref mo), .val (.int nf.toInt32), .val (.int nr.toInt32)] []))
    refine GoOn.step (fun t₀ k₀ => XS.iload X196.here hx rfl (hb hby at_158) rfl k₀) ?_
    show GoOn p e below _ (T196.setTop (mkF m 160 #[.val (.int q0), .val (.int q1), .val (.int q2), .val (.ref fo), .val (.ref rq), .val (.ref ru), .val (.ref x), .val (.ref vi), .val (.ref fo), .val (.ref ru), .val (.ref mo), .val (.int nf.toInt32), .val (.int nr.toInt32)] [(.int nf.toInt32)]))
    refine GoOn.step (fun t₀ k₀ => XS.iconst X196.here hx rfl (hb hby at_160) k₀) ?_
    show GoOn p e below _ (T196.setTop (mkF m 161 #[.val (.int q0), .val (.int q1), .val (.int q2), .val (.ref fo), .val (.ref rq), .val (.ref ru), .val (.ref x), .val (.ref vi), .val (.ref fo), .val (.ref ru), .val (.ref mo), .val (.int nf.toInt32), .val (.int nr.toInt32)] [(.int (2 : Int32)), (.int nf.toInt32)]))
    by_cases u2nf : nf.toInt32 < (2 : Int32)
    · refine GoOn.step (fun t₀ k₀ => XS.icmpYes X196.here hx rfl (pc0 := 161) (pc' := 180) rfl (hb hby at_161) rfl (tlt u2nf).1 (by decide) (by decide) k₀) ?_
      show GoOn p e below _ (T196.setTop (mkF m 180 #[.val (.int q0), .val (.int q1), .val (.int q2), .val (.ref fo), .val (.ref rq), .val (.ref ru), .val (.ref x), .val (.ref vi), .val (.ref fo), .val (.ref ru), .val (.ref mo), .val (.int nf.toInt32), .val (.int nr.toInt32)] []))
      refine GoOn.step (fun t₀ k₀ => XS.aload X196.here hx rfl (hb hby at_180) rfl rfl k₀) ?_
      show GoOn p e below _ (T196.setTop (mkF m 182 #[.val (.int q0), .val (.int q1), .val (.int q2), .val (.ref fo), .val (.ref rq), .val (.ref ru), .val (.ref x), .val (.ref vi), .val (.ref fo), .val (.ref ru), .val (.ref mo), .val (.int nf.toInt32), .val (.int nr.toInt32)] [(.ref mo)]))
      refine GoOn.step (fun t₀ k₀ => XS.iload X196.here hx rfl (hb hby at_182) rfl k₀) ?_
      show GoOn p e below _ (T196.setTop (mkF m 184 #[.val (.int q0), .val (.int q1), .val (.int q2), .val (.ref fo), .val (.ref rq), .val (.ref ru), .val (.ref x), .val (.ref vi), .val (.ref fo), .val (.ref ru), .val (.ref mo), .val (.int nf.toInt32), .val (.int nr.toInt32)] [(.int nf.toInt32), (.ref mo)]))
      obtain ⟨_, T198, L198, X198, hQ198, st198⟩ := kCallV X196 hx hZ (a := mo) (argsL := [(.int nf.toInt32)]) (rest := []) (c_at l Z a0 hw mo (nf + 1 + nr) (gm nf gf gr) nf.toInt32 cs fv T173.heap n0 O SS ⟨Em, my, Vm, Cm, Jm⟩ (by omega) ⟨by rw [toI (by omega)]; omega, by rw [toI (by omega)]; omega⟩ (gm_ch Cgf Cgr)) hown (hw _ (List.mem_of_getElem? (i := 245) rfl)) (hw _ (List.mem_of_getElem? (i := 246) rfl)) (notFace_of_selects (args := #[]) (mvT hZ (hw _ (List.mem_of_getElem? (i := 248) rfl)))) (hw _ (List.mem_of_getElem? (i := 248) rfl)) (hw _ (List.mem_of_getElem? (i := 247) rfl)) (hw _ (List.mem_of_getElem? (i := 10) rfl)) (hw _ (List.mem_of_getElem? (i := 249) rfl)) (by decide) e196 Em (g := (mkF m 184 #[.val (.int q0), .val (.int q1), .val (.int q2), .val (.ref fo), .val (.ref rq), .val (.ref ru), .val (.ref x), .val (.ref vi), .val (.ref fo), .val (.ref ru), .val (.ref mo), .val (.int nf.toInt32), .val (.int nr.toInt32)] [(.int nf.toInt32), (.ref mo)])) rfl (by rw [hml]; rfl) (lenOf pd_33 rfl) rfl (W := 0) (by show 2 * 0 + _ ≤ _; exact Nat.le_of_eq rfl) (hb hby at_184) (by decide) (by decide) (by decide) (by decide)
      obtain ⟨rfl, rfl, e198⟩ := hQ198
      rw [List.append_nil] at X198
      refine GoOn.step st198 ?_
      show GoOn p e below _ (T198.setTop (mkF m 187 #[.val (.int q0), .val (.int q1), .val (.int q2), .val (.ref fo), .val (.ref rq), .val (.ref ru), .val (.ref x), .val (.ref vi), .val (.ref fo), .val (.ref ru), .val (.ref mo), .val (.int nf.toInt32), .val (.int nr.toInt32)] [(.int ((gm nf gf gr) nf.toInt32.toNatClampNeg))]))
      refine GoOn.step (fun t₀ k₀ => XS.bipush X198.here hx rfl (hb hby at_187) k₀) ?_
      show GoOn p e below _ (T198.setTop (mkF m 189 #[.val (.int q0), .val (.int q1), .val (.int q2), .val (.ref fo), .val (.ref rq), .val (.ref ru), .val (.ref x), .val (.ref vi), .val (.ref fo), .val (.ref ru), .val (.ref mo), .val (.int nf.toInt32), .val (.int nr.toInt32)] [(.int (32 : Int32)), (.int ((gm nf gf gr) nf.toInt32.toNatClampNeg))]))
      have hf199 : ((gm nf gf gr) nf.toInt32.toNatClampNeg) = (32 : Int32) := (by rw [toN (by omega)]; exact gm_s)
      refine GoOn.step (fun t₀ k₀ => XS.icmpYes X198.here hx rfl (pc0 := 189) (pc' := 194) rfl (hb hby at_189) rfl (teq hf199).1 (by decide) (by decide) k₀) ?_
      show GoOn p e below _ (T198.setTop (mkF m 194 #[.val (.int q0), .val (.int q1), .val (.int q2), .val (.ref fo), .val (.ref rq), .val (.ref ru), .val (.ref x), .val (.ref vi), .val (.ref fo), .val (.ref ru), .val (.ref mo), .val (.int nf.toInt32), .val (.int nr.toInt32)] []))
      refine GoOn.step (fun t₀ k₀ => XS.iload X198.here hx rfl (hb hby at_194) rfl k₀) ?_
      show GoOn p e below _ (T198.setTop (mkF m 196 #[.val (.int q0), .val (.int q1), .val (.int q2), .val (.ref fo), .val (.ref rq), .val (.ref ru), .val (.ref x), .val (.ref vi), .val (.ref fo), .val (.ref ru), .val (.ref mo), .val (.int nf.toInt32), .val (.int nr.toInt32)] [(.int nr.toInt32)]))
      refine GoOn.step (fun t₀ k₀ => XS.iconst X198.here hx rfl (hb hby at_196) k₀) ?_
      show GoOn p e below _ (T198.setTop (mkF m 197 #[.val (.int q0), .val (.int q1), .val (.int q2), .val (.ref fo), .val (.ref rq), .val (.ref ru), .val (.ref x), .val (.ref vi), .val (.ref fo), .val (.ref ru), .val (.ref mo), .val (.int nf.toInt32), .val (.int nr.toInt32)] [(.int (1 : Int32)), (.int nr.toInt32)]))
      by_cases u1nr : nr.toInt32 < (1 : Int32)
      · refine GoOn.step (fun t₀ k₀ => XS.icmpYes X198.here hx rfl (pc0 := 197) (pc' := 220) rfl (hb hby at_197) rfl (tlt u1nr).1 (by decide) (by decide) k₀) ?_
        show GoOn p e below _ (T198.setTop (mkF m 220 #[.val (.int q0), .val (.int q1), .val (.int q2), .val (.ref fo), .val (.ref rq), .val (.ref ru), .val (.ref x), .val (.ref vi), .val (.ref fo), .val (.ref ru), .val (.ref mo), .val (.int nf.toInt32), .val (.int nr.toInt32)] []))
        refine GoOn.step (fun t₀ k₀ => XS.iload X198.here hx rfl (hb hby at_220) rfl k₀) ?_
        show GoOn p e below _ (T198.setTop (mkF m 222 #[.val (.int q0), .val (.int q1), .val (.int q2), .val (.ref fo), .val (.ref rq), .val (.ref ru), .val (.ref x), .val (.ref vi), .val (.ref fo), .val (.ref ru), .val (.ref mo), .val (.int nf.toInt32), .val (.int nr.toInt32)] [(.int nr.toInt32)]))
        refine GoOn.step (fun t₀ k₀ => XS.iconst X198.here hx rfl (hb hby at_222) k₀) ?_
        show GoOn p e below _ (T198.setTop (mkF m 223 #[.val (.int q0), .val (.int q1), .val (.int q2), .val (.ref fo), .val (.ref rq), .val (.ref ru), .val (.ref x), .val (.ref vi), .val (.ref fo), .val (.ref ru), .val (.ref mo), .val (.int nf.toInt32), .val (.int nr.toInt32)] [(.int (2 : Int32)), (.int nr.toInt32)]))
        have hf200 : nr.toInt32 < (2 : Int32) := (lt_12 (by omega) u1nr)
        refine GoOn.step (fun t₀ k₀ => XS.icmpYes X198.here hx rfl (pc0 := 223) (pc' := 246) rfl (hb hby at_223) rfl (tlt hf200).1 (by decide) (by decide) k₀) ?_
        show GoOn p e below _ (T198.setTop (mkF m 246 #[.val (.int q0), .val (.int q1), .val (.int q2), .val (.ref fo), .val (.ref rq), .val (.ref ru), .val (.ref x), .val (.ref vi), .val (.ref fo), .val (.ref ru), .val (.ref mo), .val (.int nf.toInt32), .val (.int nr.toInt32)] []))
        refine GoOn.step (fun t₀ k₀ => XS.iconst X198.here hx rfl (hb hby at_246) k₀) ?_
        show GoOn p e below _ (T198.setTop (mkF m 247 #[.val (.int q0), .val (.int q1), .val (.int q2), .val (.ref fo), .val (.ref rq), .val (.ref ru), .val (.ref x), .val (.ref vi), .val (.ref fo), .val (.ref ru), .val (.ref mo), .val (.int nf.toInt32), .val (.int nr.toInt32)] [(.int (1 : Int32))]))
        exact GoOn.retNG X198 hS173 (by rw [e198]; exact hk173) hx hrt hlk (by simp) (hb hby at_247) (by decide) (by decide) (by first | exact ⟨rfl, N0⟩ | (rw [e198]; exact ⟨rfl, N0⟩))
      · refine GoOn.step (fun t₀ k₀ => XS.icmpNo X198.here hx rfl (hb hby at_197) rfl (flt u1nr).1 k₀) ?_
        show GoOn p e below _ (T198.setTop (mkF m 200 #[.val (.int q0), .val (.int q1), .val (.int q2), .val (.ref fo), .val (.ref rq), .val (.ref ru), .val (.ref x), .val (.ref vi), .val (.ref fo), .val (.ref ru), .val (.ref mo), .val (.int nf.toInt32), .val (.int nr.toInt32)] []))
        have w1nr := lt_of1 (by omega) u1nr
        refine GoOn.step (fun t₀ k₀ => XS.aload X198.here hx rfl (hb hby at_200) rfl rfl k₀) ?_
        show GoOn p e below _ (T198.setTop (mkF m 202 #[.val (.int q0), .val (.int q1), .val (.int q2), .val (.ref fo), .val (.ref rq), .val (.ref ru), .val (.ref x), .val (.ref vi), .val (.ref fo), .val (.ref ru), .val (.ref mo), .val (.int nf.toInt32), .val (.int nr.toInt32)] [(.ref mo)]))
        refine GoOn.step (fun t₀ k₀ => XS.iload X198.here hx rfl (hb hby at_202) rfl k₀) ?_
        show GoOn p e below _ (T198.setTop (mkF m 204 #[.val (.int q0), .val (.int q1), .val (.int q2), .val (.ref fo), .val (.ref rq), .val (.ref ru), .val (.ref x), .val (.ref vi), .val (.ref fo), .val (.ref ru), .val (.ref mo), .val (.int nf.toInt32), .val (.int nr.toInt32)] [(.int nf.toInt32), (.ref mo)]))
        refine GoOn.step (fun t₀ k₀ => XS.iconst X198.here hx rfl (hb hby at_204) k₀) ?_
        show GoOn p e below _ (T198.setTop (mkF m 205 #[.val (.int q0), .val (.int q1), .val (.int q2), .val (.ref fo), .val (.ref rq), .val (.ref ru), .val (.ref x), .val (.ref vi), .val (.ref fo), .val (.ref ru), .val (.ref mo), .val (.int nf.toInt32), .val (.int nr.toInt32)] [(.int (1 : Int32)), (.int nf.toInt32), (.ref mo)]))
        refine GoOn.step (fun t₀ k₀ => XS.iadd X198.here hx rfl (hb hby at_205) rfl k₀) ?_
        show GoOn p e below _ (T198.setTop (mkF m 206 #[.val (.int q0), .val (.int q1), .val (.int q2), .val (.ref fo), .val (.ref rq), .val (.ref ru), .val (.ref x), .val (.ref vi), .val (.ref fo), .val (.ref ru), .val (.ref mo), .val (.int nf.toInt32), .val (.int nr.toInt32)] [(.int (nf.toInt32 + (1 : Int32))), (.ref mo)]))
        rw [show (nf.toInt32 + (1 : Int32)) = (nf + 1).toInt32 from (sumN (by omega))]
        obtain ⟨_, T201, L201, X201, hQ201, st201⟩ := kCallV X198 hx hZ (a := mo) (argsL := [(.int (nf + 1).toInt32)]) (rest := []) (c_at l Z a0 hw mo (nf + 1 + nr) (gm nf gf gr) (nf + 1).toInt32 cs fv T173.heap n0 O SS ⟨Em, my, Vm, Cm, Jm⟩ (by omega) ⟨by rw [toI (by omega)]; omega, by rw [toI (by omega)]; omega⟩ (gm_ch Cgf Cgr)) hown (hw _ (List.mem_of_getElem? (i := 245) rfl)) (hw _ (List.mem_of_getElem? (i := 246) rfl)) (notFace_of_selects (args := #[]) (mvT hZ (hw _ (List.mem_of_getElem? (i := 248) rfl)))) (hw _ (List.mem_of_getElem? (i := 248) rfl)) (hw _ (List.mem_of_getElem? (i := 247) rfl)) (hw _ (List.mem_of_getElem? (i := 10) rfl)) (hw _ (List.mem_of_getElem? (i := 249) rfl)) (by decide) e198 Em (g := (mkF m 206 #[.val (.int q0), .val (.int q1), .val (.int q2), .val (.ref fo), .val (.ref rq), .val (.ref ru), .val (.ref x), .val (.ref vi), .val (.ref fo), .val (.ref ru), .val (.ref mo), .val (.int nf.toInt32), .val (.int nr.toInt32)] [(.int (nf + 1).toInt32), (.ref mo)])) rfl (by rw [hml]; rfl) (lenOf pd_33 rfl) rfl (W := 0) (by show 2 * 0 + _ ≤ _; exact Nat.le_of_eq rfl) (hb hby at_206) (by decide) (by decide) (by decide) (by decide)
        obtain ⟨rfl, rfl, e201⟩ := hQ201
        rw [List.append_nil] at X201
        refine GoOn.step st201 ?_
        show GoOn p e below _ (T201.setTop (mkF m 209 #[.val (.int q0), .val (.int q1), .val (.int q2), .val (.ref fo), .val (.ref rq), .val (.ref ru), .val (.ref x), .val (.ref vi), .val (.ref fo), .val (.ref ru), .val (.ref mo), .val (.int nf.toInt32), .val (.int nr.toInt32)] [(.int ((gm nf gf gr) (nf + 1).toInt32.toNatClampNeg))]))
        refine GoOn.step (fun t₀ k₀ => XS.aload X201.here hx rfl (hb hby at_209) rfl rfl k₀) ?_
        show GoOn p e below _ (T201.setTop (mkF m 211 #[.val (.int q0), .val (.int q1), .val (.int q2), .val (.ref fo), .val (.ref rq), .val (.ref ru), .val (.ref x), .val (.ref vi), .val (.ref fo), .val (.ref ru), .val (.ref mo), .val (.int nf.toInt32), .val (.int nr.toInt32)] [(.ref rq), (.int ((gm nf gf gr) (nf + 1).toInt32.toNatClampNeg))]))
        refine GoOn.step (fun t₀ k₀ => XS.iconst X201.here hx rfl (hb hby at_211) k₀) ?_
        show GoOn p e below _ (T201.setTop (mkF m 212 #[.val (.int q0), .val (.int q1), .val (.int q2), .val (.ref fo), .val (.ref rq), .val (.ref ru), .val (.ref x), .val (.ref vi), .val (.ref fo), .val (.ref ru), .val (.ref mo), .val (.int nf.toInt32), .val (.int nr.toInt32)] [(.int (0 : Int32)), (.ref rq), (.int ((gm nf gf gr) (nf + 1).toInt32.toNatClampNeg))]))
        obtain ⟨_, T202, L202, X202, hQ202, st202⟩ := kCallV X201 hx hZ (a := rq) (argsL := [(.int (0 : Int32))]) (rest := [(.int ((gm nf gf gr) (nf + 1).toInt32.toNatClampNeg))]) (c_at l Z a0 hw rq nr gr (0 : Int32) cs fv T173.heap n0 O SS ⟨Er, ry, Vr, Cr, Jr⟩ (by omega) ⟨by decide, (by have := k0i; omega)⟩ Cgr) hown (hw _ (List.mem_of_getElem? (i := 245) rfl)) (hw _ (List.mem_of_getElem? (i := 246) rfl)) (notFace_of_selects (args := #[]) (mvT hZ (hw _ (List.mem_of_getElem? (i := 248) rfl)))) (hw _ (List.mem_of_getElem? (i := 248) rfl)) (hw _ (List.mem_of_getElem? (i := 247) rfl)) (hw _ (List.mem_of_getElem? (i := 10) rfl)) (hw _ (List.mem_of_getElem? (i := 249) rfl)) (by decide) e201 Er (g := (mkF m 212 #[.val (.int q0), .val (.int q1), .val (.int q2), .val (.ref fo), .val (.ref rq), .val (.ref ru), .val (.ref x), .val (.ref vi), .val (.ref fo), .val (.ref ru), .val (.ref mo), .val (.int nf.toInt32), .val (.int nr.toInt32)] [(.int (0 : Int32)), (.ref rq), (.int ((gm nf gf gr) (nf + 1).toInt32.toNatClampNeg))])) rfl (by rw [hml]; rfl) (lenOf pd_33 rfl) rfl (W := 1) (by show 2 * 0 + _ ≤ _; exact Nat.le_of_eq rfl) (hb hby at_212) (by decide) (by decide) (by decide) (by decide)
        obtain ⟨rfl, rfl, e202⟩ := hQ202
        rw [List.append_nil] at X202
        refine GoOn.step st202 ?_
        show GoOn p e below _ (T202.setTop (mkF m 215 #[.val (.int q0), .val (.int q1), .val (.int q2), .val (.ref fo), .val (.ref rq), .val (.ref ru), .val (.ref x), .val (.ref vi), .val (.ref fo), .val (.ref ru), .val (.ref mo), .val (.int nf.toInt32), .val (.int nr.toInt32)] [(.int (gr (0 : Int32).toNatClampNeg)), (.int ((gm nf gf gr) (nf + 1).toInt32.toNatClampNeg))]))
        have hf203 : ((gm nf gf gr) (nf + 1).toInt32.toNatClampNeg) = (gr (0 : Int32).toNatClampNeg) := (by rw [toN (by omega), nc0]; exact gm_r (j := 0))
        refine GoOn.step (fun t₀ k₀ => XS.icmpYes X202.here hx rfl (pc0 := 215) (pc' := 220) rfl (hb hby at_215) rfl (teq hf203).1 (by decide) (by decide) k₀) ?_
        show GoOn p e below _ (T202.setTop (mkF m 220 #[.val (.int q0), .val (.int q1), .val (.int q2), .val (.ref fo), .val (.ref rq), .val (.ref ru), .val (.ref x), .val (.ref vi), .val (.ref fo), .val (.ref ru), .val (.ref mo), .val (.int nf.toInt32), .val (.int nr.toInt32)] []))
        refine GoOn.step (fun t₀ k₀ => XS.iload X202.here hx rfl (hb hby at_220) rfl k₀) ?_
        show GoOn p e below _ (T202.setTop (mkF m 222 #[.val (.int q0), .val (.int q1), .val (.int q2), .val (.ref fo), .val (.ref rq), .val (.ref ru), .val (.ref x), .val (.ref vi), .val (.ref fo), .val (.ref ru), .val (.ref mo), .val (.int nf.toInt32), .val (.int nr.toInt32)] [(.int nr.toInt32)]))
        refine GoOn.step (fun t₀ k₀ => XS.iconst X202.here hx rfl (hb hby at_222) k₀) ?_
        show GoOn p e below _ (T202.setTop (mkF m 223 #[.val (.int q0), .val (.int q1), .val (.int q2), .val (.ref fo), .val (.ref rq), .val (.ref ru), .val (.ref x), .val (.ref vi), .val (.ref fo), .val (.ref ru), .val (.ref mo), .val (.int nf.toInt32), .val (.int nr.toInt32)] [(.int (2 : Int32)), (.int nr.toInt32)]))
        by_cases u2nr : nr.toInt32 < (2 : Int32)
        · refine GoOn.step (fun t₀ k₀ => XS.icmpYes X202.here hx rfl (pc0 := 223) (pc' := 246) rfl (hb hby at_223) rfl (tlt u2nr).1 (by decide) (by decide) k₀) ?_
          show GoOn p e below _ (T202.setTop (mkF m 246 #[.val (.int q0), .val (.int q1), .val (.int q2), .val (.ref fo), .val (.ref rq), .val (.ref ru), .val (.ref x), .val (.ref vi), .val (.ref fo), .val (.ref ru), .val (.ref mo), .val (.int nf.toInt32), .val (.int nr.toInt32)] []))
          refine GoOn.step (fun t₀ k₀ => XS.iconst X202.here hx rfl (hb hby at_246) k₀) ?_
          show GoOn p e below _ (T202.setTop (mkF m 247 #[.val (.int q0), .val (.int q1), .val (.int q2), .val (.ref fo), .val (.ref rq), .val (.ref ru), .val (.ref x), .val (.ref vi), .val (.ref fo), .val (.ref ru), .val (.ref mo), .val (.int nf.toInt32), .val (.int nr.toInt32)] [(.int (1 : Int32))]))
          exact GoOn.retNG X202 hS173 (by rw [e202]; exact hk173) hx hrt hlk (by simp) (hb hby at_247) (by decide) (by decide) (by first | exact ⟨rfl, N0⟩ | (rw [e202]; exact ⟨rfl, N0⟩))
        · refine GoOn.step (fun t₀ k₀ => XS.icmpNo X202.here hx rfl (hb hby at_223) rfl (flt u2nr).1 k₀) ?_
          show GoOn p e below _ (T202.setTop (mkF m 226 #[.val (.int q0), .val (.int q1), .val (.int q2), .val (.ref fo), .val (.ref rq), .val (.ref ru), .val (.ref x), .val (.ref vi), .val (.ref fo), .val (.ref ru), .val (.ref mo), .val (.int nf.toInt32), .val (.int nr.toInt32)] []))
          have w2nr := lt_of2 (by omega) u2nr
          refine GoOn.step (fun t₀ k₀ => XS.aload X202.here hx rfl (hb hby at_226) rfl rfl k₀) ?_
          show GoOn p e below _ (T202.setTop (mkF m 228 #[.val (.int q0), .val (.int q1), .val (.int q2), .val (.ref fo), .val (.ref rq), .val (.ref ru), .val (.ref x), .val (.ref vi), .val (.ref fo), .val (.ref ru), .val (.ref mo), .val (.int nf.toInt32), .val (.int nr.toInt32)] [(.ref mo)]))
          refine GoOn.step (fun t₀ k₀ => XS.iload X202.here hx rfl (hb hby at_228) rfl k₀) ?_
          show GoOn p e below _ (T202.setTop (mkF m 230 #[.val (.int q0), .val (.int q1), .val (.int q2), .val (.ref fo), .val (.ref rq), .val (.ref ru), .val (.ref x), .val (.ref vi), .val (.ref fo), .val (.ref ru), .val (.ref mo), .val (.int nf.toInt32), .val (.int nr.toInt32)] [(.int nf.toInt32), (.ref mo)]))
          refine GoOn.step (fun t₀ k₀ => XS.iconst X202.here hx rfl (hb hby at_230) k₀) ?_
          show GoOn p e below _ (T202.setTop (mkF m 231 #[.val (.int q0), .val (.int q1), .val (.int q2), .val (.ref fo), .val (.ref rq), .val (.ref ru), .val (.ref x), .val (.ref vi), .val (.ref fo), .val (.ref ru), .val (.ref mo), .val (.int nf.toInt32), .val (.int nr.toInt32)] [(.int (2 : Int32)), (.int nf.toInt32), (.ref mo)]))
          refine GoOn.step (fun t₀ k₀ => XS.iadd X202.here hx rfl (hb hby at_231) rfl k₀) ?_
          show GoOn p e below _ (T202.setTop (mkF m 232 #[.val (.int q0), .val (.int q1), .val (.int q2), .val (.ref fo), .val (.ref rq), .val (.ref ru), .val (.ref x), .val (.ref vi), .val (.ref fo), .val (.ref ru), .val (.ref mo), .val (.int nf.toInt32), .val (.int nr.toInt32)] [(.int (nf.toInt32 + (2 : Int32))), (.ref mo)]))
          rw [show (nf.toInt32 + (2 : Int32)) = (nf + 2).toInt32 from (sumM (by omega))]
          obtain ⟨_, T204, L204, X204, hQ204, st204⟩ := kCallV X202 hx hZ (a := mo) (argsL := [(.int (nf + 2).toInt32)]) (rest := []) (c_at l Z a0 hw mo (nf + 1 + nr) (gm nf gf gr) (nf + 2).toInt32 cs fv T173.heap n0 O SS ⟨Em, my, Vm, Cm, Jm⟩ (by omega) ⟨by rw [toI (by omega)]; omega, by rw [toI (by omega)]; omega⟩ (gm_ch Cgf Cgr)) hown (hw _ (List.mem_of_getElem? (i := 245) rfl)) (hw _ (List.mem_of_getElem? (i := 246) rfl)) (notFace_of_selects (args := #[]) (mvT hZ (hw _ (List.mem_of_getElem? (i := 248) rfl)))) (hw _ (List.mem_of_getElem? (i := 248) rfl)) (hw _ (List.mem_of_getElem? (i := 247) rfl)) (hw _ (List.mem_of_getElem? (i := 10) rfl)) (hw _ (List.mem_of_getElem? (i := 249) rfl)) (by decide) e202 Em (g := (mkF m 232 #[.val (.int q0), .val (.int q1), .val (.int q2), .val (.ref fo), .val (.ref rq), .val (.ref ru), .val (.ref x), .val (.ref vi), .val (.ref fo), .val (.ref ru), .val (.ref mo), .val (.int nf.toInt32), .val (.int nr.toInt32)] [(.int (nf + 2).toInt32), (.ref mo)])) rfl (by rw [hml]; rfl) (lenOf pd_33 rfl) rfl (W := 0) (by show 2 * 0 + _ ≤ _; exact Nat.le_of_eq rfl) (hb hby at_232) (by decide) (by decide) (by decide) (by decide)
          obtain ⟨rfl, rfl, e204⟩ := hQ204
          rw [List.append_nil] at X204
          refine GoOn.step st204 ?_
          show GoOn p e below _ (T204.setTop (mkF m 235 #[.val (.int q0), .val (.int q1), .val (.int q2), .val (.ref fo), .val (.ref rq), .val (.ref ru), .val (.ref x), .val (.ref vi), .val (.ref fo), .val (.ref ru), .val (.ref mo), .val (.int nf.toInt32), .val (.int nr.toInt32)] [(.int ((gm nf gf gr) (nf + 2).toInt32.toNatClampNeg))]))
          refine GoOn.step (fun t₀ k₀ => XS.aload X204.here hx rfl (hb hby at_235) rfl rfl k₀) ?_
          show GoOn p e below _ (T204.setTop (mkF m 237 #[.val (.int q0), .val (.int q1), .val (.int q2), .val (.ref fo), .val (.ref rq), .val (.ref ru), .val (.ref x), .val (.ref vi), .val (.ref fo), .val (.ref ru), .val (.ref mo), .val (.int nf.toInt32), .val (.int nr.toInt32)] [(.ref rq), (.int ((gm nf gf gr) (nf + 2).toInt32.toNatClampNeg))]))
          refine GoOn.step (fun t₀ k₀ => XS.iconst X204.here hx rfl (hb hby at_237) k₀) ?_
          show GoOn p e below _ (T204.setTop (mkF m 238 #[.val (.int q0), .val (.int q1), .val (.int q2), .val (.ref fo), .val (.ref rq), .val (.ref ru), .val (.ref x), .val (.ref vi), .val (.ref fo), .val (.ref ru), .val (.ref mo), .val (.int nf.toInt32), .val (.int nr.toInt32)] [(.int (1 : Int32)), (.ref rq), (.int ((gm nf gf gr) (nf + 2).toInt32.toNatClampNeg))]))
          obtain ⟨_, T205, L205, X205, hQ205, st205⟩ := kCallV X204 hx hZ (a := rq) (argsL := [(.int (1 : Int32))]) (rest := [(.int ((gm nf gf gr) (nf + 2).toInt32.toNatClampNeg))]) (c_at l Z a0 hw rq nr gr (1 : Int32) cs fv T173.heap n0 O SS ⟨Er, ry, Vr, Cr, Jr⟩ (by omega) ⟨by decide, (by have := k1i; omega)⟩ Cgr) hown (hw _ (List.mem_of_getElem? (i := 245) rfl)) (hw _ (List.mem_of_getElem? (i := 246) rfl)) (notFace_of_selects (args := #[]) (mvT hZ (hw _ (List.mem_of_getElem? (i := 248) rfl)))) (hw _ (List.mem_of_getElem? (i := 248) rfl)) (hw _ (List.mem_of_getElem? (i := 247) rfl)) (hw _ (List.mem_of_getElem? (i := 10) rfl)) (hw _ (List.mem_of_getElem? (i := 249) rfl)) (by decide) e204 Er (g := (mkF m 238 #[.val (.int q0), .val (.int q1), .val (.int q2), .val (.ref fo), .val (.ref rq), .val (.ref ru), .val (.ref x), .val (.ref vi), .val (.ref fo), .val (.ref ru), .val (.ref mo), .val (.int nf.toInt32), .val (.int nr.toInt32)] [(.int (1 : Int32)), (.ref rq), (.int ((gm nf gf gr) (nf + 2).toInt32.toNatClampNeg))])) rfl (by rw [hml]; rfl) (lenOf pd_33 rfl) rfl (W := 1) (by show 2 * 0 + _ ≤ _; exact Nat.le_of_eq rfl) (hb hby at_238) (by decide) (by decide) (by decide) (by decide)
          obtain ⟨rfl, rfl, e205⟩ := hQ205
          rw [List.append_nil] at X205
          refine GoOn.step st205 ?_
          show GoOn p e below _ (T205.setTop (mkF m 241 #[.val (.int q0), .val (.int q1), .val (.int q2), .val (.ref fo), .val (.ref rq), .val (.ref ru), .val (.ref x), .val (.ref vi), .val (.ref fo), .val (.ref ru), .val (.ref mo), .val (.int nf.toInt32), .val (.int nr.toInt32)] [(.int (gr (1 : Int32).toNatClampNeg)), (.int ((gm nf gf gr) (nf + 2).toInt32.toNatClampNeg))]))
          have hf206 : ((gm nf gf gr) (nf + 2).toInt32.toNatClampNeg) = (gr (1 : Int32).toNatClampNeg) := (by rw [toN (by omega), nc1]; exact gm_r (j := 1))
          refine GoOn.step (fun t₀ k₀ => XS.icmpYes X205.here hx rfl (pc0 := 241) (pc' := 246) rfl (hb hby at_241) rfl (teq hf206).1 (by decide) (by decide) k₀) ?_
          show GoOn p e below _ (T205.setTop (mkF m 246 #[.val (.int q0), .val (.int q1), .val (.int q2), .val (.ref fo), .val (.ref rq), .val (.ref ru), .val (.ref x), .val (.ref vi), .val (.ref fo), .val (.ref ru), .val (.ref mo), .val (.int nf.toInt32), .val (.int nr.toInt32)] []))
          refine GoOn.step (fun t₀ k₀ => XS.iconst X205.here hx rfl (hb hby at_246) k₀) ?_
          show GoOn p e below _ (T205.setTop (mkF m 247 #[.val (.int q0), .val (.int q1), .val (.int q2), .val (.ref fo), .val (.ref rq), .val (.ref ru), .val (.ref x), .val (.ref vi), .val (.ref fo), .val (.ref ru), .val (.ref mo), .val (.int nf.toInt32), .val (.int nr.toInt32)] [(.int (1 : Int32))]))
          exact GoOn.retNG X205 hS173 (by rw [e205]; exact hk173) hx hrt hlk (by simp) (hb hby at_247) (by decide) (by decide) (by first | exact ⟨rfl, N0⟩ | (rw [e205]; exact ⟨rfl, N0⟩))
    · refine GoOn.step (fun t₀ k₀ => XS.icmpNo X196.here hx rfl (hb hby at_161) rfl (flt u2nf).1 k₀) ?_
      show GoOn p e below _ (T196.setTop (mkF m 164 #[.val (.int q0), .val (.int q1), .val (.int q2), .val (.ref fo), .val (.ref rq), .val (.ref ru), .val (.ref x), .val (.ref vi), .val (.ref fo), .val (.ref ru), .val (.ref mo), .val (.int nf.toInt32), .val (.int nr.toInt32)] []))
      have w2nf := lt_of2 (by omega) u2nf
      refine GoOn.step (fun t₀ k₀ => XS.aload X196.here hx rfl (hb hby at_164) rfl rfl k₀) ?_
      show GoOn p e below _ (T196.setTop (mkF m 166 #[.val (.int q0), .val (.int q1), .val (.int q2), .val (.ref fo), .val (.ref rq), .val (.ref ru), .val (.ref x), .val (.ref vi), .val (.ref fo), .val (.ref ru), .val (.ref mo), .val (.int nf.toInt32), .val (.int nr.toInt32)] [(.ref mo)]))
      refine GoOn.step (fun t₀ k₀ => XS.iconst X196.here hx rfl (hb hby at_166) k₀) ?_
      show GoOn p e below _ (T196.setTop (mkF m 167 #[.val (.int q0), .val (.int q1), .val (.int q2), .val (.ref fo), .val (.ref rq), .val (.ref ru), .val (.ref x), .val (.ref vi), .val (.ref fo), .val (.ref ru), .val (.ref mo), .val (.int nf.toInt32), .val (.int nr.toInt32)] [(.int (1 : Int32)), (.ref mo)]))
      obtain ⟨_, T207, L207, X207, hQ207, st207⟩ := kCallV X196 hx hZ (a := mo) (argsL := [(.int (1 : Int32))]) (rest := []) (c_at l Z a0 hw mo (nf + 1 + nr) (gm nf gf gr) (1 : Int32) cs fv T173.heap n0 O SS ⟨Em, my, Vm, Cm, Jm⟩ (by omega) ⟨by decide, (by have := k1i; omega)⟩ (gm_ch Cgf Cgr)) hown (hw _ (List.mem_of_getElem? (i := 245) rfl)) (hw _ (List.mem_of_getElem? (i := 246) rfl)) (notFace_of_selects (args := #[]) (mvT hZ (hw _ (List.mem_of_getElem? (i := 248) rfl)))) (hw _ (List.mem_of_getElem? (i := 248) rfl)) (hw _ (List.mem_of_getElem? (i := 247) rfl)) (hw _ (List.mem_of_getElem? (i := 10) rfl)) (hw _ (List.mem_of_getElem? (i := 249) rfl)) (by decide) e196 Em (g := (mkF m 167 #[.val (.int q0), .val (.int q1), .val (.int q2), .val (.ref fo), .val (.ref rq), .val (.ref ru), .val (.ref x), .val (.ref vi), .val (.ref fo), .val (.ref ru), .val (.ref mo), .val (.int nf.toInt32), .val (.int nr.toInt32)] [(.int (1 : Int32)), (.ref mo)])) rfl (by rw [hml]; rfl) (lenOf pd_33 rfl) rfl (W := 0) (by show 2 * 0 + _ ≤ _; exact Nat.le_of_eq rfl) (hb hby at_167) (by decide) (by decide) (by decide) (by decide)
      obtain ⟨rfl, rfl, e207⟩ := hQ207
      rw [List.append_nil] at X207
      refine GoOn.step st207 ?_
      show GoOn p e below _ (T207.setTop (mkF m 170 #[.val (.int q0), .val (.int q1), .val (.int q2), .val (.ref fo), .val (.ref rq), .val (.ref ru), .val (.ref x), .val (.ref vi), .val (.ref fo), .val (.ref ru), .val (.ref mo), .val (.int nf.toInt32), .val (.int nr.toInt32)] [(.int ((gm nf gf gr) (1 : Int32).toNatClampNeg))]))
      refine GoOn.step (fun t₀ k₀ => XS.aloadN X207.here hx rfl (hb hby at_170) rfl rfl k₀) ?_
      show GoOn p e below _ (T207.setTop (mkF m 171 #[.val (.int q0), .val (.int q1), .val (.int q2), .val (.ref fo), .val (.ref rq), .val (.ref ru), .val (.ref x), .val (.ref vi), .val (.ref fo), .val (.ref ru), .val (.ref mo), .val (.int nf.toInt32), .val (.int nr.toInt32)] [(.ref fo), (.int ((gm nf gf gr) (1 : Int32).toNatClampNeg))]))
      refine GoOn.step (fun t₀ k₀ => XS.iconst X207.here hx rfl (hb hby at_171) k₀) ?_
      show GoOn p e below _ (T207.setTop (mkF m 172 #[.val (.int q0), .val (.int q1), .val (.int q2), .val (.ref fo), .val (.ref rq), .val (.ref ru), .val (.ref x), .val (.ref vi), .val (.ref fo), .val (.ref ru), .val (.ref mo), .val (.int nf.toInt32), .val (.int nr.toInt32)] [(.int (1 : Int32)), (.ref fo), (.int ((gm nf gf gr) (1 : Int32).toNatClampNeg))]))
      obtain ⟨_, T208, L208, X208, hQ208, st208⟩ := kCallV X207 hx hZ (a := fo) (argsL := [(.int (1 : Int32))]) (rest := [(.int ((gm nf gf gr) (1 : Int32).toNatClampNeg))]) (c_at l Z a0 hw fo nf gf (1 : Int32) cs fv T173.heap n0 O SS ⟨Ef, fy, Vf, Cf, Jf⟩ (by omega) ⟨by decide, (by have := k1i; omega)⟩ Cgf) hown (hw _ (List.mem_of_getElem? (i := 245) rfl)) (hw _ (List.mem_of_getElem? (i := 246) rfl)) (notFace_of_selects (args := #[]) (mvT hZ (hw _ (List.mem_of_getElem? (i := 248) rfl)))) (hw _ (List.mem_of_getElem? (i := 248) rfl)) (hw _ (List.mem_of_getElem? (i := 247) rfl)) (hw _ (List.mem_of_getElem? (i := 10) rfl)) (hw _ (List.mem_of_getElem? (i := 249) rfl)) (by decide) e207 Ef (g := (mkF m 172 #[.val (.int q0), .val (.int q1), .val (.int q2), .val (.ref fo), .val (.ref rq), .val (.ref ru), .val (.ref x), .val (.ref vi), .val (.ref fo), .val (.ref ru), .val (.ref mo), .val (.int nf.toInt32), .val (.int nr.toInt32)] [(.int (1 : Int32)), (.ref fo), (.int ((gm nf gf gr) (1 : Int32).toNatClampNeg))])) rfl (by rw [hml]; rfl) (lenOf pd_33 rfl) rfl (W := 1) (by show 2 * 0 + _ ≤ _; exact Nat.le_of_eq rfl) (hb hby at_172) (by decide) (by decide) (by decide) (by decide)
      obtain ⟨rfl, rfl, e208⟩ := hQ208
      rw [List.append_nil] at X208
      refine GoOn.step st208 ?_
      show GoOn p e below _ (T208.setTop (mkF m 175 #[.val (.int q0), .val (.int q1), .val (.int q2), .val (.ref fo), .val (.ref rq), .val (.ref ru), .val (.ref x), .val (.ref vi), .val (.ref fo), .val (.ref ru), .val (.ref mo), .val (.int nf.toInt32), .val (.int nr.toInt32)] [(.int (gf (1 : Int32).toNatClampNeg)), (.int ((gm nf gf gr) (1 : Int32).toNatClampNeg))]))
      have hf209 : ((gm nf gf gr) (1 : Int32).toNatClampNeg) = (gf (1 : Int32).toNatClampNeg) := (by rw [nc1]; exact gm_f (by omega))
      refine GoOn.step (fun t₀ k₀ => XS.icmpYes X208.here hx rfl (pc0 := 175) (pc' := 180) rfl (hb hby at_175) rfl (teq hf209).1 (by decide) (by decide) k₀) ?_
      show GoOn p e below _ (T208.setTop (mkF m 180 #[.val (.int q0), .val (.int q1), .val (.int q2), .val (.ref fo), .val (.ref rq), .val (.ref ru), .val (.ref x), .val (.ref vi), .val (.ref fo), .val (.ref ru), .val (.ref mo), .val (.int nf.toInt32), .val (.int nr.toInt32)] []))
      refine GoOn.step (fun t₀ k₀ => XS.aload X208.here hx rfl (hb hby at_180) rfl rfl k₀) ?_
      show GoOn p e below _ (T208.setTop (mkF m 182 #[.val (.int q0), .val (.int q1), .val (.int q2), .val (.ref fo), .val (.ref rq), .val (.ref ru), .val (.ref x), .val (.ref vi), .val (.ref fo), .val (.ref ru), .val (.ref mo), .val (.int nf.toInt32), .val (.int nr.toInt32)] [(.ref mo)]))
      refine GoOn.step (fun t₀ k₀ => XS.iload X208.here hx rfl (hb hby at_182) rfl k₀) ?_
      show GoOn p e below _ (T208.setTop (mkF m 184 #[.val (.int q0), .val (.int q1), .val (.int q2), .val (.ref fo), .val (.ref rq), .val (.ref ru), .val (.ref x), .val (.ref vi), .val (.ref fo), .val (.ref ru), .val (.ref mo), .val (.int nf.toInt32), .val (.int nr.toInt32)] [(.int nf.toInt32), (.ref mo)]))
      obtain ⟨_, T210, L210, X210, hQ210, st210⟩ := kCallV X208 hx hZ (a := mo) (argsL := [(.int nf.toInt32)]) (rest := []) (c_at l Z a0 hw mo (nf + 1 + nr) (gm nf gf gr) nf.toInt32 cs fv T173.heap n0 O SS ⟨Em, my, Vm, Cm, Jm⟩ (by omega) ⟨by rw [toI (by omega)]; omega, by rw [toI (by omega)]; omega⟩ (gm_ch Cgf Cgr)) hown (hw _ (List.mem_of_getElem? (i := 245) rfl)) (hw _ (List.mem_of_getElem? (i := 246) rfl)) (notFace_of_selects (args := #[]) (mvT hZ (hw _ (List.mem_of_getElem? (i := 248) rfl)))) (hw _ (List.mem_of_getElem? (i := 248) rfl)) (hw _ (List.mem_of_getElem? (i := 247) rfl)) (hw _ (List.mem_of_getElem? (i := 10) rfl)) (hw _ (List.mem_of_getElem? (i := 249) rfl)) (by decide) e208 Em (g := (mkF m 184 #[.val (.int q0), .val (.int q1), .val (.int q2), .val (.ref fo), .val (.ref rq), .val (.ref ru), .val (.ref x), .val (.ref vi), .val (.ref fo), .val (.ref ru), .val (.ref mo), .val (.int nf.toInt32), .val (.int nr.toInt32)] [(.int nf.toInt32), (.ref mo)])) rfl (by rw [hml]; rfl) (lenOf pd_33 rfl) rfl (W := 0) (by show 2 * 0 + _ ≤ _; exact Nat.le_of_eq rfl) (hb hby at_184) (by decide) (by decide) (by decide) (by decide)
      obtain ⟨rfl, rfl, e210⟩ := hQ210
      rw [List.append_nil] at X210
      refine GoOn.step st210 ?_
      show GoOn p e below _ (T210.setTop (mkF m 187 #[.val (.int q0), .val (.int q1), .val (.int q2), .val (.ref fo), .val (.ref rq), .val (.ref ru), .val (.ref x), .val (.ref vi), .val (.ref fo), .val (.ref ru), .val (.ref mo), .val (.int nf.toInt32), .val (.int nr.toInt32)] [(.int ((gm nf gf gr) nf.toInt32.toNatClampNeg))]))
      refine GoOn.step (fun t₀ k₀ => XS.bipush X210.here hx rfl (hb hby at_187) k₀) ?_
      show GoOn p e below _ (T210.setTop (mkF m 189 #[.val (.int q0), .val (.int q1), .val (.int q2), .val (.ref fo), .val (.ref rq), .val (.ref ru), .val (.ref x), .val (.ref vi), .val (.ref fo), .val (.ref ru), .val (.ref mo), .val (.int nf.toInt32), .val (.int nr.toInt32)] [(.int (32 : Int32)), (.int ((gm nf gf gr) nf.toInt32.toNatClampNeg))]))
      have hf211 : ((gm nf gf gr) nf.toInt32.toNatClampNeg) = (32 : Int32) := (by rw [toN (by omega)]; exact gm_s)
      refine GoOn.step (fun t₀ k₀ => XS.icmpYes X210.here hx rfl (pc0 := 189) (pc' := 194) rfl (hb hby at_189) rfl (teq hf211).1 (by decide) (by decide) k₀) ?_
      show GoOn p e below _ (T210.setTop (mkF m 194 #[.val (.int q0), .val (.int q1), .val (.int q2), .val (.ref fo), .val (.ref rq), .val (.ref ru), .val (.ref x), .val (.ref vi), .val (.ref fo), .val (.ref ru), .val (.ref mo), .val (.int nf.toInt32), .val (.int nr.toInt32)] []))
      refine GoOn.step (fun t₀ k₀ => XS.iload X210.here hx rfl (hb hby at_194) rfl k₀) ?_
      show GoOn p e below _ (T210.setTop (mkF m 196 #[.val (.int q0), .val (.int q1), .val (.int q2), .val (.ref fo), .val (.ref rq), .val (.ref ru), .val (.ref x), .val (.ref vi), .val (.ref fo), .val (.ref ru), .val (.ref mo), .val (.int nf.toInt32), .val (.int nr.toInt32)] [(.int nr.toInt32)]))
      refine GoOn.step (fun t₀ k₀ => XS.iconst X210.here hx rfl (hb hby at_196) k₀) ?_
      show GoOn p e below _ (T210.setTop (mkF m 197 #[.val (.int q0), .val (.int q1), .val (.int q2), .val (.ref fo), .val (.ref rq), .val (.ref ru), .val (.ref x), .val (.ref vi), .val (.ref fo), .val (.ref ru), .val (.ref mo), .val (.int nf.toInt32), .val (.int nr.toInt32)] [(.int (1 : Int32)), (.int nr.toInt32)]))
      by_cases u1nr : nr.toInt32 < (1 : Int32)
      · refine GoOn.step (fun t₀ k₀ => XS.icmpYes X210.here hx rfl (pc0 := 197) (pc' := 220) rfl (hb hby at_197) rfl (tlt u1nr).1 (by decide) (by decide) k₀) ?_
        show GoOn p e below _ (T210.setTop (mkF m 220 #[.val (.int q0), .val (.int q1), .val (.int q2), .val (.ref fo), .val (.ref rq), .val (.ref ru), .val (.ref x), .val (.ref vi), .val (.ref fo), .val (.ref ru), .val (.ref mo), .val (.int nf.toInt32), .val (.int nr.toInt32)] []))
        refine GoOn.step (fun t₀ k₀ => XS.iload X210.here hx rfl (hb hby at_220) rfl k₀) ?_
        show GoOn p e below _ (T210.setTop (mkF m 222 #[.val (.int q0), .val (.int q1), .val (.int q2), .val (.ref fo), .val (.ref rq), .val (.ref ru), .val (.ref x), .val (.ref vi), .val (.ref fo), .val (.ref ru), .val (.ref mo), .val (.int nf.toInt32), .val (.int nr.toInt32)] [(.int nr.toInt32)]))
        refine GoOn.step (fun t₀ k₀ => XS.iconst X210.here hx rfl (hb hby at_222) k₀) ?_
        show GoOn p e below _ (T210.setTop (mkF m 223 #[.val (.int q0), .val (.int q1), .val (.int q2), .val (.ref fo), .val (.ref rq), .val (.ref ru), .val (.ref x), .val (.ref vi), .val (.ref fo), .val (.ref ru), .val (.ref mo), .val (.int nf.toInt32), .val (.int nr.toInt32)] [(.int (2 : Int32)), (.int nr.toInt32)]))
        have hf212 : nr.toInt32 < (2 : Int32) := (lt_12 (by omega) u1nr)
        refine GoOn.step (fun t₀ k₀ => XS.icmpYes X210.here hx rfl (pc0 := 223) (pc' := 246) rfl (hb hby at_223) rfl (tlt hf212).1 (by decide) (by decide) k₀) ?_
        show GoOn p e below _ (T210.setTop (mkF m 246 #[.val (.int q0), .val (.int q1), .val (.int q2), .val (.ref fo), .val (.ref rq), .val (.ref ru), .val (.ref x), .val (.ref vi), .val (.ref fo), .val (.ref ru), .val (.ref mo), .val (.int nf.toInt32), .val (.int nr.toInt32)] []))
        refine GoOn.step (fun t₀ k₀ => XS.iconst X210.here hx rfl (hb hby at_246) k₀) ?_
        show GoOn p e below _ (T210.setTop (mkF m 247 #[.val (.int q0), .val (.int q1), .val (.int q2), .val (.ref fo), .val (.ref rq), .val (.ref ru), .val (.ref x), .val (.ref vi), .val (.ref fo), .val (.ref ru), .val (.ref mo), .val (.int nf.toInt32), .val (.int nr.toInt32)] [(.int (1 : Int32))]))
        exact GoOn.retNG X210 hS173 (by rw [e210]; exact hk173) hx hrt hlk (by simp) (hb hby at_247) (by decide) (by decide) (by first | exact ⟨rfl, N0⟩ | (rw [e210]; exact ⟨rfl, N0⟩))
      · refine GoOn.step (fun t₀ k₀ => XS.icmpNo X210.here hx rfl (hb hby at_197) rfl (flt u1nr).1 k₀) ?_
        show GoOn p e below _ (T210.setTop (mkF m 200 #[.val (.int q0), .val (.int q1), .val (.int q2), .val (.ref fo), .val (.ref rq), .val (.ref ru), .val (.ref x), .val (.ref vi), .val (.ref fo), .val (.ref ru), .val (.ref mo), .val (.int nf.toInt32), .val (.int nr.toInt32)] []))
        have w1nr := lt_of1 (by omega) u1nr
        refine GoOn.step (fun t₀ k₀ => XS.aload X210.here hx rfl (hb hby at_200) rfl rfl k₀) ?_
        show GoOn p e below _ (T210.setTop (mkF m 202 #[.val (.int q0), .val (.int q1), .val (.int q2), .val (.ref fo), .val (.ref rq), .val (.ref ru), .val (.ref x), .val (.ref vi), .val (.ref fo), .val (.ref ru), .val (.ref mo), .val (.int nf.toInt32), .val (.int nr.toInt32)] [(.ref mo)]))
        refine GoOn.step (fun t₀ k₀ => XS.iload X210.here hx rfl (hb hby at_202) rfl k₀) ?_
        show GoOn p e below _ (T210.setTop (mkF m 204 #[.val (.int q0), .val (.int q1), .val (.int q2), .val (.ref fo), .val (.ref rq), .val (.ref ru), .val (.ref x), .val (.ref vi), .val (.ref fo), .val (.ref ru), .val (.ref mo), .val (.int nf.toInt32), .val (.int nr.toInt32)] [(.int nf.toInt32), (.ref mo)]))
        refine GoOn.step (fun t₀ k₀ => XS.iconst X210.here hx rfl (hb hby at_204) k₀) ?_
        show GoOn p e below _ (T210.setTop (mkF m 205 #[.val (.int q0), .val (.int q1), .val (.int q2), .val (.ref fo), .val (.ref rq), .val (.ref ru), .val (.ref x), .val (.ref vi), .val (.ref fo), .val (.ref ru), .val (.ref mo), .val (.int nf.toInt32), .val (.int nr.toInt32)] [(.int (1 : Int32)), (.int nf.toInt32), (.ref mo)]))
        refine GoOn.step (fun t₀ k₀ => XS.iadd X210.here hx rfl (hb hby at_205) rfl k₀) ?_
        show GoOn p e below _ (T210.setTop (mkF m 206 #[.val (.int q0), .val (.int q1), .val (.int q2), .val (.ref fo), .val (.ref rq), .val (.ref ru), .val (.ref x), .val (.ref vi), .val (.ref fo), .val (.ref ru), .val (.ref mo), .val (.int nf.toInt32), .val (.int nr.toInt32)] [(.int (nf.toInt32 + (1 : Int32))), (.ref mo)]))
        rw [show (nf.toInt32 + (1 : Int32)) = (nf + 1).toInt32 from (sumN (by omega))]
        obtain ⟨_, T213, L213, X213, hQ213, st213⟩ := kCallV X210 hx hZ (a := mo) (argsL := [(.int (nf + 1).toInt32)]) (rest := []) (c_at l Z a0 hw mo (nf + 1 + nr) (gm nf gf gr) (nf + 1).toInt32 cs fv T173.heap n0 O SS ⟨Em, my, Vm, Cm, Jm⟩ (by omega) ⟨by rw [toI (by omega)]; omega, by rw [toI (by omega)]; omega⟩ (gm_ch Cgf Cgr)) hown (hw _ (List.mem_of_getElem? (i := 245) rfl)) (hw _ (List.mem_of_getElem? (i := 246) rfl)) (notFace_of_selects (args := #[]) (mvT hZ (hw _ (List.mem_of_getElem? (i := 248) rfl)))) (hw _ (List.mem_of_getElem? (i := 248) rfl)) (hw _ (List.mem_of_getElem? (i := 247) rfl)) (hw _ (List.mem_of_getElem? (i := 10) rfl)) (hw _ (List.mem_of_getElem? (i := 249) rfl)) (by decide) e210 Em (g := (mkF m 206 #[.val (.int q0), .val (.int q1), .val (.int q2), .val (.ref fo), .val (.ref rq), .val (.ref ru), .val (.ref x), .val (.ref vi), .val (.ref fo), .val (.ref ru), .val (.ref mo), .val (.int nf.toInt32), .val (.int nr.toInt32)] [(.int (nf + 1).toInt32), (.ref mo)])) rfl (by rw [hml]; rfl) (lenOf pd_33 rfl) rfl (W := 0) (by show 2 * 0 + _ ≤ _; exact Nat.le_of_eq rfl) (hb hby at_206) (by decide) (by decide) (by decide) (by decide)
        obtain ⟨rfl, rfl, e213⟩ := hQ213
        rw [List.append_nil] at X213
        refine GoOn.step st213 ?_
        show GoOn p e below _ (T213.setTop (mkF m 209 #[.val (.int q0), .val (.int q1), .val (.int q2), .val (.ref fo), .val (.ref rq), .val (.ref ru), .val (.ref x), .val (.ref vi), .val (.ref fo), .val (.ref ru), .val (.ref mo), .val (.int nf.toInt32), .val (.int nr.toInt32)] [(.int ((gm nf gf gr) (nf + 1).toInt32.toNatClampNeg))]))
        refine GoOn.step (fun t₀ k₀ => XS.aload X213.here hx rfl (hb hby at_209) rfl rfl k₀) ?_
        show GoOn p e below _ (T213.setTop (mkF m 211 #[.val (.int q0), .val (.int q1), .val (.int q2), .val (.ref fo), .val (.ref rq), .val (.ref ru), .val (.ref x), .val (.ref vi), .val (.ref fo), .val (.ref ru), .val (.ref mo), .val (.int nf.toInt32), .val (.int nr.toInt32)] [(.ref rq), (.int ((gm nf gf gr) (nf + 1).toInt32.toNatClampNeg))]))
        refine GoOn.step (fun t₀ k₀ => XS.iconst X213.here hx rfl (hb hby at_211) k₀) ?_
        show GoOn p e below _ (T213.setTop (mkF m 212 #[.val (.int q0), .val (.int q1), .val (.int q2), .val (.ref fo), .val (.ref rq), .val (.ref ru), .val (.ref x), .val (.ref vi), .val (.ref fo), .val (.ref ru), .val (.ref mo), .val (.int nf.toInt32), .val (.int nr.toInt32)] [(.int (0 : Int32)), (.ref rq), (.int ((gm nf gf gr) (nf + 1).toInt32.toNatClampNeg))]))
        obtain ⟨_, T214, L214, X214, hQ214, st214⟩ := kCallV X213 hx hZ (a := rq) (argsL := [(.int (0 : Int32))]) (rest := [(.int ((gm nf gf gr) (nf + 1).toInt32.toNatClampNeg))]) (c_at l Z a0 hw rq nr gr (0 : Int32) cs fv T173.heap n0 O SS ⟨Er, ry, Vr, Cr, Jr⟩ (by omega) ⟨by decide, (by have := k0i; omega)⟩ Cgr) hown (hw _ (List.mem_of_getElem? (i := 245) rfl)) (hw _ (List.mem_of_getElem? (i := 246) rfl)) (notFace_of_selects (args := #[]) (mvT hZ (hw _ (List.mem_of_getElem? (i := 248) rfl)))) (hw _ (List.mem_of_getElem? (i := 248) rfl)) (hw _ (List.mem_of_getElem? (i := 247) rfl)) (hw _ (List.mem_of_getElem? (i := 10) rfl)) (hw _ (List.mem_of_getElem? (i := 249) rfl)) (by decide) e213 Er (g := (mkF m 212 #[.val (.int q0), .val (.int q1), .val (.int q2), .val (.ref fo), .val (.ref rq), .val (.ref ru), .val (.ref x), .val (.ref vi), .val (.ref fo), .val (.ref ru), .val (.ref mo), .val (.int nf.toInt32), .val (.int nr.toInt32)] [(.int (0 : Int32)), (.ref rq), (.int ((gm nf gf gr) (nf + 1).toInt32.toNatClampNeg))])) rfl (by rw [hml]; rfl) (lenOf pd_33 rfl) rfl (W := 1) (by show 2 * 0 + _ ≤ _; exact Nat.le_of_eq rfl) (hb hby at_212) (by decide) (by decide) (by decide) (by decide)
        obtain ⟨rfl, rfl, e214⟩ := hQ214
        rw [List.append_nil] at X214
        refine GoOn.step st214 ?_
        show GoOn p e below _ (T214.setTop (mkF m 215 #[.val (.int q0), .val (.int q1), .val (.int q2), .val (.ref fo), .val (.ref rq), .val (.ref ru), .val (.ref x), .val (.ref vi), .val (.ref fo), .val (.ref ru), .val (.ref mo), .val (.int nf.toInt32), .val (.int nr.toInt32)] [(.int (gr (0 : Int32).toNatClampNeg)), (.int ((gm nf gf gr) (nf + 1).toInt32.toNatClampNeg))]))
        have hf215 : ((gm nf gf gr) (nf + 1).toInt32.toNatClampNeg) = (gr (0 : Int32).toNatClampNeg) := (by rw [toN (by omega), nc0]; exact gm_r (j := 0))
        refine GoOn.step (fun t₀ k₀ => XS.icmpYes X214.here hx rfl (pc0 := 215) (pc' := 220) rfl (hb hby at_215) rfl (teq hf215).1 (by decide) (by decide) k₀) ?_
        show GoOn p e below _ (T214.setTop (mkF m 220 #[.val (.int q0), .val (.int q1), .val (.int q2), .val (.ref fo), .val (.ref rq), .val (.ref ru), .val (.ref x), .val (.ref vi), .val (.ref fo), .val (.ref ru), .val (.ref mo), .val (.int nf.toInt32), .val (.int nr.toInt32)] []))
        refine GoOn.step (fun t₀ k₀ => XS.iload X214.here hx rfl (hb hby at_220) rfl k₀) ?_
        show GoOn p e below _ (T214.setTop (mkF m 222 #[.val (.int q0), .val (.int q1), .val (.int q2), .val (.ref fo), .val (.ref rq), .val (.ref ru), .val (.ref x), .val (.ref vi), .val (.ref fo), .val (.ref ru), .val (.ref mo), .val (.int nf.toInt32), .val (.int nr.toInt32)] [(.int nr.toInt32)]))
        refine GoOn.step (fun t₀ k₀ => XS.iconst X214.here hx rfl (hb hby at_222) k₀) ?_
        show GoOn p e below _ (T214.setTop (mkF m 223 #[.val (.int q0), .val (.int q1), .val (.int q2), .val (.ref fo), .val (.ref rq), .val (.ref ru), .val (.ref x), .val (.ref vi), .val (.ref fo), .val (.ref ru), .val (.ref mo), .val (.int nf.toInt32), .val (.int nr.toInt32)] [(.int (2 : Int32)), (.int nr.toInt32)]))
        by_cases u2nr : nr.toInt32 < (2 : Int32)
        · refine GoOn.step (fun t₀ k₀ => XS.icmpYes X214.here hx rfl (pc0 := 223) (pc' := 246) rfl (hb hby at_223) rfl (tlt u2nr).1 (by decide) (by decide) k₀) ?_
          show GoOn p e below _ (T214.setTop (mkF m 246 #[.val (.int q0), .val (.int q1), .val (.int q2), .val (.ref fo), .val (.ref rq), .val (.ref ru), .val (.ref x), .val (.ref vi), .val (.ref fo), .val (.ref ru), .val (.ref mo), .val (.int nf.toInt32), .val (.int nr.toInt32)] []))
          refine GoOn.step (fun t₀ k₀ => XS.iconst X214.here hx rfl (hb hby at_246) k₀) ?_
          show GoOn p e below _ (T214.setTop (mkF m 247 #[.val (.int q0), .val (.int q1), .val (.int q2), .val (.ref fo), .val (.ref rq), .val (.ref ru), .val (.ref x), .val (.ref vi), .val (.ref fo), .val (.ref ru), .val (.ref mo), .val (.int nf.toInt32), .val (.int nr.toInt32)] [(.int (1 : Int32))]))
          exact GoOn.retNG X214 hS173 (by rw [e214]; exact hk173) hx hrt hlk (by simp) (hb hby at_247) (by decide) (by decide) (by first | exact ⟨rfl, N0⟩ | (rw [e214]; exact ⟨rfl, N0⟩))
        · refine GoOn.step (fun t₀ k₀ => XS.icmpNo X214.here hx rfl (hb hby at_223) rfl (flt u2nr).1 k₀) ?_
          show GoOn p e below _ (T214.setTop (mkF m 226 #[.val (.int q0), .val (.int q1), .val (.int q2), .val (.ref fo), .val (.ref rq), .val (.ref ru), .val (.ref x), .val (.ref vi), .val (.ref fo), .val (.ref ru), .val (.ref mo), .val (.int nf.toInt32), .val (.int nr.toInt32)] []))
          have w2nr := lt_of2 (by omega) u2nr
          refine GoOn.step (fun t₀ k₀ => XS.aload X214.here hx rfl (hb hby at_226) rfl rfl k₀) ?_
          show GoOn p e below _ (T214.setTop (mkF m 228 #[.val (.int q0), .val (.int q1), .val (.int q2), .val (.ref fo), .val (.ref rq), .val (.ref ru), .val (.ref x), .val (.ref vi), .val (.ref fo), .val (.ref ru), .val (.ref mo), .val (.int nf.toInt32), .val (.int nr.toInt32)] [(.ref mo)]))
          refine GoOn.step (fun t₀ k₀ => XS.iload X214.here hx rfl (hb hby at_228) rfl k₀) ?_
          show GoOn p e below _ (T214.setTop (mkF m 230 #[.val (.int q0), .val (.int q1), .val (.int q2), .val (.ref fo), .val (.ref rq), .val (.ref ru), .val (.ref x), .val (.ref vi), .val (.ref fo), .val (.ref ru), .val (.ref mo), .val (.int nf.toInt32), .val (.int nr.toInt32)] [(.int nf.toInt32), (.ref mo)]))
          refine GoOn.step (fun t₀ k₀ => XS.iconst X214.here hx rfl (hb hby at_230) k₀) ?_
          show GoOn p e below _ (T214.setTop (mkF m 231 #[.val (.int q0), .val (.int q1), .val (.int q2), .val (.ref fo), .val (.ref rq), .val (.ref ru), .val (.ref x), .val (.ref vi), .val (.ref fo), .val (.ref ru), .val (.ref mo), .val (.int nf.toInt32), .val (.int nr.toInt32)] [(.int (2 : Int32)), (.int nf.toInt32), (.ref mo)]))
          refine GoOn.step (fun t₀ k₀ => XS.iadd X214.here hx rfl (hb hby at_231) rfl k₀) ?_
          show GoOn p e below _ (T214.setTop (mkF m 232 #[.val (.int q0), .val (.int q1), .val (.int q2), .val (.ref fo), .val (.ref rq), .val (.ref ru), .val (.ref x), .val (.ref vi), .val (.ref fo), .val (.ref ru), .val (.ref mo), .val (.int nf.toInt32), .val (.int nr.toInt32)] [(.int (nf.toInt32 + (2 : Int32))), (.ref mo)]))
          rw [show (nf.toInt32 + (2 : Int32)) = (nf + 2).toInt32 from (sumM (by omega))]
          obtain ⟨_, T216, L216, X216, hQ216, st216⟩ := kCallV X214 hx hZ (a := mo) (argsL := [(.int (nf + 2).toInt32)]) (rest := []) (c_at l Z a0 hw mo (nf + 1 + nr) (gm nf gf gr) (nf + 2).toInt32 cs fv T173.heap n0 O SS ⟨Em, my, Vm, Cm, Jm⟩ (by omega) ⟨by rw [toI (by omega)]; omega, by rw [toI (by omega)]; omega⟩ (gm_ch Cgf Cgr)) hown (hw _ (List.mem_of_getElem? (i := 245) rfl)) (hw _ (List.mem_of_getElem? (i := 246) rfl)) (notFace_of_selects (args := #[]) (mvT hZ (hw _ (List.mem_of_getElem? (i := 248) rfl)))) (hw _ (List.mem_of_getElem? (i := 248) rfl)) (hw _ (List.mem_of_getElem? (i := 247) rfl)) (hw _ (List.mem_of_getElem? (i := 10) rfl)) (hw _ (List.mem_of_getElem? (i := 249) rfl)) (by decide) e214 Em (g := (mkF m 232 #[.val (.int q0), .val (.int q1), .val (.int q2), .val (.ref fo), .val (.ref rq), .val (.ref ru), .val (.ref x), .val (.ref vi), .val (.ref fo), .val (.ref ru), .val (.ref mo), .val (.int nf.toInt32), .val (.int nr.toInt32)] [(.int (nf + 2).toInt32), (.ref mo)])) rfl (by rw [hml]; rfl) (lenOf pd_33 rfl) rfl (W := 0) (by show 2 * 0 + _ ≤ _; exact Nat.le_of_eq rfl) (hb hby at_232) (by decide) (by decide) (by decide) (by decide)
          obtain ⟨rfl, rfl, e216⟩ := hQ216
          rw [List.append_nil] at X216
          refine GoOn.step st216 ?_
          show GoOn p e below _ (T216.setTop (mkF m 235 #[.val (.int q0), .val (.int q1), .val (.int q2), .val (.ref fo), .val (.ref rq), .val (.ref ru), .val (.ref x), .val (.ref vi), .val (.ref fo), .val (.ref ru), .val (.ref mo), .val (.int nf.toInt32), .val (.int nr.toInt32)] [(.int ((gm nf gf gr) (nf + 2).toInt32.toNatClampNeg))]))
          refine GoOn.step (fun t₀ k₀ => XS.aload X216.here hx rfl (hb hby at_235) rfl rfl k₀) ?_
          show GoOn p e below _ (T216.setTop (mkF m 237 #[.val (.int q0), .val (.int q1), .val (.int q2), .val (.ref fo), .val (.ref rq), .val (.ref ru), .val (.ref x), .val (.ref vi), .val (.ref fo), .val (.ref ru), .val (.ref mo), .val (.int nf.toInt32), .val (.int nr.toInt32)] [(.ref rq), (.int ((gm nf gf gr) (nf + 2).toInt32.toNatClampNeg))]))
          refine GoOn.step (fun t₀ k₀ => XS.iconst X216.here hx rfl (hb hby at_237) k₀) ?_
          show GoOn p e below _ (T216.setTop (mkF m 238 #[.val (.int q0), .val (.int q1), .val (.int q2), .val (.ref fo), .val (.ref rq), .val (.ref ru), .val (.ref x), .val (.ref vi), .val (.ref fo), .val (.ref ru), .val (.ref mo), .val (.int nf.toInt32), .val (.int nr.toInt32)] [(.int (1 : Int32)), (.ref rq), (.int ((gm nf gf gr) (nf + 2).toInt32.toNatClampNeg))]))
          obtain ⟨_, T217, L217, X217, hQ217, st217⟩ := kCallV X216 hx hZ (a := rq) (argsL := [(.int (1 : Int32))]) (rest := [(.int ((gm nf gf gr) (nf + 2).toInt32.toNatClampNeg))]) (c_at l Z a0 hw rq nr gr (1 : Int32) cs fv T173.heap n0 O SS ⟨Er, ry, Vr, Cr, Jr⟩ (by omega) ⟨by decide, (by have := k1i; omega)⟩ Cgr) hown (hw _ (List.mem_of_getElem? (i := 245) rfl)) (hw _ (List.mem_of_getElem? (i := 246) rfl)) (notFace_of_selects (args := #[]) (mvT hZ (hw _ (List.mem_of_getElem? (i := 248) rfl)))) (hw _ (List.mem_of_getElem? (i := 248) rfl)) (hw _ (List.mem_of_getElem? (i := 247) rfl)) (hw _ (List.mem_of_getElem? (i := 10) rfl)) (hw _ (List.mem_of_getElem? (i := 249) rfl)) (by decide) e216 Er (g := (mkF m 238 #[.val (.int q0), .val (.int q1), .val (.int q2), .val (.ref fo), .val (.ref rq), .val (.ref ru), .val (.ref x), .val (.ref vi), .val (.ref fo), .val (.ref ru), .val (.ref mo), .val (.int nf.toInt32), .val (.int nr.toInt32)] [(.int (1 : Int32)), (.ref rq), (.int ((gm nf gf gr) (nf + 2).toInt32.toNatClampNeg))])) rfl (by rw [hml]; rfl) (lenOf pd_33 rfl) rfl (W := 1) (by show 2 * 0 + _ ≤ _; exact Nat.le_of_eq rfl) (hb hby at_238) (by decide) (by decide) (by decide) (by decide)
          obtain ⟨rfl, rfl, e217⟩ := hQ217
          rw [List.append_nil] at X217
          refine GoOn.step st217 ?_
          show GoOn p e below _ (T217.setTop (mkF m 241 #[.val (.int q0), .val (.int q1), .val (.int q2), .val (.ref fo), .val (.ref rq), .val (.ref ru), .val (.ref x), .val (.ref vi), .val (.ref fo), .val (.ref ru), .val (.ref mo), .val (.int nf.toInt32), .val (.int nr.toInt32)] [(.int (gr (1 : Int32).toNatClampNeg)), (.int ((gm nf gf gr) (nf + 2).toInt32.toNatClampNeg))]))
          have hf218 : ((gm nf gf gr) (nf + 2).toInt32.toNatClampNeg) = (gr (1 : Int32).toNatClampNeg) := (by rw [toN (by omega), nc1]; exact gm_r (j := 1))
          refine GoOn.step (fun t₀ k₀ => XS.icmpYes X217.here hx rfl (pc0 := 241) (pc' := 246) rfl (hb hby at_241) rfl (teq hf218).1 (by decide) (by decide) k₀) ?_
          show GoOn p e below _ (T217.setTop (mkF m 246 #[.val (.int q0), .val (.int q1), .val (.int q2), .val (.ref fo), .val (.ref rq), .val (.ref ru), .val (.ref x), .val (.ref vi), .val (.ref fo), .val (.ref ru), .val (.ref mo), .val (.int nf.toInt32), .val (.int nr.toInt32)] []))
          refine GoOn.step (fun t₀ k₀ => XS.iconst X217.here hx rfl (hb hby at_246) k₀) ?_
          show GoOn p e below _ (T217.setTop (mkF m 247 #[.val (.int q0), .val (.int q1), .val (.int q2), .val (.ref fo), .val (.ref rq), .val (.ref ru), .val (.ref x), .val (.ref vi), .val (.ref fo), .val (.ref ru), .val (.ref mo), .val (.int nf.toInt32), .val (.int nr.toInt32)] [(.int (1 : Int32))]))
          exact GoOn.retNG X217 hS173 (by rw [e217]; exact hk173) hx hrt hlk (by simp) (hb hby at_247) (by decide) (by decide) (by first | exact ⟨rfl, N0⟩ | (rw [e217]; exact ⟨rfl, N0⟩))
theorem neqI {s : State} {args : Array Value} {t : Term} {n k : Int32} (ev : t.eval args s none [] s = some (.int k)) (w : (Jvm.Cond.not (Jvm.Cond.eq t (.int n))).value args s none s [] = some true) : k ≠ n := by
  simpa [Cond.value, Term.eval, ev] using w
theorem isR_v {s : State} {args : Array Value} {t : Term} (w : (Jvm.Cond.isRef t).value args s none s [] = some true) : ∃ v, t.eval args s none [] s = some v ∧ v.isRef = true := by
  cases ht : t.eval args s none [] s with
  | none => simp [Cond.value, ht] at w
  | some x => exact ⟨x, rfl, by cases x <;> simp_all [Cond.value, Value.isRef]⟩
theorem stt_of {s : State} {args : Array Value} (hsets : ∀ d ∈ jdkStatics_1, d.before args s = true) : ∃ cs fv, Stt s cs fv := by
  obtain ⟨cs, ev⟩ := is_v (Cond.before_iff.mp (hsets _ (List.mem_of_getElem? (i := 21) rfl)))
  have hne := Cond.before_iff.mp (hsets _ (List.mem_of_getElem? (i := 22) rfl))
  obtain ⟨fv, ef, hf⟩ := isR_v (Cond.before_iff.mp (hsets _ (List.mem_of_getElem? (i := 28) rfl)))
  refine ⟨cs, fv, ?_, hf, Sta.start ev (Or.inl (hsets _ (List.mem_of_getElem? (i := 20) rfl))), Sta.start ef (Or.inl (hsets _ (List.mem_of_getElem? (i := 27) rfl)))⟩
  exact neqI ev hne
theorem tst_of {s : State} {args : Array Value} (hsets : ∀ d ∈ jdkStatics_1, d.before args s = true) : ∃ us sn, Tst s us sn := by
  obtain ⟨us, e1, h1⟩ := isR_v (Cond.before_iff.mp (hsets _ (List.mem_of_getElem? (i := 7) rfl)))
  obtain ⟨sn, e2, h2⟩ := isR_v (Cond.before_iff.mp (hsets _ (List.mem_of_getElem? (i := 12) rfl)))
  exact ⟨us, sn, h1, h2, Sta.start e1 (Or.inl (hsets _ (List.mem_of_getElem? (i := 6) rfl))), Sta.start e2 (Or.inl (hsets _ (List.mem_of_getElem? (i := 11) rfl)))⟩
set_option maxRecDepth 65536 in
set_option maxHeartbeats 40000000 in
theorem comes_1 {Post : Tables → Env → Array Value → State → Outcome → State → Prop} (hpost : ∀ tb e args s v u, (limb_1_1.after args s (.returned v) u = true ∧ limb_1_2.after args s (.returned v) u = true ∧ True) → ReturnedEndW s (.returned v) u (Jvm.fieldLocs frame_1_writes args s ++ Jvm.arrayLocs frame_1_arrays args s ++ Jvm.staticLocs frame_1_statics s) 48 7808 → Post tb e args s (.returned v) u) :
    ArmFor flags0 classFile x code maxLocals ret World_1 tables_1 room_1 Calls_1 rest_1 Pre_1 Post := by
  intro l hfl _ _ p e ha hc hk s m args below hf hA hF happ hP
  obtain ⟨hcalls, hrest, hpre⟩ := hP
  obtain ⟨-, -, -, hnamed, -, -, -, hat⟩ := (Spec.applies_iff hf).mp happ
  obtain ⟨hg, hn⟩ := and_e (Cond.before_iff.mp (show (Jvm.Cond.and given_1 narrow_1).before args s = true from hpre))
  obtain ⟨g0, r0⟩ := and_e hg
  obtain ⟨g1, r1⟩ := and_e r0
  obtain ⟨g2, r2⟩ := and_e r1
  obtain ⟨w0, w1, w2, rfl⟩ : ∃ w0 w1 w2 : Value, args = #[w0, w1, w2] := by
    have hs : args.size = 3 := by simpa [Cond.value, given_1] using g0
    obtain ⟨L⟩ := args
    match L, hs with
    | [w0, w1, w2], _ => exact ⟨w0, w1, w2, rfl⟩
  have hw := fun d (hd : d ∈ tables_1) => atoms_spec (ws := Jvm.Cond.code x code maxLocals ret :: tables_1) hat d (List.mem_cons_of_mem _ hd)
  have hfit : Fit s := fun {y c} hc i hi => by
    obtain ⟨ha, rfl⟩ := Array.getElem?_eq_some_iff.mp hc
    have q := List.all_eq_true.mp ((Array.all_eq_true_iff_forall_mem.mp hF) _ (Array.getElem_mem ha)) i (List.mem_range.mpr hi)
    simpa [Array.getElem?_eq_getElem hi] using q
  obtain ⟨hsets, hown0⟩ := atoms_of _ (rest_1_c_eq ▸ (show rest_1_c.before _ s = true from hrest))
  have hr0 := Cond.before_iff.mp hown0
  obtain ⟨i0, ei0⟩ := is_v g1
  obtain rfl : w0 = (.int i0) := Option.some.inj ei0
  obtain ⟨i1, ei1⟩ := is_v g2
  obtain rfl : w1 = (.int i1) := Option.some.inj ei1
  obtain ⟨i2, ei2⟩ := is_v r2
  obtain rfl : w2 = (.int i2) := Option.some.inj ei2
  obtain ⟨cs, fv, SS⟩ := stt_of hsets
  obtain ⟨us, sn, TT⟩ := tst_of hsets
  have HCH : CHv s consts_1 s.vm s.heap := CHv.start (ew_1 hw) (fun p hp => hcalls.2.2.1 p hp) (hsets _ (List.mem_of_getElem? (i := 22) rfl)) (hw _ (List.mem_of_getElem? (i := 23) rfl)) (hw _ (List.mem_of_getElem? (i := 9) rfl))
  obtain ⟨n, o, h1, h2, h3, _, L, rfl, ⟨rfl, N⟩, hq⟩ := law_ok l s _ hw i0 i1 i2 cs fv us sn s.heap s.heap.size (Nat.le_refl _) (Old.start s) SS (by unfold Launch.stackTraces; rw [hfl]; decide) TT tables_1 p e ha hc hk s m _ below hf ((Spec.applies_iff_loose hf).mp happ).1 ⟨rfl, State.Warmed39.refl s, rfl, HCH⟩ ⟨MethodsKnown_of_tablesKnown hcalls.2.1, FramesKnown_of_framesKnown hcalls.1 hf⟩
  refine ⟨n, _, h1, h2, h3, hpost _ _ _ _ _ _ ⟨Cond.after_iff.mpr rfl, Cond.after_iff.mpr (eq_i res_at (Term.int_eval (1)) rfl), trivial⟩ ⟨hq.1, hq.2.1, hq.2.2.1, (hq.2.2.2.sift fun y hy => Or.inr (N y hy)).mono (by decide) (by decide)⟩⟩
theorem main_1_1 : Claimed_1_1 := comes_1 fun _ _ _ _ _ _ h hF => ⟨h.1, hF⟩
theorem main_1_2 : Claimed_1_2 := comes_1 fun _ _ _ _ _ _ h hF => ⟨h.2.1, hF⟩
end Jvm.Pilot.@@N@@
namespace Jvm.Pilot.@@N@@
open Jvm Jvm.ClassFile Sem Op Lib Jvm.Free Jvm.Stand Jvm.Pilot.@@N@@.Jvm.D
/-! MADE BY PROGRAM (witnessworld.py) out of the Statement's table words and the real class files: 43 classes; the members and pool entries that the words name. The judged class is class 1, her method 2. -/
namespace start1
open Jvm.ClassFile
def u (s : String) : CpInfo := .utf8 (stringToUtf16 s)
/-- a pool by its gaps: so many unusable entries, then the entry; so many at the end -/
def gap : Nat → List CpInfo → List CpInfo
  | 0, r => r
  | n + 1, r => .unusable :: gap n r
def poolList (es : List (Nat × CpInfo)) (last : Nat) : List CpInfo := es.foldr (fun e r => gap e.1 (e.2 :: r)) (gap last [])
def pool (es : List (Nat × CpInfo)) (last : Nat) : Array CpInfo := ⟨poolList es last⟩
def fileOf (pool : Array CpInfo) (this : Nat) (attrs : Array Attribute := #[]) (ms : Array MethodInfo := #[]) (fl : Nat := 33) (sup : Nat := 0) (ifs : Array Nat := #[]) (fds : Array FieldInfo := #[]) : ClassFile where
  minorVersion := 0
  majorVersion := 65
  constantPool := pool
  accessFlags := fl
  thisClass := this
  superClass := sup
  interfaces := ifs
  fields := fds
  methods := ms
  attributes := attrs
def plain (name : String) (sup : Option ClassId) : Class where
  name := name
  kind := .ordinary
  loader := none
  accessFlags := 33
  super := sup
  interfaces := #[]
  cf := none
  fields := #[]
  methods := #[]
  instanceTypes := #[]
  staticTypes := #[]
  resolved := #[]
  callSites := []
  init := .initialized
  statics := none
  mirror := none

def pool0 : Array CpInfo := pool [(5, u "<init>"), (0, u "()V"), (1, .class_ 10), (1, u "java/lang/Object")] 113

def k0c0 : Code := { maxStack := 0, maxLocals := 1, code := object_method_1_code, exceptionTable := #[], attributes := #[] }
def k0m0 : Method := { name := "<init>", desc := "()V", sig := { parameters := [], returnType := none }, accessFlags := 1, code := some k0c0 }
/-- java/lang/Object -/
def k0 : Class := { plain "java/lang/Object" none with
  accessFlags := 33
  interfaces := #[]
  cf := some (fileOf pool0 8 #[] #[{ accessFlags := 1, nameIndex := 5, descriptorIndex := 6, attributes := #[] }] 33 0 #[] #[])
  fields := #[]
  methods := #[k0m0]
  instanceTypes := #[]
  staticTypes := #[]
  resolved := Array.replicate 124 none
  statics := none }

def pool1 : Array CpInfo := pool [(2, .class_ 4), (1, u "java/lang/Object"), (0, u "<init>"), (0, u "()V"), (0, .methodref 8 9), (0, .class_ 10), (0, .nameAndType 11 12), (0, u "java/lang/Math"), (0, u "min"), (0, u "(II)I"), (0, .class_ 14), (0, u "java/lang/String"), (0, .methodref 13 16), (0, .nameAndType 5 17), (0, u "([C)V"), (0, .methodref 13 19), (0, .nameAndType 20 21), (0, u "valueOf"), (0, u "(C)Ljava/lang/String;"), (0, .methodref 23 24), (0, .class_ 25), (0, .nameAndType 26 27), (0, u "com/example/ashlar_gate/ashlargate/model/InvalidValueExceptionAtPinLaw"), (0, u "draw"), (0, u "(I)Ljava/lang/String;"), (0, .class_ 29), (0, u "com/example/ashlar_gate/ashlargate/model/InvalidValueException"), (0, .methodref 28 31), (0, .nameAndType 5 32), (0, u "(Ljava/lang/String;Ljava/lang/String;)V"), (0, .methodref 28 34), (0, .nameAndType 35 36), (0, u "at"), (0, u "(Ljava/lang/String;)Lcom/example/ashlar_gate/ashlargate/model/Violation;"), (0, .methodref 38 39), (0, .class_ 40), (0, .nameAndType 41 42), (0, u "com/example/ashlar_gate/ashlargate/model/Violation"), (0, u "field"), (0, u "()Ljava/lang/String;"), (0, .methodref 38 44), (0, .nameAndType 45 42), (0, u "rule"), (0, .methodref 38 47), (0, .nameAndType 48 42), (0, u "message"), (0, .methodref 13 50), (0, .nameAndType 51 52), (0, u "equals"), (0, u "(Ljava/lang/Object;)Z"), (0, .methodref 13 54), (0, .nameAndType 55 56), (0, u "length"), (0, u "()I"), (0, .methodref 13 58), (0, .nameAndType 59 60), (0, u "charAt"), (0, u "(I)C"), (3, u "law"), (0, u "(III)Z")] 2

def k1m0 : Method := { name := "<init>", desc := "()V", sig := { parameters := [], returnType := none }, accessFlags := 1, code := none }
def k1c1 : Code := { maxStack := 6, maxLocals := 4, code := method_2_code, exceptionTable := #[], attributes := #[] }
def k1m1 : Method := { name := "draw", desc := "(I)Ljava/lang/String;", sig := { parameters := [.int], returnType := some (.object "java/lang/String") }, accessFlags := 10, code := some k1c1 }
def k1c2 : Code := { maxStack := 4, maxLocals := 13, code := code, exceptionTable := #[], attributes := #[] }
def k1m2 : Method := { name := "law", desc := "(III)Z", sig := { parameters := [.int, .int, .int], returnType := some .boolean }, accessFlags := 9, code := some k1c2 }
/-- com/example/ashlar_gate/ashlargate/model/InvalidValueExceptionAtPinLaw -/
def k1 : Class := { plain "com/example/ashlar_gate/ashlargate/model/InvalidValueExceptionAtPinLaw" (some 0) with
  accessFlags := 49
  interfaces := #[]
  cf := some (fileOf pool1 23 #[] #[{ accessFlags := 1, nameIndex := 5, descriptorIndex := 6, attributes := #[] }, { accessFlags := 10, nameIndex := 26, descriptorIndex := 27, attributes := #[] }, { accessFlags := 9, nameIndex := 64, descriptorIndex := 65, attributes := #[] }] 49 2 #[] #[])
  fields := #[]
  methods := #[k1m0, k1m1, k1m2]
  instanceTypes := #[]
  staticTypes := #[]
  resolved := Array.replicate 68 none
  statics := none }

def pool2 : Array CpInfo := pool [(1, .class_ 2), (0, u "java/lang/Math"), (1, .class_ 6), (1, u "java/lang/Object"), (0, u "<init>"), (0, u "()V"), (89, .class_ 100), (1, u "java/lang/Math$RandomNumberGeneratorHolder"), (71, u "negativeZeroFloatBits"), (0, u "J"), (2, u "negativeZeroDoubleBits"), (24, u "min"), (43, u "$assertionsDisabled"), (0, u "Z"), (88, u "(II)I"), (2, u "twoToTheDoubleScaleDown"), (0, u "D"), (4, u "twoToTheDoubleScaleUp"), (9, u "E"), (3, u "PI"), (2, u "TAU"), (2, u "DEGREES_TO_RADIANS"), (0, u "RADIANS_TO_DEGREES")] 94

def k2m0 : Method := { name := "<init>", desc := "()V", sig := { parameters := [], returnType := none }, accessFlags := 2, code := none }
def k2c1 : Code := { maxStack := 2, maxLocals := 2, code := jdk_29_method_69_code, exceptionTable := #[], attributes := #[] }
def k2m1 : Method := { name := "min", desc := "(II)I", sig := { parameters := [.int, .int], returnType := some .int }, accessFlags := 9, code := some k2c1 }
/-- java/lang/Math -/
def k2 : Class := { plain "java/lang/Math" (some 0) with
  accessFlags := 49
  interfaces := #[]
  cf := some (fileOf pool2 1 #[.nestMembers #[98]] #[{ accessFlags := 2, nameIndex := 7, descriptorIndex := 8, attributes := #[] }, { accessFlags := 9, nameIndex := 201, descriptorIndex := 335, attributes := #[] }] 49 4 #[] #[{ accessFlags := 25, nameIndex := 354, descriptorIndex := 339, attributes := #[] }, { accessFlags := 25, nameIndex := 358, descriptorIndex := 339, attributes := #[] }, { accessFlags := 25, nameIndex := 361, descriptorIndex := 339, attributes := #[] }, { accessFlags := 26, nameIndex := 364, descriptorIndex := 339, attributes := #[] }, { accessFlags := 26, nameIndex := 365, descriptorIndex := 339, attributes := #[] }, { accessFlags := 26, nameIndex := 172, descriptorIndex := 173, attributes := #[] }, { accessFlags := 26, nameIndex := 176, descriptorIndex := 173, attributes := #[] }, { accessFlags := 8, nameIndex := 344, descriptorIndex := 339, attributes := #[] }, { accessFlags := 8, nameIndex := 338, descriptorIndex := 339, attributes := #[] }, { accessFlags := 4120, nameIndex := 245, descriptorIndex := 246, attributes := #[] }])
  fields := #[{ name := "E", type := .double, accessFlags := 25, slot := 0, constantValue := 0 }, { name := "PI", type := .double, accessFlags := 25, slot := 1, constantValue := 0 }, { name := "TAU", type := .double, accessFlags := 25, slot := 2, constantValue := 0 }, { name := "DEGREES_TO_RADIANS", type := .double, accessFlags := 26, slot := 3, constantValue := 0 }, { name := "RADIANS_TO_DEGREES", type := .double, accessFlags := 26, slot := 4, constantValue := 0 }, { name := "negativeZeroFloatBits", type := .long, accessFlags := 26, slot := 5, constantValue := 0 }, { name := "negativeZeroDoubleBits", type := .long, accessFlags := 26, slot := 6, constantValue := 0 }, { name := "twoToTheDoubleScaleUp", type := .double, accessFlags := 8, slot := 7, constantValue := 0 }, { name := "twoToTheDoubleScaleDown", type := .double, accessFlags := 8, slot := 8, constantValue := 0 }, { name := "$assertionsDisabled", type := .boolean, accessFlags := 4120, slot := 9, constantValue := 0 }]
  methods := #[k2m0, k2m1]
  instanceTypes := #[]
  staticTypes := #[.double, .double, .double, .double, .double, .long, .long, .double, .double, .boolean]
  resolved := Array.replicate 460 none
  statics := none }

def pool3 : Array CpInfo := pool [(1, .class_ 2), (0, u "java/io/Serializable"), (0, .class_ 4), (0, u "java/lang/Object")] 2

/-- java/io/Serializable -/
def k3 : Class := { plain "java/io/Serializable" (some 0) with
  accessFlags := 1537
  interfaces := #[]
  cf := some (fileOf pool3 1 #[] #[] 1537 3 #[] #[])
  fields := #[]
  methods := #[]
  instanceTypes := #[]
  staticTypes := #[]
  resolved := Array.replicate 7 none
  statics := none }

def pool4 : Array CpInfo := pool [(1, .class_ 2), (0, u "java/lang/Comparable"), (0, .class_ 4), (0, u "java/lang/Object")] 7

/-- java/lang/Comparable -/
def k4 : Class := { plain "java/lang/Comparable" (some 0) with
  accessFlags := 1537
  interfaces := #[]
  cf := some (fileOf pool4 1 #[] #[] 1537 3 #[] #[])
  fields := #[]
  methods := #[]
  instanceTypes := #[]
  staticTypes := #[]
  resolved := Array.replicate 12 none
  statics := none }

def pool5 : Array CpInfo := pool [(2, .class_ 4), (1, u "java/lang/CharSequence"), (42, .class_ 48), (0, u "java/lang/CharSequence$1CodePointIterator"), (10, .class_ 60), (0, u "java/lang/CharSequence$1CharIterator"), (5, .class_ 67), (0, u "java/lang/Object")] 63

/-- java/lang/CharSequence -/
def k5 : Class := { plain "java/lang/CharSequence" (some 0) with
  accessFlags := 1537
  interfaces := #[]
  cf := some (fileOf pool5 2 #[.nestMembers #[47, 59]] #[] 1537 66 #[] #[])
  fields := #[]
  methods := #[]
  instanceTypes := #[]
  staticTypes := #[]
  resolved := Array.replicate 131 none
  statics := none }

def pool6 : Array CpInfo := pool [(1, .class_ 2), (0, u "java/lang/constant/Constable"), (0, .class_ 4), (0, u "java/lang/Object")] 6

/-- java/lang/constant/Constable -/
def k6 : Class := { plain "java/lang/constant/Constable" (some 0) with
  accessFlags := 1537
  interfaces := #[]
  cf := some (fileOf pool6 1 #[] #[] 1537 3 #[] #[])
  fields := #[]
  methods := #[]
  instanceTypes := #[]
  staticTypes := #[]
  resolved := Array.replicate 11 none
  statics := none }

def pool7 : Array CpInfo := pool [(1, .class_ 2), (0, u "java/lang/constant/ConstantDesc"), (0, .class_ 4), (0, u "java/lang/Object")] 32

/-- java/lang/constant/ConstantDesc -/
def k7 : Class := { plain "java/lang/constant/ConstantDesc" (some 0) with
  accessFlags := 1537
  interfaces := #[]
  cf := some (fileOf pool7 1 #[] #[] 1537 3 #[] #[])
  fields := #[]
  methods := #[]
  instanceTypes := #[]
  staticTypes := #[]
  resolved := Array.replicate 37 none
  statics := none }

def pool8 : Array CpInfo := pool [(1, .methodref 2 3), (0, .class_ 4), (0, .nameAndType 5 6), (0, u "java/lang/Object"), (0, u "<init>"), (0, u "()V"), (0, .string 8), (0, u ""), (0, .fieldref 10 11), (0, .class_ 12), (0, .nameAndType 13 14), (0, u "java/lang/String"), (0, u "value"), (0, u "[B"), (0, .fieldref 10 16), (0, .nameAndType 17 18), (0, u "coder"), (0, u "B"), (2, u "hash"), (0, u "I"), (2, u "hashIsZero"), (0, u "Z"), (0, .methodref 10 28), (0, .nameAndType 5 29), (0, u "([CIILjava/lang/Void;)V"), (8, .fieldref 10 39), (0, .nameAndType 40 26), (0, u "COMPACT_STRINGS"), (1, .class_ 44), (1, u "java/lang/StringUTF16"), (0, u "compress"), (1, .methodref 42 48), (0, .nameAndType 49 50), (0, u "coderFromArrayLen"), (0, u "([BI)B"), (2, u "toBytes"), (0, .methodref 55 56), (0, .class_ 57), (0, .nameAndType 58 59), (0, u "java/util/Arrays"), (0, u "copyOfRange"), (0, u "([BII)[B"), (47, .class_ 109), (1, u "java/lang/StringLatin1"), (32, u "()Z"), (34, .methodref 42 178), (0, .nameAndType 45 179), (0, u "([CII)[B"), (13, .class_ 195), (1, u "java/lang/System"), (13, .methodref 10 210), (0, .nameAndType 5 211), (0, u "([BB)V"), (0, .methodref 193 213), (0, .nameAndType 214 215), (0, u "arraycopy"), (0, u "(Ljava/lang/Object;ILjava/lang/Object;II)V"), (118, u "()I"), (0, .methodref 10 336), (0, .nameAndType 17 337), (0, u "()B"), (2, u "()[B"), (22, u "([BI)C"), (5, u "(C)Z"), (21, u "(II)V"), (35, u "(I)C"), (61, .methodref 10 490), (0, .nameAndType 5 491), (0, u "(Ljava/lang/AbstractStringBuilder;Ljava/lang/Void;)V"), (0, .methodref 10 493), (0, .nameAndType 494 142), (0, u "isLatin1"), (0, .methodref 107 496), (0, .nameAndType 497 363), (0, u "charAt"), (3, u "checkIndex"), (4, .nameAndType 507 334), (0, u "length"), (24, u "getBytes"), (10, u "equals"), (5, .methodref 550 506), (0, .class_ 551), (0, u "java/lang/AbstractStringBuilder"), (0, .methodref 550 553), (0, .nameAndType 554 340), (0, u "getValue"), (18, u "(Ljava/lang/Object;)Z"), (1, .class_ 576), (0, u "java/lang/CharSequence"), (22, u "CASE_INSENSITIVE_ORDER"), (0, u "Ljava/util/Comparator;"), (181, u "valueOf"), (0, u "(C)Ljava/lang/String;"), (37, u "([BIB)V"), (188, u "([C)V"), (4, .methodref 107 1016), (0, .nameAndType 1017 369), (0, u "canEncode"), (0, .methodref 107 1019), (0, .nameAndType 53 1020), (0, u "(C)[B"), (26, .methodref 550 493), (5, .fieldref 1054 1055), (0, .class_ 1056), (0, .nameAndType 1057 1058), (0, u "jdk/internal/util/Preconditions"), (0, u "SIOOBE_FORMATTER"), (0, u "Ljava/util/function/BiFunction;"), (0, .methodref 1054 1060), (0, .nameAndType 501 1061), (0, u "(IILjava/util/function/BiFunction;)I"), (39, u "serialPersistentFields"), (0, u "[Ljava/io/ObjectStreamField;"), (0, .class_ 1104), (0, u "java/lang/String$CaseInsensitiveComparator"), (1, .class_ 1107), (0, u "java/io/Serializable"), (0, .class_ 1109), (0, u "java/lang/Comparable"), (0, .class_ 1111), (0, u "java/lang/constant/Constable"), (0, .class_ 1113), (0, u "java/lang/constant/ConstantDesc"), (2, u "serialVersionUID"), (0, u "J"), (3, u "REPL"), (0, u "C"), (2, u "LATIN1"), (1, u "UTF16"), (105, u "(Ljava/lang/StringBuilder;)V")] 217

def k8m0 : Method := { name := "<init>", desc := "()V", sig := { parameters := [], returnType := none }, accessFlags := 1, code := none }
def k8c1 : Code := { maxStack := 5, maxLocals := 2, code := jdk_42_method_3_code, exceptionTable := #[], attributes := #[] }
def k8m1 : Method := { name := "<init>", desc := "([C)V", sig := { parameters := [(.array .char)], returnType := none }, accessFlags := 1, code := some k8c1 }
def k8c2 : Code := { maxStack := 3, maxLocals := 2, code := jdk_42_method_53_code, exceptionTable := #[], attributes := #[] }
def k8m2 : Method := { name := "<init>", desc := "(Ljava/lang/StringBuilder;)V", sig := { parameters := [(.object "java/lang/StringBuilder")], returnType := none }, accessFlags := 1, code := some k8c2 }
def k8c3 : Code := { maxStack := 2, maxLocals := 1, code := jdk_42_method_54_code, exceptionTable := #[], attributes := #[] }
def k8m3 : Method := { name := "length", desc := "()I", sig := { parameters := [], returnType := some .int }, accessFlags := 1, code := some k8c3 }
def k8c4 : Code := { maxStack := 2, maxLocals := 2, code := jdk_42_method_56_code, exceptionTable := #[], attributes := #[] }
def k8m4 : Method := { name := "charAt", desc := "(I)C", sig := { parameters := [.int], returnType := some .char }, accessFlags := 1, code := some k8c4 }
def k8c5 : Code := { maxStack := 2, maxLocals := 3, code := jdk_42_method_66_code, exceptionTable := #[], attributes := #[] }
def k8m5 : Method := { name := "equals", desc := "(Ljava/lang/Object;)Z", sig := { parameters := [(.object "java/lang/Object")], returnType := some .boolean }, accessFlags := 1, code := some k8c5 }
def k8c6 : Code := { maxStack := 4, maxLocals := 1, code := jdk_42_method_139_code, exceptionTable := #[], attributes := #[] }
def k8m6 : Method := { name := "valueOf", desc := "(C)Ljava/lang/String;", sig := { parameters := [.char], returnType := some (.object "java/lang/String") }, accessFlags := 9, code := some k8c6 }
def k8c7 : Code := { maxStack := 5, maxLocals := 4, code := jdk_42_method_147_code, exceptionTable := #[], attributes := #[] }
def k8m7 : Method := { name := "getBytes", desc := "([BIB)V", sig := { parameters := [(.array .byte), .int, .byte], returnType := none }, accessFlags := 0, code := some k8c7 }
def k8c8 : Code := { maxStack := 4, maxLocals := 6, code := jdk_42_method_149_code, exceptionTable := #[], attributes := #[] }
def k8m8 : Method := { name := "<init>", desc := "([CIILjava/lang/Void;)V", sig := { parameters := [(.array .char), .int, .int, (.object "java/lang/Void")], returnType := none }, accessFlags := 2, code := some k8c8 }
def k8c9 : Code := { maxStack := 5, maxLocals := 5, code := jdk_42_method_150_code, exceptionTable := #[], attributes := #[] }
def k8m9 : Method := { name := "<init>", desc := "(Ljava/lang/AbstractStringBuilder;Ljava/lang/Void;)V", sig := { parameters := [(.object "java/lang/AbstractStringBuilder"), (.object "java/lang/Void")], returnType := none }, accessFlags := 0, code := some k8c9 }
def k8c10 : Code := { maxStack := 2, maxLocals := 3, code := jdk_42_method_151_code, exceptionTable := #[], attributes := #[] }
def k8m10 : Method := { name := "<init>", desc := "([BB)V", sig := { parameters := [(.array .byte), .byte], returnType := none }, accessFlags := 0, code := some k8c10 }
def k8c11 : Code := { maxStack := 1, maxLocals := 1, code := jdk_42_method_152_code, exceptionTable := #[], attributes := #[] }
def k8m11 : Method := { name := "coder", desc := "()B", sig := { parameters := [], returnType := some .byte }, accessFlags := 0, code := some k8c11 }
def k8c12 : Code := { maxStack := 1, maxLocals := 1, code := jdk_42_method_154_code, exceptionTable := #[], attributes := #[] }
def k8m12 : Method := { name := "isLatin1", desc := "()Z", sig := { parameters := [], returnType := some .boolean }, accessFlags := 0, code := some k8c12 }
def k8c13 : Code := { maxStack := 3, maxLocals := 2, code := jdk_42_method_155_code, exceptionTable := #[], attributes := #[] }
def k8m13 : Method := { name := "checkIndex", desc := "(II)V", sig := { parameters := [.int, .int], returnType := none }, accessFlags := 8, code := some k8c13 }
/-- java/lang/String -/
def k8 : Class := { plain "java/lang/String" (some 0) with
  accessFlags := 49
  interfaces := #[3, 4, 5, 6, 7]
  cf := some (fileOf pool8 10 #[.nestMembers #[1103]] #[{ accessFlags := 1, nameIndex := 5, descriptorIndex := 6, attributes := #[] }, { accessFlags := 1, nameIndex := 5, descriptorIndex := 1010, attributes := #[] }, { accessFlags := 1, nameIndex := 5, descriptorIndex := 1233, attributes := #[] }, { accessFlags := 1, nameIndex := 507, descriptorIndex := 334, attributes := #[] }, { accessFlags := 1, nameIndex := 497, descriptorIndex := 427, attributes := #[] }, { accessFlags := 1, nameIndex := 543, descriptorIndex := 573, attributes := #[] }, { accessFlags := 9, nameIndex := 782, descriptorIndex := 783, attributes := #[] }, { accessFlags := 0, nameIndex := 532, descriptorIndex := 821, attributes := #[] }, { accessFlags := 2, nameIndex := 5, descriptorIndex := 29, attributes := #[] }, { accessFlags := 0, nameIndex := 5, descriptorIndex := 491, attributes := #[] }, { accessFlags := 0, nameIndex := 5, descriptorIndex := 211, attributes := #[] }, { accessFlags := 0, nameIndex := 17, descriptorIndex := 337, attributes := #[] }, { accessFlags := 0, nameIndex := 494, descriptorIndex := 142, attributes := #[] }, { accessFlags := 8, nameIndex := 501, descriptorIndex := 391, attributes := #[] }] 49 2 #[1106, 1108, 575, 1110, 1112] #[{ accessFlags := 18, nameIndex := 13, descriptorIndex := 14, attributes := #[] }, { accessFlags := 18, nameIndex := 17, descriptorIndex := 18, attributes := #[] }, { accessFlags := 2, nameIndex := 21, descriptorIndex := 22, attributes := #[] }, { accessFlags := 2, nameIndex := 25, descriptorIndex := 26, attributes := #[] }, { accessFlags := 26, nameIndex := 1116, descriptorIndex := 1117, attributes := #[] }, { accessFlags := 24, nameIndex := 40, descriptorIndex := 26, attributes := #[] }, { accessFlags := 26, nameIndex := 1101, descriptorIndex := 1102, attributes := #[] }, { accessFlags := 26, nameIndex := 1121, descriptorIndex := 1122, attributes := #[] }, { accessFlags := 25, nameIndex := 599, descriptorIndex := 600, attributes := #[] }, { accessFlags := 24, nameIndex := 1125, descriptorIndex := 18, attributes := #[] }, { accessFlags := 24, nameIndex := 1127, descriptorIndex := 18, attributes := #[] }])
  fields := #[{ name := "value", type := (.array .byte), accessFlags := 18, slot := 0, constantValue := 0 }, { name := "coder", type := .byte, accessFlags := 18, slot := 1, constantValue := 0 }, { name := "hash", type := .int, accessFlags := 2, slot := 2, constantValue := 0 }, { name := "hashIsZero", type := .boolean, accessFlags := 2, slot := 3, constantValue := 0 }, { name := "serialVersionUID", type := .long, accessFlags := 26, slot := 0, constantValue := 0 }, { name := "COMPACT_STRINGS", type := .boolean, accessFlags := 24, slot := 1, constantValue := 0 }, { name := "serialPersistentFields", type := (.array (.object "java/io/ObjectStreamField")), accessFlags := 26, slot := 2, constantValue := 0 }, { name := "REPL", type := .char, accessFlags := 26, slot := 3, constantValue := 0 }, { name := "CASE_INSENSITIVE_ORDER", type := (.object "java/util/Comparator"), accessFlags := 25, slot := 4, constantValue := 0 }, { name := "LATIN1", type := .byte, accessFlags := 24, slot := 5, constantValue := 0 }, { name := "UTF16", type := .byte, accessFlags := 24, slot := 6, constantValue := 0 }]
  methods := #[k8m0, k8m1, k8m2, k8m3, k8m4, k8m5, k8m6, k8m7, k8m8, k8m9, k8m10, k8m11, k8m12, k8m13]
  instanceTypes := #[(.array .byte), .byte, .int, .boolean]
  staticTypes := #[.long, .boolean, (.array (.object "java/io/ObjectStreamField")), .char, (.object "java/util/Comparator"), .byte, .byte]
  resolved := Array.replicate 1451 none
  statics := some 0 }

def pool9 : Array CpInfo := pool [(1, .methodref 2 3), (0, .class_ 4), (0, .nameAndType 5 6), (0, u "java/lang/Object"), (0, u "<init>"), (0, u "()V"), (0, .fieldref 8 9), (0, .class_ 10), (0, .nameAndType 11 12), (0, u "java/lang/Throwable"), (0, u "cause"), (0, u "Ljava/lang/Throwable;"), (0, .fieldref 8 14), (0, .nameAndType 15 16), (0, u "UNASSIGNED_STACK"), (0, u "[Ljava/lang/StackTraceElement;"), (0, .fieldref 8 18), (0, .nameAndType 19 16), (0, u "stackTrace"), (0, .fieldref 8 21), (0, .nameAndType 22 23), (0, u "SUPPRESSED_SENTINEL"), (0, u "Ljava/util/List;"), (0, .fieldref 8 25), (0, .nameAndType 26 23), (0, u "suppressedExceptions"), (0, .methodref 8 28), (0, .nameAndType 29 30), (0, u "fillInStackTrace"), (0, u "()Ljava/lang/Throwable;"), (0, .fieldref 8 32), (0, .nameAndType 33 34), (0, u "detailMessage"), (0, u "Ljava/lang/String;"), (3, u "()Ljava/lang/String;"), (2, u "getMessage"), (51, .class_ 94), (0, u "java/lang/Throwable$WrappedPrintStream"), (6, .class_ 103), (1, u "java/lang/Throwable$PrintStreamOrWriter"), (61, u "$assertionsDisabled"), (0, u "Z"), (26, .class_ 194), (0, u "java/lang/Throwable$WrappedPrintWriter"), (3, .fieldref 8 199), (0, .nameAndType 200 201), (0, u "backtrace"), (0, u "Ljava/lang/Object;"), (0, .methodref 8 203), (0, .nameAndType 29 204), (0, u "(I)Ljava/lang/Throwable;"), (6, u "depth"), (0, u "I"), (10, u "(Ljava/lang/String;)V"), (45, .class_ 271), (1, u "java/lang/Throwable$SentinelHolder"), (32, u "EMPTY_THROWABLE_ARRAY"), (0, u "[Ljava/lang/Throwable;"), (12, .class_ 319), (0, u "java/io/Serializable"), (0, u "serialVersionUID"), (0, u "J"), (5, u "NULL_CAUSE_MESSAGE"), (0, u "SELF_SUPPRESSION_MESSAGE"), (0, u "CAUSE_CAPTION"), (0, u "SUPPRESSED_CAPTION")] 73

def k9c0 : Code := { maxStack := 2, maxLocals := 1, code := jdk_78_method_1_code, exceptionTable := #[], attributes := #[] }
def k9m0 : Method := { name := "<init>", desc := "()V", sig := { parameters := [], returnType := none }, accessFlags := 1, code := some k9c0 }
def k9c1 : Code := { maxStack := 2, maxLocals := 2, code := jdk_78_method_2_code, exceptionTable := #[], attributes := #[] }
def k9m1 : Method := { name := "<init>", desc := "(Ljava/lang/String;)V", sig := { parameters := [(.object "java/lang/String")], returnType := none }, accessFlags := 1, code := some k9c1 }
def k9c2 : Code := { maxStack := 1, maxLocals := 1, code := jdk_78_method_6_code, exceptionTable := #[], attributes := #[] }
def k9m2 : Method := { name := "getMessage", desc := "()Ljava/lang/String;", sig := { parameters := [], returnType := some (.object "java/lang/String") }, accessFlags := 1, code := some k9c2 }
def k9c3 : Code := { maxStack := 2, maxLocals := 1, code := jdk_78_method_18_code, exceptionTable := #[], attributes := #[] }
def k9m3 : Method := { name := "fillInStackTrace", desc := "()Ljava/lang/Throwable;", sig := { parameters := [], returnType := some (.object "java/lang/Throwable") }, accessFlags := 33, code := some k9c3 }
def k9m4 : Method := { name := "fillInStackTrace", desc := "(I)Ljava/lang/Throwable;", sig := { parameters := [.int], returnType := some (.object "java/lang/Throwable") }, accessFlags := 258, code := none }
/-- java/lang/Throwable -/
def k9 : Class := { plain "java/lang/Throwable" (some 0) with
  accessFlags := 33
  interfaces := #[3]
  cf := some (fileOf pool9 8 #[.nestMembers #[193, 93, 101, 269]] #[{ accessFlags := 1, nameIndex := 5, descriptorIndex := 6, attributes := #[] }, { accessFlags := 1, nameIndex := 5, descriptorIndex := 223, attributes := #[] }, { accessFlags := 1, nameIndex := 41, descriptorIndex := 38, attributes := #[] }, { accessFlags := 33, nameIndex := 29, descriptorIndex := 30, attributes := #[] }, { accessFlags := 258, nameIndex := 29, descriptorIndex := 204, attributes := #[] }] 33 2 #[318] #[{ accessFlags := 26, nameIndex := 320, descriptorIndex := 321, attributes := #[] }, { accessFlags := 130, nameIndex := 200, descriptorIndex := 201, attributes := #[] }, { accessFlags := 2, nameIndex := 33, descriptorIndex := 34, attributes := #[] }, { accessFlags := 26, nameIndex := 15, descriptorIndex := 16, attributes := #[] }, { accessFlags := 2, nameIndex := 11, descriptorIndex := 12, attributes := #[] }, { accessFlags := 2, nameIndex := 19, descriptorIndex := 16, attributes := #[] }, { accessFlags := 130, nameIndex := 211, descriptorIndex := 212, attributes := #[] }, { accessFlags := 26, nameIndex := 22, descriptorIndex := 23, attributes := #[] }, { accessFlags := 2, nameIndex := 26, descriptorIndex := 23, attributes := #[] }, { accessFlags := 26, nameIndex := 327, descriptorIndex := 34, attributes := #[] }, { accessFlags := 26, nameIndex := 328, descriptorIndex := 34, attributes := #[] }, { accessFlags := 26, nameIndex := 329, descriptorIndex := 34, attributes := #[] }, { accessFlags := 26, nameIndex := 330, descriptorIndex := 34, attributes := #[] }, { accessFlags := 26, nameIndex := 304, descriptorIndex := 305, attributes := #[] }, { accessFlags := 4120, nameIndex := 165, descriptorIndex := 166, attributes := #[] }])
  fields := #[{ name := "serialVersionUID", type := .long, accessFlags := 26, slot := 0, constantValue := 0 }, { name := "backtrace", type := (.object "java/lang/Object"), accessFlags := 130, slot := 0, constantValue := 0 }, { name := "detailMessage", type := (.object "java/lang/String"), accessFlags := 2, slot := 1, constantValue := 0 }, { name := "UNASSIGNED_STACK", type := (.array (.object "java/lang/StackTraceElement")), accessFlags := 26, slot := 1, constantValue := 0 }, { name := "cause", type := (.object "java/lang/Throwable"), accessFlags := 2, slot := 2, constantValue := 0 }, { name := "stackTrace", type := (.array (.object "java/lang/StackTraceElement")), accessFlags := 2, slot := 3, constantValue := 0 }, { name := "depth", type := .int, accessFlags := 130, slot := 4, constantValue := 0 }, { name := "SUPPRESSED_SENTINEL", type := (.object "java/util/List"), accessFlags := 26, slot := 2, constantValue := 0 }, { name := "suppressedExceptions", type := (.object "java/util/List"), accessFlags := 2, slot := 5, constantValue := 0 }, { name := "NULL_CAUSE_MESSAGE", type := (.object "java/lang/String"), accessFlags := 26, slot := 3, constantValue := 0 }, { name := "SELF_SUPPRESSION_MESSAGE", type := (.object "java/lang/String"), accessFlags := 26, slot := 4, constantValue := 0 }, { name := "CAUSE_CAPTION", type := (.object "java/lang/String"), accessFlags := 26, slot := 5, constantValue := 0 }, { name := "SUPPRESSED_CAPTION", type := (.object "java/lang/String"), accessFlags := 26, slot := 6, constantValue := 0 }, { name := "EMPTY_THROWABLE_ARRAY", type := (.array (.object "java/lang/Throwable")), accessFlags := 26, slot := 7, constantValue := 0 }, { name := "$assertionsDisabled", type := .boolean, accessFlags := 4120, slot := 8, constantValue := 0 }]
  methods := #[k9m0, k9m1, k9m2, k9m3, k9m4]
  instanceTypes := #[(.object "java/lang/Object"), (.object "java/lang/String"), (.object "java/lang/Throwable"), (.array (.object "java/lang/StackTraceElement")), .int, (.object "java/util/List")]
  staticTypes := #[.long, (.array (.object "java/lang/StackTraceElement")), (.object "java/util/List"), (.object "java/lang/String"), (.object "java/lang/String"), (.object "java/lang/String"), (.object "java/lang/String"), (.array (.object "java/lang/Throwable")), .boolean]
  resolved := Array.replicate 404 none
  statics := some 1 }

def pool10 : Array CpInfo := pool [(2, .class_ 4), (1, u "java/lang/Throwable"), (0, u "<init>"), (0, u "()V"), (0, .methodref 2 8), (0, .nameAndType 5 9), (0, u "(Ljava/lang/String;)V"), (9, .class_ 20), (0, u "java/lang/Exception"), (0, u "serialVersionUID"), (0, u "J")] 17

def k10m0 : Method := { name := "<init>", desc := "()V", sig := { parameters := [], returnType := none }, accessFlags := 1, code := none }
def k10c1 : Code := { maxStack := 2, maxLocals := 2, code := jdk_59_method_2_code, exceptionTable := #[], attributes := #[] }
def k10m1 : Method := { name := "<init>", desc := "(Ljava/lang/String;)V", sig := { parameters := [(.object "java/lang/String")], returnType := none }, accessFlags := 1, code := some k10c1 }
/-- java/lang/Exception -/
def k10 : Class := { plain "java/lang/Exception" (some 9) with
  accessFlags := 33
  interfaces := #[]
  cf := some (fileOf pool10 19 #[] #[{ accessFlags := 1, nameIndex := 5, descriptorIndex := 6, attributes := #[] }, { accessFlags := 1, nameIndex := 5, descriptorIndex := 9, attributes := #[] }] 33 2 #[] #[{ accessFlags := 24, nameIndex := 21, descriptorIndex := 22, attributes := #[] }])
  fields := #[{ name := "serialVersionUID", type := .long, accessFlags := 24, slot := 0, constantValue := 0 }]
  methods := #[k10m0, k10m1]
  instanceTypes := #[(.object "java/lang/Object"), (.object "java/lang/String"), (.object "java/lang/Throwable"), (.array (.object "java/lang/StackTraceElement")), .int, (.object "java/util/List")]
  staticTypes := #[.long]
  resolved := Array.replicate 40 none
  statics := none }

def pool11 : Array CpInfo := pool [(1, .methodref 2 3), (0, .class_ 4), (0, .nameAndType 5 6), (0, u "java/lang/Exception"), (0, u "<init>"), (0, u "(Ljava/lang/String;)V"), (0, .fieldref 8 9), (0, .class_ 10), (0, .nameAndType 11 12), (0, u "com/example/ashlar_gate/ashlargate/model/InvalidValueException"), (0, u "rule"), (0, u "Ljava/lang/String;"), (0, .class_ 14), (0, u "com/example/ashlar_gate/ashlargate/model/Violation"), (0, .class_ 16), (0, u "java/lang/StringBuilder"), (0, .methodref 15 18), (0, .nameAndType 5 19), (0, u "()V"), (0, .methodref 15 21), (0, .nameAndType 22 23), (0, u "append"), (0, u "(Ljava/lang/String;)Ljava/lang/StringBuilder;"), (0, .string 25), (0, u " "), (0, .methodref 8 27), (0, .nameAndType 28 29), (0, u "getMessage"), (0, u "()Ljava/lang/String;"), (0, .methodref 15 31), (0, .nameAndType 32 29), (0, u "toString"), (0, .methodref 13 34), (0, .nameAndType 5 35), (0, u "(Ljava/lang/String;Ljava/lang/String;Ljava/lang/String;)V"), (0, u "serialVersionUID"), (0, u "J"), (3, u "(Ljava/lang/String;Ljava/lang/String;)V"), (2, u "at"), (0, u "(Ljava/lang/String;)Lcom/example/ashlar_gate/ashlargate/model/Violation;")] 2

def k11c0 : Code := { maxStack := 2, maxLocals := 3, code := prog_12_method_1_code, exceptionTable := #[], attributes := #[] }
def k11m0 : Method := { name := "<init>", desc := "(Ljava/lang/String;Ljava/lang/String;)V", sig := { parameters := [(.object "java/lang/String"), (.object "java/lang/String")], returnType := none }, accessFlags := 0, code := some k11c0 }
def k11c1 : Code := { maxStack := 6, maxLocals := 2, code := prog_12_method_2_code, exceptionTable := #[], attributes := #[] }
def k11m1 : Method := { name := "at", desc := "(Ljava/lang/String;)Lcom/example/ashlar_gate/ashlargate/model/Violation;", sig := { parameters := [(.object "java/lang/String")], returnType := some (.object "com/example/ashlar_gate/ashlargate/model/Violation") }, accessFlags := 1, code := some k11c1 }
/-- com/example/ashlar_gate/ashlargate/model/InvalidValueException -/
def k11 : Class := { plain "com/example/ashlar_gate/ashlargate/model/InvalidValueException" (some 10) with
  accessFlags := 49
  interfaces := #[]
  cf := some (fileOf pool11 8 #[] #[{ accessFlags := 0, nameIndex := 5, descriptorIndex := 41, attributes := #[] }, { accessFlags := 1, nameIndex := 44, descriptorIndex := 45, attributes := #[] }] 49 2 #[] #[{ accessFlags := 26, nameIndex := 36, descriptorIndex := 37, attributes := #[] }, { accessFlags := 18, nameIndex := 11, descriptorIndex := 12, attributes := #[] }])
  fields := #[{ name := "serialVersionUID", type := .long, accessFlags := 26, slot := 0, constantValue := 0 }, { name := "rule", type := (.object "java/lang/String"), accessFlags := 18, slot := 6, constantValue := 0 }]
  methods := #[k11m0, k11m1]
  instanceTypes := #[(.object "java/lang/Object"), (.object "java/lang/String"), (.object "java/lang/Throwable"), (.array (.object "java/lang/StackTraceElement")), .int, (.object "java/util/List"), (.object "java/lang/String")]
  staticTypes := #[.long]
  resolved := Array.replicate 48 none
  statics := none }

def pool12 : Array CpInfo := pool [(1, .methodref 2 3), (0, .class_ 4), (0, .nameAndType 5 6), (0, u "java/lang/Object"), (0, u "<init>"), (0, u "()V"), (0, .class_ 8), (0, u "java/lang/Record")] 13

def k12c0 : Code := { maxStack := 1, maxLocals := 1, code := jdk_30_method_1_code, exceptionTable := #[], attributes := #[] }
def k12m0 : Method := { name := "<init>", desc := "()V", sig := { parameters := [], returnType := none }, accessFlags := 4, code := some k12c0 }
/-- java/lang/Record -/
def k12 : Class := { plain "java/lang/Record" (some 0) with
  accessFlags := 1057
  interfaces := #[]
  cf := some (fileOf pool12 7 #[] #[{ accessFlags := 4, nameIndex := 5, descriptorIndex := 6, attributes := #[] }] 1057 2 #[] #[])
  fields := #[]
  methods := #[k12m0]
  instanceTypes := #[]
  staticTypes := #[]
  resolved := Array.replicate 22 none
  statics := none }

def pool13 : Array CpInfo := pool [(1, .methodref 2 3), (0, .class_ 4), (0, .nameAndType 5 6), (0, u "java/lang/Record"), (0, u "<init>"), (0, u "()V"), (0, .fieldref 8 9), (0, .class_ 10), (0, .nameAndType 11 12), (0, u "com/example/ashlar_gate/ashlargate/model/Violation"), (0, u "field"), (0, u "Ljava/lang/String;"), (0, .fieldref 8 14), (0, .nameAndType 15 12), (0, u "rule"), (0, .fieldref 8 17), (0, .nameAndType 18 12), (0, u "message"), (12, u "(Ljava/lang/String;Ljava/lang/String;Ljava/lang/String;)V"), (3, u "()Ljava/lang/String;")] 24

def k13c0 : Code := { maxStack := 2, maxLocals := 4, code := prog_16_method_1_code, exceptionTable := #[], attributes := #[] }
def k13m0 : Method := { name := "<init>", desc := "(Ljava/lang/String;Ljava/lang/String;Ljava/lang/String;)V", sig := { parameters := [(.object "java/lang/String"), (.object "java/lang/String"), (.object "java/lang/String")], returnType := none }, accessFlags := 1, code := some k13c0 }
def k13c1 : Code := { maxStack := 1, maxLocals := 1, code := prog_16_method_5_code, exceptionTable := #[], attributes := #[] }
def k13m1 : Method := { name := "field", desc := "()Ljava/lang/String;", sig := { parameters := [], returnType := some (.object "java/lang/String") }, accessFlags := 1, code := some k13c1 }
def k13c2 : Code := { maxStack := 1, maxLocals := 1, code := prog_16_method_6_code, exceptionTable := #[], attributes := #[] }
def k13m2 : Method := { name := "rule", desc := "()Ljava/lang/String;", sig := { parameters := [], returnType := some (.object "java/lang/String") }, accessFlags := 1, code := some k13c2 }
def k13c3 : Code := { maxStack := 1, maxLocals := 1, code := prog_16_method_7_code, exceptionTable := #[], attributes := #[] }
def k13m3 : Method := { name := "message", desc := "()Ljava/lang/String;", sig := { parameters := [], returnType := some (.object "java/lang/String") }, accessFlags := 1, code := some k13c3 }
/-- com/example/ashlar_gate/ashlargate/model/Violation -/
def k13 : Class := { plain "com/example/ashlar_gate/ashlargate/model/Violation" (some 12) with
  accessFlags := 49
  interfaces := #[]
  cf := some (fileOf pool13 8 #[] #[{ accessFlags := 1, nameIndex := 5, descriptorIndex := 31, attributes := #[] }, { accessFlags := 1, nameIndex := 11, descriptorIndex := 35, attributes := #[] }, { accessFlags := 1, nameIndex := 15, descriptorIndex := 35, attributes := #[] }, { accessFlags := 1, nameIndex := 18, descriptorIndex := 35, attributes := #[] }] 49 2 #[] #[{ accessFlags := 18, nameIndex := 11, descriptorIndex := 12, attributes := #[] }, { accessFlags := 18, nameIndex := 15, descriptorIndex := 12, attributes := #[] }, { accessFlags := 18, nameIndex := 18, descriptorIndex := 12, attributes := #[] }])
  fields := #[{ name := "field", type := (.object "java/lang/String"), accessFlags := 18, slot := 0, constantValue := 0 }, { name := "rule", type := (.object "java/lang/String"), accessFlags := 18, slot := 1, constantValue := 0 }, { name := "message", type := (.object "java/lang/String"), accessFlags := 18, slot := 2, constantValue := 0 }]
  methods := #[k13m0, k13m1, k13m2, k13m3]
  instanceTypes := #[(.object "java/lang/String"), (.object "java/lang/String"), (.object "java/lang/String")]
  staticTypes := #[]
  resolved := Array.replicate 60 none
  statics := none }

def pool14 : Array CpInfo := pool [(1, .class_ 2), (0, u "java/lang/Appendable"), (0, .class_ 4), (0, u "java/lang/Object")] 9

/-- java/lang/Appendable -/
def k14 : Class := { plain "java/lang/Appendable" (some 0) with
  accessFlags := 1537
  interfaces := #[]
  cf := some (fileOf pool14 1 #[] #[] 1537 3 #[] #[])
  fields := #[]
  methods := #[]
  instanceTypes := #[]
  staticTypes := #[]
  resolved := Array.replicate 14 none
  statics := none }

def pool15 : Array CpInfo := pool [(1, .class_ 2), (0, u "java/lang/String"), (0, .methodref 4 5), (0, .class_ 6), (0, .nameAndType 7 8), (0, u "java/lang/Object"), (0, u "<init>"), (0, u "()V"), (1, .class_ 12), (1, u "java/lang/AbstractStringBuilder"), (0, u "EMPTYVALUE"), (0, u "[B"), (0, .fieldref 10 16), (0, .nameAndType 17 14), (0, u "value"), (0, .fieldref 1 19), (0, .nameAndType 20 21), (0, u "COMPACT_STRINGS"), (0, u "Z"), (0, .fieldref 10 23), (0, .nameAndType 24 25), (0, u "coder"), (0, u "B"), (6, .methodref 1 33), (0, .nameAndType 34 35), (0, u "length"), (0, u "()I"), (4, .methodref 1 41), (0, .nameAndType 24 42), (0, u "()B"), (2, u "append"), (0, u "(Ljava/lang/String;)Ljava/lang/AbstractStringBuilder;"), (1, .class_ 49), (0, u "java/lang/CharSequence"), (19, u "(Ljava/lang/String;)V"), (5, u "maybeLatin1"), (3, .fieldref 10 80), (0, .nameAndType 81 82), (0, u "count"), (0, u "I"), (2, u "isLatin1"), (0, u "()Z"), (13, .methodref 10 101), (0, .nameAndType 102 103), (0, u "ensureCapacityInternal"), (0, u "(I)V"), (104, .methodref 10 209), (0, .nameAndType 210 211), (0, u "putStringAt"), (0, u "(ILjava/lang/String;)V"), (5, u "inflateIfNeededFor"), (2, .nameAndType 221 222), (0, u "getBytes"), (0, u "([BIB)V"), (174, .methodref 10 398), (0, .nameAndType 217 69), (0, .methodref 1 220), (3, u "()[B"), (40, .class_ 445), (0, u "java/lang/Appendable"), (106, u "getValue")] 56

def k15m0 : Method := { name := "<init>", desc := "()V", sig := { parameters := [], returnType := none }, accessFlags := 0, code := none }
def k15c1 : Code := { maxStack := 2, maxLocals := 2, code := jdk_68_method_2_code, exceptionTable := #[], attributes := #[] }
def k15m1 : Method := { name := "<init>", desc := "(I)V", sig := { parameters := [.int], returnType := none }, accessFlags := 0, code := some k15c1 }
def k15c2 : Code := { maxStack := 1, maxLocals := 1, code := jdk_68_method_6_code, exceptionTable := #[], attributes := #[] }
def k15m2 : Method := { name := "length", desc := "()I", sig := { parameters := [], returnType := some .int }, accessFlags := 1, code := some k15c2 }
def k15c3 : Code := { maxStack := 4, maxLocals := 3, code := jdk_68_method_9_code, exceptionTable := #[], attributes := #[] }
def k15m3 : Method := { name := "ensureCapacityInternal", desc := "(I)V", sig := { parameters := [.int], returnType := none }, accessFlags := 2, code := some k15c3 }
def k15c4 : Code := { maxStack := 3, maxLocals := 3, code := jdk_68_method_22_code, exceptionTable := #[], attributes := #[] }
def k15m4 : Method := { name := "append", desc := "(Ljava/lang/String;)Ljava/lang/AbstractStringBuilder;", sig := { parameters := [(.object "java/lang/String")], returnType := some (.object "java/lang/AbstractStringBuilder") }, accessFlags := 1, code := some k15c4 }
def k15c5 : Code := { maxStack := 1, maxLocals := 1, code := jdk_68_method_64_code, exceptionTable := #[], attributes := #[] }
def k15m5 : Method := { name := "getValue", desc := "()[B", sig := { parameters := [], returnType := some (.array .byte) }, accessFlags := 16, code := some k15c5 }
def k15c6 : Code := { maxStack := 1, maxLocals := 1, code := jdk_68_method_68_code, exceptionTable := #[], attributes := #[] }
def k15m6 : Method := { name := "isLatin1", desc := "()Z", sig := { parameters := [], returnType := some .boolean }, accessFlags := 16, code := some k15c6 }
def k15c7 : Code := { maxStack := 2, maxLocals := 2, code := jdk_68_method_71_code, exceptionTable := #[], attributes := #[] }
def k15m7 : Method := { name := "inflateIfNeededFor", desc := "(Ljava/lang/String;)V", sig := { parameters := [(.object "java/lang/String")], returnType := none }, accessFlags := 2, code := some k15c7 }
def k15c8 : Code := { maxStack := 4, maxLocals := 3, code := jdk_68_method_73_code, exceptionTable := #[], attributes := #[] }
def k15m8 : Method := { name := "putStringAt", desc := "(ILjava/lang/String;)V", sig := { parameters := [.int, (.object "java/lang/String")], returnType := none }, accessFlags := 2, code := some k15c8 }
/-- java/lang/AbstractStringBuilder -/
def k15 : Class := { plain "java/lang/AbstractStringBuilder" (some 0) with
  accessFlags := 1056
  interfaces := #[14, 5]
  cf := some (fileOf pool15 10 #[] #[{ accessFlags := 0, nameIndex := 7, descriptorIndex := 8, attributes := #[] }, { accessFlags := 0, nameIndex := 7, descriptorIndex := 103, attributes := #[] }, { accessFlags := 1, nameIndex := 34, descriptorIndex := 35, attributes := #[] }, { accessFlags := 2, nameIndex := 102, descriptorIndex := 103, attributes := #[] }, { accessFlags := 1, nameIndex := 45, descriptorIndex := 46, attributes := #[] }, { accessFlags := 16, nameIndex := 552, descriptorIndex := 403, attributes := #[] }, { accessFlags := 16, nameIndex := 85, descriptorIndex := 86, attributes := #[] }, { accessFlags := 2, nameIndex := 217, descriptorIndex := 69, attributes := #[] }, { accessFlags := 2, nameIndex := 210, descriptorIndex := 211, attributes := #[] }] 1056 4 #[444, 48] #[{ accessFlags := 0, nameIndex := 17, descriptorIndex := 14, attributes := #[] }, { accessFlags := 0, nameIndex := 24, descriptorIndex := 25, attributes := #[] }, { accessFlags := 0, nameIndex := 75, descriptorIndex := 21, attributes := #[] }, { accessFlags := 0, nameIndex := 81, descriptorIndex := 82, attributes := #[] }, { accessFlags := 26, nameIndex := 13, descriptorIndex := 14, attributes := #[] }])
  fields := #[{ name := "value", type := (.array .byte), accessFlags := 0, slot := 0, constantValue := 0 }, { name := "coder", type := .byte, accessFlags := 0, slot := 1, constantValue := 0 }, { name := "maybeLatin1", type := .boolean, accessFlags := 0, slot := 2, constantValue := 0 }, { name := "count", type := .int, accessFlags := 0, slot := 3, constantValue := 0 }, { name := "EMPTYVALUE", type := (.array .byte), accessFlags := 26, slot := 0, constantValue := 0 }]
  methods := #[k15m0, k15m1, k15m2, k15m3, k15m4, k15m5, k15m6, k15m7, k15m8]
  instanceTypes := #[(.array .byte), .byte, .boolean, .int]
  staticTypes := #[(.array .byte)]
  resolved := Array.replicate 609 none
  statics := none }

def pool16 : Array CpInfo := pool [(1, .methodref 2 3), (0, .class_ 4), (0, .nameAndType 5 6), (0, u "java/lang/AbstractStringBuilder"), (0, u "<init>"), (0, u "(I)V"), (11, .class_ 20), (1, u "java/lang/String"), (3, .class_ 26), (1, u "java/lang/StringBuilder"), (0, u "append"), (0, u "(Ljava/lang/String;)Ljava/lang/StringBuilder;"), (0, .methodref 2 30), (0, .nameAndType 27 31), (0, u "(Ljava/lang/String;)Ljava/lang/AbstractStringBuilder;"), (105, .methodref 18 138), (0, .nameAndType 5 139), (0, u "(Ljava/lang/StringBuilder;)V"), (5, u "()V"), (10, u "()I"), (186, .methodref 2 344), (0, .nameAndType 345 156), (0, u "length"), (3, .class_ 350), (0, u "java/lang/Appendable"), (0, .class_ 352), (0, u "java/io/Serializable"), (0, .class_ 354), (0, u "java/lang/Comparable"), (0, .class_ 356), (0, u "java/lang/CharSequence"), (0, u "serialVersionUID"), (0, u "J"), (40, u "toString"), (0, u "()Ljava/lang/String;")] 21

def k16c0 : Code := { maxStack := 2, maxLocals := 1, code := jdk_67_method_1_code, exceptionTable := #[], attributes := #[] }
def k16m0 : Method := { name := "<init>", desc := "()V", sig := { parameters := [], returnType := none }, accessFlags := 1, code := some k16c0 }
def k16c1 : Code := { maxStack := 2, maxLocals := 2, code := jdk_67_method_7_code, exceptionTable := #[], attributes := #[] }
def k16m1 : Method := { name := "append", desc := "(Ljava/lang/String;)Ljava/lang/StringBuilder;", sig := { parameters := [(.object "java/lang/String")], returnType := some (.object "java/lang/StringBuilder") }, accessFlags := 1, code := some k16c1 }
def k16c2 : Code := { maxStack := 3, maxLocals := 1, code := jdk_67_method_42_code, exceptionTable := #[], attributes := #[] }
def k16m2 : Method := { name := "toString", desc := "()Ljava/lang/String;", sig := { parameters := [], returnType := some (.object "java/lang/String") }, accessFlags := 1, code := some k16c2 }
def k16c3 : Code := { maxStack := 1, maxLocals := 1, code := jdk_67_method_93_code, exceptionTable := #[], attributes := #[] }
def k16m3 : Method := { name := "length", desc := "()I", sig := { parameters := [], returnType := some .int }, accessFlags := 4161, code := some k16c3 }
/-- java/lang/StringBuilder -/
def k16 : Class := { plain "java/lang/StringBuilder" (some 15) with
  accessFlags := 49
  interfaces := #[14, 3, 4, 5]
  cf := some (fileOf pool16 24 #[] #[{ accessFlags := 1, nameIndex := 5, descriptorIndex := 145, attributes := #[] }, { accessFlags := 1, nameIndex := 27, descriptorIndex := 28, attributes := #[] }, { accessFlags := 1, nameIndex := 399, descriptorIndex := 400, attributes := #[] }, { accessFlags := 4161, nameIndex := 345, descriptorIndex := 156, attributes := #[] }] 49 2 #[349, 351, 353, 355] #[{ accessFlags := 24, nameIndex := 357, descriptorIndex := 358, attributes := #[] }])
  fields := #[{ name := "serialVersionUID", type := .long, accessFlags := 24, slot := 0, constantValue := 0 }]
  methods := #[k16m0, k16m1, k16m2, k16m3]
  instanceTypes := #[(.array .byte), .byte, .boolean, .int]
  staticTypes := #[.long]
  resolved := Array.replicate 422 none
  statics := none }

def pool17 : Array CpInfo := pool [(2, .class_ 4), (1, u "java/lang/Object"), (0, u "<init>"), (0, u "()V"), (1, .class_ 10), (1, u "java/lang/System"), (0, u "allowSecurityManager"), (0, u "I"), (16, u "cons"), (0, u "Ljava/io/Console;"), (77, .class_ 110), (1, u "java/lang/System$CallersHolder"), (43, u "initialErrStream"), (0, u "Ljava/io/PrintStream;"), (19, u "security"), (0, u "Ljava/lang/SecurityManager;"), (31, .class_ 209), (0, u "java/lang/System$1"), (7, u "props"), (0, u "Ljava/util/Properties;"), (2, u "lineSeparator"), (0, u "Ljava/lang/String;"), (96, .class_ 321), (1, u "java/lang/System$LoggerFinder"), (5, .class_ 328), (0, u "java/lang/System$Logger"), (67, u "err"), (2, u "out"), (91, u "notSupportedJnuEncoding"), (15, u "in"), (17, u "initialIn"), (0, u "Ljava/io/InputStream;"), (35, u "bootLayer"), (0, u "Ljava/lang/ModuleLayer;"), (99, .class_ 664), (0, u "java/lang/System$2"), (9, u "NEVER"), (2, u "MAYBE"), (49, u "arraycopy"), (0, u "(Ljava/lang/Object;ILjava/lang/Object;II)V"), (72, .class_ 802), (0, u "java/lang/System$Logger$Level")] 31

def k17m0 : Method := { name := "<init>", desc := "()V", sig := { parameters := [], returnType := none }, accessFlags := 2, code := none }
def k17m1 : Method := { name := "arraycopy", desc := "(Ljava/lang/Object;ILjava/lang/Object;II)V", sig := { parameters := [(.object "java/lang/Object"), .int, (.object "java/lang/Object"), .int, .int], returnType := none }, accessFlags := 265, code := none }
/-- java/lang/System -/
def k17 : Class := { plain "java/lang/System" (some 0) with
  accessFlags := 49
  interfaces := #[]
  cf := some (fileOf pool17 8 #[.nestMembers #[319, 327, 801, 108, 663, 208]] #[{ accessFlags := 2, nameIndex := 5, descriptorIndex := 6, attributes := #[] }, { accessFlags := 265, nameIndex := 727, descriptorIndex := 728, attributes := #[] }] 49 2 #[] #[{ accessFlags := 25, nameIndex := 507, descriptorIndex := 526, attributes := #[] }, { accessFlags := 25, nameIndex := 399, descriptorIndex := 155, attributes := #[] }, { accessFlags := 25, nameIndex := 396, descriptorIndex := 155, attributes := #[] }, { accessFlags := 10, nameIndex := 525, descriptorIndex := 526, attributes := #[] }, { accessFlags := 26, nameIndex := 674, descriptorIndex := 12, attributes := #[] }, { accessFlags := 26, nameIndex := 677, descriptorIndex := 12, attributes := #[] }, { accessFlags := 10, nameIndex := 11, descriptorIndex := 12, attributes := #[] }, { accessFlags := 74, nameIndex := 175, descriptorIndex := 176, attributes := #[] }, { accessFlags := 10, nameIndex := 491, descriptorIndex := 222, attributes := #[] }, { accessFlags := 74, nameIndex := 29, descriptorIndex := 30, attributes := #[] }, { accessFlags := 74, nameIndex := 154, descriptorIndex := 155, attributes := #[] }, { accessFlags := 10, nameIndex := 217, descriptorIndex := 218, attributes := #[] }, { accessFlags := 10, nameIndex := 221, descriptorIndex := 222, attributes := #[] }, { accessFlags := 8, nameIndex := 562, descriptorIndex := 563, attributes := #[] }])
  fields := #[{ name := "in", type := (.object "java/io/InputStream"), accessFlags := 25, slot := 0, constantValue := 0 }, { name := "out", type := (.object "java/io/PrintStream"), accessFlags := 25, slot := 1, constantValue := 0 }, { name := "err", type := (.object "java/io/PrintStream"), accessFlags := 25, slot := 2, constantValue := 0 }, { name := "initialIn", type := (.object "java/io/InputStream"), accessFlags := 10, slot := 3, constantValue := 0 }, { name := "NEVER", type := .int, accessFlags := 26, slot := 4, constantValue := 0 }, { name := "MAYBE", type := .int, accessFlags := 26, slot := 5, constantValue := 0 }, { name := "allowSecurityManager", type := .int, accessFlags := 10, slot := 6, constantValue := 0 }, { name := "security", type := (.object "java/lang/SecurityManager"), accessFlags := 74, slot := 7, constantValue := 0 }, { name := "notSupportedJnuEncoding", type := (.object "java/lang/String"), accessFlags := 10, slot := 8, constantValue := 0 }, { name := "cons", type := (.object "java/io/Console"), accessFlags := 74, slot := 9, constantValue := 0 }, { name := "initialErrStream", type := (.object "java/io/PrintStream"), accessFlags := 74, slot := 10, constantValue := 0 }, { name := "props", type := (.object "java/util/Properties"), accessFlags := 10, slot := 11, constantValue := 0 }, { name := "lineSeparator", type := (.object "java/lang/String"), accessFlags := 10, slot := 12, constantValue := 0 }, { name := "bootLayer", type := (.object "java/lang/ModuleLayer"), accessFlags := 8, slot := 13, constantValue := 0 }]
  methods := #[k17m0, k17m1]
  instanceTypes := #[]
  staticTypes := #[(.object "java/io/InputStream"), (.object "java/io/PrintStream"), (.object "java/io/PrintStream"), (.object "java/io/InputStream"), .int, .int, .int, (.object "java/lang/SecurityManager"), (.object "java/lang/String"), (.object "java/io/Console"), (.object "java/io/PrintStream"), (.object "java/util/Properties"), (.object "java/lang/String"), (.object "java/lang/ModuleLayer")]
  resolved := Array.replicate 834 none
  statics := none }

def pool18 : Array CpInfo := pool [(2, .class_ 4), (1, u "java/lang/Object"), (0, u "<init>"), (0, u "()V"), (7, .class_ 16), (1, u "java/util/Arrays"), (57, .class_ 76), (1, u "java/util/Arrays$NaturalOrder"), (36, .class_ 115), (1, u "java/util/Arrays$LegacyMergeSort"), (1, u "Z"), (21, u "copyOfRange"), (10, .methodref 151 152), (0, .class_ 153), (0, .nameAndType 154 155), (0, u "java/lang/System"), (0, u "arraycopy"), (0, u "(Ljava/lang/Object;ILjava/lang/Object;II)V"), (148, .methodref 305 306), (0, .class_ 307), (0, .nameAndType 308 309), (0, u "java/lang/Math"), (0, u "min"), (0, u "(II)I"), (29, .methodref 14 340), (0, .nameAndType 341 342), (0, u "copyOfRangeByte"), (0, u "([BII)[B"), (0, .methodref 14 344), (0, .nameAndType 345 346), (0, u "checkLength"), (0, u "(II)V"), (28, .class_ 376), (0, u "java/util/Arrays$ArrayList"), (68, u "$assertionsDisabled"), (269, u "MIN_ARRAY_SORT_GRAN"), (0, u "I"), (2, u "INSERTIONSORT_THRESHOLD"), (255, .class_ 976), (0, u "java/util/Arrays$ArrayItr")] 52

def k18m0 : Method := { name := "<init>", desc := "()V", sig := { parameters := [], returnType := none }, accessFlags := 2, code := none }
def k18c1 : Code := { maxStack := 4, maxLocals := 2, code := jdk_65_method_131_code, exceptionTable := #[], attributes := #[] }
def k18m1 : Method := { name := "checkLength", desc := "(II)V", sig := { parameters := [.int, .int], returnType := none }, accessFlags := 10, code := some k18c1 }
def k18c2 : Code := { maxStack := 3, maxLocals := 3, code := jdk_65_method_132_code, exceptionTable := #[], attributes := #[] }
def k18m2 : Method := { name := "copyOfRange", desc := "([BII)[B", sig := { parameters := [(.array .byte), .int, .int], returnType := some (.array .byte) }, accessFlags := 9, code := some k18c2 }
def k18c3 : Code := { maxStack := 6, maxLocals := 5, code := jdk_65_method_133_code, exceptionTable := #[], attributes := #[] }
def k18m3 : Method := { name := "copyOfRangeByte", desc := "([BII)[B", sig := { parameters := [(.array .byte), .int, .int], returnType := some (.array .byte) }, accessFlags := 10, code := some k18c3 }
/-- java/util/Arrays -/
def k18 : Class := { plain "java/util/Arrays" (some 0) with
  accessFlags := 49
  interfaces := #[]
  cf := some (fileOf pool18 14 #[.nestMembers #[975, 375, 113, 74]] #[{ accessFlags := 2, nameIndex := 5, descriptorIndex := 6, attributes := #[] }, { accessFlags := 10, nameIndex := 345, descriptorIndex := 346, attributes := #[] }, { accessFlags := 9, nameIndex := 139, descriptorIndex := 342, attributes := #[] }, { accessFlags := 10, nameIndex := 341, descriptorIndex := 342, attributes := #[] }] 49 2 #[] #[{ accessFlags := 26, nameIndex := 715, descriptorIndex := 716, attributes := #[] }, { accessFlags := 26, nameIndex := 719, descriptorIndex := 716, attributes := #[] }, { accessFlags := 4120, nameIndex := 445, descriptorIndex := 117, attributes := #[] }])
  fields := #[{ name := "MIN_ARRAY_SORT_GRAN", type := .int, accessFlags := 26, slot := 0, constantValue := 0 }, { name := "INSERTIONSORT_THRESHOLD", type := .int, accessFlags := 26, slot := 1, constantValue := 0 }, { name := "$assertionsDisabled", type := .boolean, accessFlags := 4120, slot := 2, constantValue := 0 }]
  methods := #[k18m0, k18m1, k18m2, k18m3]
  instanceTypes := #[]
  staticTypes := #[.int, .int, .boolean]
  resolved := Array.replicate 1029 none
  statics := none }

def pool19 : Array CpInfo := pool [(1, .class_ 2), (0, u "java/lang/String"), (1, .class_ 6), (1, u "java/lang/Object"), (0, u "<init>"), (0, u "()V"), (0, .methodref 1 10), (0, .nameAndType 11 12), (0, u "checkIndex"), (0, u "(II)V"), (1, .class_ 16), (1, u "java/lang/StringLatin1"), (36, u "([BI)C"), (36, u "canEncode"), (14, u "(C)Z"), (15, u "$assertionsDisabled"), (0, u "Z"), (98, .class_ 223), (1, u "java/lang/StringLatin1$LinesSpliterator"), (28, u "charAt"), (127, u "toBytes"), (1, u "(C)[B"), (7, .class_ 391), (0, u "java/lang/StringLatin1$CharsSpliterator")] 3

def k19m0 : Method := { name := "<init>", desc := "()V", sig := { parameters := [], returnType := none }, accessFlags := 0, code := none }
def k19c1 : Code := { maxStack := 2, maxLocals := 2, code := jdk_43_method_2_code, exceptionTable := #[], attributes := #[] }
def k19m1 : Method := { name := "charAt", desc := "([BI)C", sig := { parameters := [(.array .byte), .int], returnType := some .char }, accessFlags := 9, code := some k19c1 }
def k19c2 : Code := { maxStack := 2, maxLocals := 1, code := jdk_43_method_3_code, exceptionTable := #[], attributes := #[] }
def k19m2 : Method := { name := "canEncode", desc := "(C)Z", sig := { parameters := [.char], returnType := some .boolean }, accessFlags := 9, code := some k19c2 }
def k19c3 : Code := { maxStack := 4, maxLocals := 1, code := jdk_43_method_46_code, exceptionTable := #[], attributes := #[] }
def k19m3 : Method := { name := "toBytes", desc := "(C)[B", sig := { parameters := [.char], returnType := some (.array .byte) }, accessFlags := 9, code := some k19c3 }
/-- java/lang/StringLatin1 -/
def k19 : Class := { plain "java/lang/StringLatin1" (some 0) with
  accessFlags := 48
  interfaces := #[]
  cf := some (fileOf pool19 14 #[.nestMembers #[390, 221]] #[{ accessFlags := 0, nameIndex := 7, descriptorIndex := 8, attributes := #[] }, { accessFlags := 9, nameIndex := 252, descriptorIndex := 53, attributes := #[] }, { accessFlags := 9, nameIndex := 90, descriptorIndex := 105, attributes := #[] }, { accessFlags := 9, nameIndex := 380, descriptorIndex := 382, attributes := #[] }] 48 4 #[] #[{ accessFlags := 4120, nameIndex := 121, descriptorIndex := 122, attributes := #[] }])
  fields := #[{ name := "$assertionsDisabled", type := .boolean, accessFlags := 4120, slot := 0, constantValue := 0 }]
  methods := #[k19m0, k19m1, k19m2, k19m3]
  instanceTypes := #[]
  staticTypes := #[.boolean]
  resolved := Array.replicate 395 none
  statics := none }

def pool20 : Array CpInfo := pool [(2, .class_ 4), (1, u "java/lang/Object"), (0, u "<init>"), (0, u "()V"), (17, .class_ 26), (1, u "jdk/internal/util/Preconditions"), (6, u "checkIndex"), (21, .class_ 56), (0, u "jdk/internal/util/Preconditions$4"), (57, .class_ 115), (0, u "jdk/internal/util/Preconditions$1"), (7, u "SIOOBE_FORMATTER"), (0, u "Ljava/util/function/BiFunction;"), (0, .class_ 126), (0, u "jdk/internal/util/Preconditions$2"), (3, u "AIOOBE_FORMATTER"), (0, .class_ 132), (0, u "jdk/internal/util/Preconditions$3"), (3, u "IOOBE_FORMATTER"), (41, u "(IILjava/util/function/BiFunction;)I")] 15

def k20m0 : Method := { name := "<init>", desc := "()V", sig := { parameters := [], returnType := none }, accessFlags := 1, code := none }
def k20c1 : Code := { maxStack := 3, maxLocals := 3, code := jdk_41_method_11_code, exceptionTable := #[], attributes := #[] }
def k20m1 : Method := { name := "checkIndex", desc := "(IILjava/util/function/BiFunction;)I", sig := { parameters := [.int, .int, (.object "java/util/function/BiFunction")], returnType := some .int }, accessFlags := 9, code := some k20c1 }
/-- jdk/internal/util/Preconditions -/
def k20 : Class := { plain "jdk/internal/util/Preconditions" (some 0) with
  accessFlags := 33
  interfaces := #[]
  cf := some (fileOf pool20 24 #[.nestMembers #[55, 131, 125, 114]] #[{ accessFlags := 1, nameIndex := 5, descriptorIndex := 6, attributes := #[] }, { accessFlags := 9, nameIndex := 33, descriptorIndex := 178, attributes := #[] }] 33 2 #[] #[{ accessFlags := 25, nameIndex := 123, descriptorIndex := 124, attributes := #[] }, { accessFlags := 25, nameIndex := 130, descriptorIndex := 124, attributes := #[] }, { accessFlags := 25, nameIndex := 136, descriptorIndex := 124, attributes := #[] }])
  fields := #[{ name := "SIOOBE_FORMATTER", type := (.object "java/util/function/BiFunction"), accessFlags := 25, slot := 0, constantValue := 0 }, { name := "AIOOBE_FORMATTER", type := (.object "java/util/function/BiFunction"), accessFlags := 25, slot := 1, constantValue := 0 }, { name := "IOOBE_FORMATTER", type := (.object "java/util/function/BiFunction"), accessFlags := 25, slot := 2, constantValue := 0 }]
  methods := #[k20m0, k20m1]
  instanceTypes := #[]
  staticTypes := #[(.object "java/util/function/BiFunction"), (.object "java/util/function/BiFunction"), (.object "java/util/function/BiFunction")]
  resolved := Array.replicate 194 none
  statics := some 2 }

def pool21 : Array CpInfo := pool [(6, .class_ 8), (1, u "java/lang/Object"), (0, u "<init>"), (0, u "()V"), (1, .class_ 14), (1, u "java/lang/StringUTF16"), (31, u "$assertionsDisabled"), (0, u "Z"), (13, u "HI_BYTE_SHIFT"), (0, u "I"), (2, u "LO_BYTE_SHIFT"), (49, .methodref 12 116), (0, .nameAndType 117 118), (0, u "compress"), (0, u "([CI[BII)I"), (3, u "([CII)[B"), (138, u "coderFromArrayLen"), (0, u "([BI)B"), (106, .class_ 371), (1, u "java/lang/StringUTF16$LinesSpliterator"), (58, u "MAX_LENGTH"), (196, .class_ 628), (0, u "java/lang/StringUTF16$CodePointsSpliterator"), (0, .class_ 630), (0, u "java/lang/StringUTF16$CharsSpliterator")] 4

def k21m0 : Method := { name := "<init>", desc := "()V", sig := { parameters := [], returnType := none }, accessFlags := 0, code := none }
def k21c1 : Code := { maxStack := 2, maxLocals := 2, code := jdk_52_method_15_code, exceptionTable := #[], attributes := #[] }
def k21m1 : Method := { name := "coderFromArrayLen", desc := "([BI)B", sig := { parameters := [(.array .byte), .int], returnType := some .byte }, accessFlags := 8, code := some k21c1 }
def k21c2 : Code := { maxStack := 5, maxLocals := 6, code := jdk_52_method_16_code, exceptionTable := #[], attributes := #[] }
def k21m2 : Method := { name := "compress", desc := "([CII)[B", sig := { parameters := [(.array .char), .int, .int], returnType := some (.array .byte) }, accessFlags := 9, code := some k21c2 }
def k21c3 : Code := { maxStack := 3, maxLocals := 7, code := jdk_52_method_21_code, exceptionTable := #[], attributes := #[] }
def k21m3 : Method := { name := "compress", desc := "([CI[BII)I", sig := { parameters := [(.array .char), .int, (.array .byte), .int, .int], returnType := some .int }, accessFlags := 9, code := some k21c3 }
/-- java/lang/StringUTF16 -/
def k21 : Class := { plain "java/lang/StringUTF16" (some 0) with
  accessFlags := 48
  interfaces := #[]
  cf := some (fileOf pool21 12 #[.nestMembers #[627, 629, 369]] #[{ accessFlags := 0, nameIndex := 9, descriptorIndex := 10, attributes := #[] }, { accessFlags := 8, nameIndex := 261, descriptorIndex := 262, attributes := #[] }, { accessFlags := 9, nameIndex := 117, descriptorIndex := 122, attributes := #[] }, { accessFlags := 9, nameIndex := 117, descriptorIndex := 118, attributes := #[] }] 48 6 #[] #[{ accessFlags := 26, nameIndex := 61, descriptorIndex := 62, attributes := #[] }, { accessFlags := 26, nameIndex := 65, descriptorIndex := 62, attributes := #[] }, { accessFlags := 24, nameIndex := 430, descriptorIndex := 62, attributes := #[] }, { accessFlags := 4120, nameIndex := 46, descriptorIndex := 47, attributes := #[] }])
  fields := #[{ name := "HI_BYTE_SHIFT", type := .int, accessFlags := 26, slot := 0, constantValue := 0 }, { name := "LO_BYTE_SHIFT", type := .int, accessFlags := 26, slot := 1, constantValue := 0 }, { name := "MAX_LENGTH", type := .int, accessFlags := 24, slot := 2, constantValue := 0 }, { name := "$assertionsDisabled", type := .boolean, accessFlags := 4120, slot := 3, constantValue := 0 }]
  methods := #[k21m0, k21m1, k21m2, k21m3]
  instanceTypes := #[]
  staticTypes := #[.int, .int, .int, .boolean]
  resolved := Array.replicate 635 none
  statics := none }

def pool22 : Array CpInfo := pool [(2, .class_ 4), (1, u "java/lang/Object"), (0, u "<init>"), (0, u "()V"), (12, .class_ 20), (0, u "java/util/Collections"), (63, u "r"), (0, u "Ljava/util/Random;"), (80, .class_ 167), (0, u "java/util/Collections$UnmodifiableCollection"), (6, .class_ 175), (0, u "java/util/Collections$UnmodifiableSequencedCollection"), (6, .class_ 183), (0, u "java/util/Collections$UnmodifiableSet"), (6, .class_ 191), (0, u "java/util/Collections$UnmodifiableSequencedSet"), (6, .class_ 199), (0, u "java/util/Collections$UnmodifiableSortedSet"), (6, .class_ 207), (0, u "java/util/Collections$UnmodifiableNavigableSet"), (4, .class_ 213), (0, u "java/util/Collections$UnmodifiableList"), (1, .class_ 216), (0, u "java/util/Collections$UnmodifiableRandomAccessList"), (6, .class_ 224), (0, u "java/util/Collections$UnmodifiableMap"), (6, .class_ 232), (0, u "java/util/Collections$UnmodifiableSequencedMap"), (4, .class_ 238), (0, u "java/util/Collections$UnmodifiableSortedMap"), (6, .class_ 246), (0, u "java/util/Collections$UnmodifiableNavigableMap"), (3, .class_ 251), (0, u "java/util/Collections$SynchronizedCollection"), (4, .class_ 257), (0, u "java/util/Collections$SynchronizedSet"), (4, .class_ 263), (0, u "java/util/Collections$SynchronizedSortedSet"), (1, .class_ 266), (0, u "java/util/Collections$SynchronizedNavigableSet"), (1, .class_ 269), (0, u "java/util/Collections$SynchronizedRandomAccessList"), (1, .class_ 272), (0, u "java/util/Collections$SynchronizedList"), (5, .class_ 279), (0, u "java/util/Collections$SynchronizedMap"), (1, .class_ 282), (0, u "java/util/Collections$SynchronizedSortedMap"), (1, .class_ 285), (0, u "java/util/Collections$SynchronizedNavigableMap"), (1, .class_ 288), (0, u "java/util/Collections$CheckedCollection"), (11, .class_ 301), (0, u "java/util/Collections$CheckedQueue"), (3, .class_ 306), (0, u "java/util/Collections$CheckedSet"), (3, .class_ 311), (0, u "java/util/Collections$CheckedSortedSet"), (3, .class_ 316), (0, u "java/util/Collections$CheckedNavigableSet"), (3, .class_ 321), (0, u "java/util/Collections$CheckedRandomAccessList"), (3, .class_ 326), (0, u "java/util/Collections$CheckedList"), (1, .class_ 329), (0, u "java/util/Collections$CheckedMap"), (3, .class_ 334), (0, u "java/util/Collections$CheckedSortedMap"), (3, .class_ 339), (0, u "java/util/Collections$CheckedNavigableMap"), (4, .class_ 346), (1, u "java/util/Collections$EmptyIterator"), (3, .class_ 352), (1, u "java/util/Collections$EmptyListIterator"), (2, .class_ 357), (1, u "java/util/Collections$EmptyEnumeration"), (4, u "EMPTY_SET"), (0, u "Ljava/util/Set;"), (6, u "EMPTY_LIST"), (0, u "Ljava/util/List;"), (2, u "EMPTY_MAP"), (0, u "Ljava/util/Map;"), (4, .class_ 381), (0, u "java/util/Collections$SingletonSet"), (2, .class_ 385), (0, u "java/util/Collections$1"), (1, .class_ 388), (0, u "java/util/Collections$2"), (1, .class_ 391), (0, u "java/util/Collections$SingletonList"), (1, .class_ 394), (0, u "java/util/Collections$SingletonMap"), (22, .class_ 418), (0, u "java/util/Collections$CopiesList"), (4, .class_ 425), (1, u "java/util/Collections$ReverseComparator"), (8, .class_ 435), (0, u "java/util/Collections$ReverseComparator2"), (6, .class_ 443), (0, u "java/util/Collections$3"), (25, .class_ 470), (0, u "java/util/Collections$SetFromMap"), (2, .class_ 474), (0, u "java/util/Collections$SequencedSetFromMap"), (3, .class_ 479), (0, u "java/util/Collections$AsLIFOQueue"), (11, .class_ 492), (0, u "java/util/Collections$EmptySet"), (1, .class_ 495), (0, u "java/util/Collections$EmptyList"), (1, .class_ 498), (0, u "java/util/Collections$EmptyMap"), (1, u "BINARYSEARCH_THRESHOLD"), (0, u "I"), (2, u "REVERSE_THRESHOLD"), (1, u "SHUFFLE_THRESHOLD"), (1, u "FILL_THRESHOLD"), (1, u "ROTATE_THRESHOLD"), (1, u "COPY_THRESHOLD"), (1, u "REPLACEALL_THRESHOLD"), (1, u "INDEXOFSUBLIST_THRESHOLD"), (333, .class_ 851), (0, u "java/util/Collections$CheckedMap$CheckedEntrySet"), (0, .class_ 853), (0, u "java/util/Collections$CheckedMap$CheckedEntrySet$CheckedEntry"), (0, .class_ 855), (0, u "java/util/Collections$CheckedMap$CheckedEntrySet$1"), (0, .class_ 857), (0, u "java/util/Collections$CheckedList$1"), (0, .class_ 859), (0, u "java/util/Collections$CheckedCollection$1"), (0, .class_ 861), (0, u "java/util/Collections$UnmodifiableNavigableMap$EmptyNavigableMap"), (0, .class_ 863), (0, u "java/util/Collections$UnmodifiableMap$UnmodifiableEntrySet"), (0, .class_ 865), (0, u "java/util/Collections$UnmodifiableMap$UnmodifiableEntrySet$UnmodifiableEntry"), (0, .class_ 867), (0, u "java/util/Collections$UnmodifiableMap$UnmodifiableEntrySet$UnmodifiableEntrySetSpliterator"), (0, .class_ 869), (0, u "java/util/Collections$UnmodifiableMap$UnmodifiableEntrySet$1"), (0, .class_ 871), (0, u "java/util/Collections$UnmodifiableList$1"), (0, .class_ 873), (0, u "java/util/Collections$UnmodifiableNavigableSet$EmptyNavigableSet"), (0, .class_ 875), (0, u "java/util/Collections$UnmodifiableCollection$1")] 57

def k22m0 : Method := { name := "<init>", desc := "()V", sig := { parameters := [], returnType := none }, accessFlags := 2, code := none }
/-- java/util/Collections -/
def k22 : Class := { plain "java/util/Collections" (some 0) with
  accessFlags := 33
  interfaces := #[]
  cf := some (fileOf pool22 19 #[.nestMembers #[478, 473, 469, 434, 423, 417, 393, 390, 380, 497, 494, 491, 355, 350, 344, 338, 333, 328, 850, 852, 854, 320, 325, 856, 315, 310, 305, 300, 287, 858, 284, 281, 278, 268, 271, 265, 262, 256, 250, 245, 860, 237, 231, 223, 862, 864, 866, 868, 215, 212, 870, 206, 872, 198, 190, 182, 174, 166, 874, 442, 387, 384]] #[{ accessFlags := 2, nameIndex := 5, descriptorIndex := 6, attributes := #[] }] 33 2 #[] #[{ accessFlags := 26, nameIndex := 500, descriptorIndex := 501, attributes := #[] }, { accessFlags := 26, nameIndex := 504, descriptorIndex := 501, attributes := #[] }, { accessFlags := 26, nameIndex := 506, descriptorIndex := 501, attributes := #[] }, { accessFlags := 26, nameIndex := 508, descriptorIndex := 501, attributes := #[] }, { accessFlags := 26, nameIndex := 510, descriptorIndex := 501, attributes := #[] }, { accessFlags := 26, nameIndex := 512, descriptorIndex := 501, attributes := #[] }, { accessFlags := 26, nameIndex := 514, descriptorIndex := 501, attributes := #[] }, { accessFlags := 26, nameIndex := 516, descriptorIndex := 501, attributes := #[] }, { accessFlags := 10, nameIndex := 84, descriptorIndex := 85, attributes := #[] }, { accessFlags := 25, nameIndex := 362, descriptorIndex := 363, attributes := #[] }, { accessFlags := 25, nameIndex := 370, descriptorIndex := 371, attributes := #[] }, { accessFlags := 25, nameIndex := 374, descriptorIndex := 375, attributes := #[] }])
  fields := #[{ name := "BINARYSEARCH_THRESHOLD", type := .int, accessFlags := 26, slot := 0, constantValue := 0 }, { name := "REVERSE_THRESHOLD", type := .int, accessFlags := 26, slot := 1, constantValue := 0 }, { name := "SHUFFLE_THRESHOLD", type := .int, accessFlags := 26, slot := 2, constantValue := 0 }, { name := "FILL_THRESHOLD", type := .int, accessFlags := 26, slot := 3, constantValue := 0 }, { name := "ROTATE_THRESHOLD", type := .int, accessFlags := 26, slot := 4, constantValue := 0 }, { name := "COPY_THRESHOLD", type := .int, accessFlags := 26, slot := 5, constantValue := 0 }, { name := "REPLACEALL_THRESHOLD", type := .int, accessFlags := 26, slot := 6, constantValue := 0 }, { name := "INDEXOFSUBLIST_THRESHOLD", type := .int, accessFlags := 26, slot := 7, constantValue := 0 }, { name := "r", type := (.object "java/util/Random"), accessFlags := 10, slot := 8, constantValue := 0 }, { name := "EMPTY_SET", type := (.object "java/util/Set"), accessFlags := 25, slot := 9, constantValue := 0 }, { name := "EMPTY_LIST", type := (.object "java/util/List"), accessFlags := 25, slot := 10, constantValue := 0 }, { name := "EMPTY_MAP", type := (.object "java/util/Map"), accessFlags := 25, slot := 11, constantValue := 0 }]
  methods := #[k22m0]
  instanceTypes := #[]
  staticTypes := #[.int, .int, .int, .int, .int, .int, .int, .int, (.object "java/util/Random"), (.object "java/util/Set"), (.object "java/util/List"), (.object "java/util/Map")]
  resolved := Array.replicate 933 none
  statics := some 3 }

def pool23 : Array CpInfo := pool [(9, u "<init>"), (6, .class_ 18), (1, u "java/lang/Object"), (0, u "()V"), (1, .class_ 23), (1, u "jdk/internal/util/ArraysSupport"), (0, u "LOG2_ARRAY_LONG_INDEX_SCALE"), (0, u "I"), (2, u "U"), (0, u "Ljdk/internal/misc/Unsafe;"), (8, u "BIG_ENDIAN"), (0, u "Z"), (8, u "LOG2_BYTE_BIT_SIZE"), (4, u "LOG2_ARRAY_INT_INDEX_SCALE"), (54, u "JLA"), (0, u "Ljdk/internal/access/JavaLangAccess;"), (11, u "LOG2_ARRAY_BOOLEAN_INDEX_SCALE"), (9, u "LOG2_ARRAY_BYTE_INDEX_SCALE"), (5, u "LOG2_ARRAY_CHAR_INDEX_SCALE"), (5, u "LOG2_ARRAY_SHORT_INDEX_SCALE"), (18, u "LOG2_ARRAY_FLOAT_INDEX_SCALE"), (24, u "LOG2_ARRAY_DOUBLE_INDEX_SCALE"), (89, u "T_BOOLEAN"), (2, u "T_CHAR"), (1, u "T_FLOAT"), (1, u "T_DOUBLE"), (1, u "T_BYTE"), (1, u "T_SHORT"), (1, u "T_INT"), (1, u "T_LONG"), (1, u "SOFT_MAX_ARRAY_LENGTH")] 83

def k23m0 : Method := { name := "<init>", desc := "()V", sig := { parameters := [], returnType := none }, accessFlags := 2, code := none }
/-- jdk/internal/util/ArraysSupport -/
def k23 : Class := { plain "jdk/internal/util/ArraysSupport" (some 0) with
  accessFlags := 33
  interfaces := #[]
  cf := some (fileOf pool23 21 #[] #[{ accessFlags := 2, nameIndex := 9, descriptorIndex := 19, attributes := #[] }] 33 16 #[] #[{ accessFlags := 24, nameIndex := 28, descriptorIndex := 29, attributes := #[] }, { accessFlags := 26, nameIndex := 38, descriptorIndex := 39, attributes := #[] }, { accessFlags := 25, nameIndex := 121, descriptorIndex := 25, attributes := #[] }, { accessFlags := 25, nameIndex := 131, descriptorIndex := 25, attributes := #[] }, { accessFlags := 25, nameIndex := 137, descriptorIndex := 25, attributes := #[] }, { accessFlags := 25, nameIndex := 143, descriptorIndex := 25, attributes := #[] }, { accessFlags := 25, nameIndex := 53, descriptorIndex := 25, attributes := #[] }, { accessFlags := 25, nameIndex := 24, descriptorIndex := 25, attributes := #[] }, { accessFlags := 25, nameIndex := 162, descriptorIndex := 25, attributes := #[] }, { accessFlags := 25, nameIndex := 187, descriptorIndex := 25, attributes := #[] }, { accessFlags := 26, nameIndex := 48, descriptorIndex := 25, attributes := #[] }, { accessFlags := 25, nameIndex := 277, descriptorIndex := 25, attributes := #[] }, { accessFlags := 25, nameIndex := 280, descriptorIndex := 25, attributes := #[] }, { accessFlags := 25, nameIndex := 282, descriptorIndex := 25, attributes := #[] }, { accessFlags := 25, nameIndex := 284, descriptorIndex := 25, attributes := #[] }, { accessFlags := 25, nameIndex := 286, descriptorIndex := 25, attributes := #[] }, { accessFlags := 25, nameIndex := 288, descriptorIndex := 25, attributes := #[] }, { accessFlags := 25, nameIndex := 290, descriptorIndex := 25, attributes := #[] }, { accessFlags := 25, nameIndex := 292, descriptorIndex := 25, attributes := #[] }, { accessFlags := 26, nameIndex := 108, descriptorIndex := 109, attributes := #[] }, { accessFlags := 25, nameIndex := 294, descriptorIndex := 25, attributes := #[] }])
  fields := #[{ name := "U", type := (.object "jdk/internal/misc/Unsafe"), accessFlags := 24, slot := 0, constantValue := 0 }, { name := "BIG_ENDIAN", type := .boolean, accessFlags := 26, slot := 1, constantValue := 0 }, { name := "LOG2_ARRAY_BOOLEAN_INDEX_SCALE", type := .int, accessFlags := 25, slot := 2, constantValue := 0 }, { name := "LOG2_ARRAY_BYTE_INDEX_SCALE", type := .int, accessFlags := 25, slot := 3, constantValue := 0 }, { name := "LOG2_ARRAY_CHAR_INDEX_SCALE", type := .int, accessFlags := 25, slot := 4, constantValue := 0 }, { name := "LOG2_ARRAY_SHORT_INDEX_SCALE", type := .int, accessFlags := 25, slot := 5, constantValue := 0 }, { name := "LOG2_ARRAY_INT_INDEX_SCALE", type := .int, accessFlags := 25, slot := 6, constantValue := 0 }, { name := "LOG2_ARRAY_LONG_INDEX_SCALE", type := .int, accessFlags := 25, slot := 7, constantValue := 0 }, { name := "LOG2_ARRAY_FLOAT_INDEX_SCALE", type := .int, accessFlags := 25, slot := 8, constantValue := 0 }, { name := "LOG2_ARRAY_DOUBLE_INDEX_SCALE", type := .int, accessFlags := 25, slot := 9, constantValue := 0 }, { name := "LOG2_BYTE_BIT_SIZE", type := .int, accessFlags := 26, slot := 10, constantValue := 0 }, { name := "T_BOOLEAN", type := .int, accessFlags := 25, slot := 11, constantValue := 0 }, { name := "T_CHAR", type := .int, accessFlags := 25, slot := 12, constantValue := 0 }, { name := "T_FLOAT", type := .int, accessFlags := 25, slot := 13, constantValue := 0 }, { name := "T_DOUBLE", type := .int, accessFlags := 25, slot := 14, constantValue := 0 }, { name := "T_BYTE", type := .int, accessFlags := 25, slot := 15, constantValue := 0 }, { name := "T_SHORT", type := .int, accessFlags := 25, slot := 16, constantValue := 0 }, { name := "T_INT", type := .int, accessFlags := 25, slot := 17, constantValue := 0 }, { name := "T_LONG", type := .int, accessFlags := 25, slot := 18, constantValue := 0 }, { name := "JLA", type := (.object "jdk/internal/access/JavaLangAccess"), accessFlags := 26, slot := 19, constantValue := 0 }, { name := "SOFT_MAX_ARRAY_LENGTH", type := .int, accessFlags := 25, slot := 20, constantValue := 0 }]
  methods := #[k23m0]
  instanceTypes := #[]
  staticTypes := #[(.object "jdk/internal/misc/Unsafe"), .boolean, .int, .int, .int, .int, .int, .int, .int, .int, .int, .int, .int, .int, .int, .int, .int, .int, .int, (.object "jdk/internal/access/JavaLangAccess"), .int]
  resolved := Array.replicate 378 none
  statics := none }

def pool24 : Array CpInfo := pool [(8, .class_ 10), (1, u "java/lang/Iterable"), (24, .class_ 36), (0, u "java/lang/Object")] 25

/-- java/lang/Iterable -/
def k24 : Class := { plain "java/lang/Iterable" (some 0) with
  accessFlags := 1537
  interfaces := #[]
  cf := some (fileOf pool24 8 #[] #[] 1537 35 #[] #[])
  fields := #[]
  methods := #[]
  instanceTypes := #[]
  staticTypes := #[]
  resolved := Array.replicate 62 none
  statics := none }

def pool25 : Array CpInfo := pool [(10, .class_ 12), (1, u "java/util/Collection"), (47, .class_ 61), (0, u "java/lang/Object"), (0, .class_ 63), (0, u "java/lang/Iterable")] 51

/-- java/util/Collection -/
def k25 : Class := { plain "java/util/Collection" (some 0) with
  accessFlags := 1537
  interfaces := #[24]
  cf := some (fileOf pool25 10 #[] #[] 1537 60 #[62] #[])
  fields := #[]
  methods := #[]
  instanceTypes := #[]
  staticTypes := #[]
  resolved := Array.replicate 115 none
  statics := none }

def pool26 : Array CpInfo := pool [(2, .class_ 4), (1, u "java/lang/Object"), (0, u "<init>"), (0, u "()V"), (1, .class_ 10), (1, u "java/util/AbstractCollection"), (66, .class_ 78), (0, u "java/util/Collection")] 81

def k26m0 : Method := { name := "<init>", desc := "()V", sig := { parameters := [], returnType := none }, accessFlags := 4, code := none }
/-- java/util/AbstractCollection -/
def k26 : Class := { plain "java/util/AbstractCollection" (some 0) with
  accessFlags := 1057
  interfaces := #[25]
  cf := some (fileOf pool26 8 #[] #[{ accessFlags := 4, nameIndex := 5, descriptorIndex := 6, attributes := #[] }] 1057 2 #[77] #[])
  fields := #[]
  methods := #[k26m0]
  instanceTypes := #[]
  staticTypes := #[]
  resolved := Array.replicate 160 none
  statics := none }

def pool27 : Array CpInfo := pool [(8, .class_ 10), (1, u "java/util/SequencedCollection"), (15, .class_ 27), (0, u "java/lang/Object"), (0, .class_ 29), (0, u "java/util/Collection")] 27

/-- java/util/SequencedCollection -/
def k27 : Class := { plain "java/util/SequencedCollection" (some 0) with
  accessFlags := 1537
  interfaces := #[25]
  cf := some (fileOf pool27 8 #[] #[] 1537 26 #[28] #[])
  fields := #[]
  methods := #[]
  instanceTypes := #[]
  staticTypes := #[]
  resolved := Array.replicate 57 none
  statics := none }

def pool28 : Array CpInfo := pool [(8, .class_ 10), (1, u "java/util/List"), (92, .class_ 104), (0, u "java/lang/Object"), (15, .class_ 121), (0, u "java/util/SequencedCollection")] 129

/-- java/util/List -/
def k28 : Class := { plain "java/util/List" (some 0) with
  accessFlags := 1537
  interfaces := #[27]
  cf := some (fileOf pool28 8 #[] #[] 1537 103 #[120] #[])
  fields := #[]
  methods := #[]
  instanceTypes := #[]
  staticTypes := #[]
  resolved := Array.replicate 251 none
  statics := none }

def pool29 : Array CpInfo := pool [(2, .class_ 4), (1, u "java/util/AbstractCollection"), (0, u "<init>"), (0, u "()V"), (1, .class_ 10), (1, u "java/util/AbstractList"), (0, u "modCount"), (0, u "I"), (64, .class_ 78), (0, u "java/util/AbstractList$Itr"), (3, .class_ 83), (0, u "java/util/AbstractList$ListItr"), (9, .class_ 94), (0, u "java/util/AbstractList$RandomAccessSubList"), (3, .class_ 99), (0, u "java/util/AbstractList$SubList"), (33, .class_ 134), (0, u "java/util/List"), (73, .class_ 209), (0, u "java/util/AbstractList$SubList$1"), (0, .class_ 211), (0, u "java/util/AbstractList$RandomAccessSpliterator")] 6

def k29m0 : Method := { name := "<init>", desc := "()V", sig := { parameters := [], returnType := none }, accessFlags := 4, code := none }
/-- java/util/AbstractList -/
def k29 : Class := { plain "java/util/AbstractList" (some 26) with
  accessFlags := 1057
  interfaces := #[28]
  cf := some (fileOf pool29 8 #[.nestMembers #[93, 98, 208, 210, 82, 77]] #[{ accessFlags := 4, nameIndex := 5, descriptorIndex := 6, attributes := #[] }] 1057 2 #[133] #[{ accessFlags := 132, nameIndex := 11, descriptorIndex := 12, attributes := #[] }])
  fields := #[{ name := "modCount", type := .int, accessFlags := 132, slot := 0, constantValue := 0 }]
  methods := #[k29m0]
  instanceTypes := #[.int]
  staticTypes := #[]
  resolved := Array.replicate 218 none
  statics := none }

def pool30 : Array CpInfo := pool [(1, .class_ 2), (0, u "java/util/RandomAccess"), (0, .class_ 4), (0, u "java/lang/Object")] 2

/-- java/util/RandomAccess -/
def k30 : Class := { plain "java/util/RandomAccess" (some 0) with
  accessFlags := 1537
  interfaces := #[]
  cf := some (fileOf pool30 1 #[] #[] 1537 3 #[] #[])
  fields := #[]
  methods := #[]
  instanceTypes := #[]
  staticTypes := #[]
  resolved := Array.replicate 7 none
  statics := none }

def pool31 : Array CpInfo := pool [(2, .class_ 4), (1, u "java/util/AbstractList"), (0, u "<init>"), (0, u "()V"), (1, .class_ 10), (1, u "java/util/Collections"), (54, .class_ 66), (0, u "java/util/Collections$EmptyList"), (0, .class_ 68), (0, u "java/util/RandomAccess"), (0, .class_ 70), (0, u "java/io/Serializable"), (0, u "serialVersionUID"), (0, u "J")] 77

def k31m0 : Method := { name := "<init>", desc := "()V", sig := { parameters := [], returnType := none }, accessFlags := 2, code := none }
/-- java/util/Collections$EmptyList -/
def k31 : Class := { plain "java/util/Collections$EmptyList" (some 29) with
  accessFlags := 32
  interfaces := #[30, 3]
  cf := some (fileOf pool31 65 #[.nestHost 8] #[{ accessFlags := 2, nameIndex := 5, descriptorIndex := 6, attributes := #[] }] 32 2 #[67, 69] #[{ accessFlags := 26, nameIndex := 71, descriptorIndex := 72, attributes := #[] }])
  fields := #[{ name := "serialVersionUID", type := .long, accessFlags := 26, slot := 0, constantValue := 0 }]
  methods := #[k31m0]
  instanceTypes := #[.int]
  staticTypes := #[.long]
  resolved := Array.replicate 150 none
  statics := none }

def pool32 : Array CpInfo := pool [(2, .class_ 4), (1, u "java/lang/StackTraceElement"), (0, u "<init>"), (2, .class_ 10), (1, u "java/lang/Object"), (0, u "()V"), (2, u "format"), (0, u "B"), (2, u "classLoaderName"), (0, u "Ljava/lang/String;"), (2, u "moduleName"), (2, u "moduleVersion"), (12, u "declaringClass"), (4, u "methodName"), (2, u "fileName"), (2, u "lineNumber"), (0, u "I"), (65, u "declaringClassObject"), (0, u "Ljava/lang/Class;"), (33, .class_ 153), (1, u "java/lang/StackTraceElement$HashedModules"), (17, .class_ 172), (0, u "java/io/Serializable"), (0, u "NATIVE_METHOD"), (1, u "UNKNOWN_SOURCE"), (2, u "BUILTIN_CLASS_LOADER"), (1, u "JDK_NON_UPGRADEABLE_MODULE"), (1, u "serialVersionUID"), (0, u "J")] 51

def k32m0 : Method := { name := "<init>", desc := "()V", sig := { parameters := [], returnType := none }, accessFlags := 2, code := none }
/-- java/lang/StackTraceElement -/
def k32 : Class := { plain "java/lang/StackTraceElement" (some 0) with
  accessFlags := 49
  interfaces := #[3]
  cf := some (fileOf pool32 2 #[.nestMembers #[151]] #[{ accessFlags := 2, nameIndex := 5, descriptorIndex := 11, attributes := #[] }] 49 8 #[171] #[{ accessFlags := 26, nameIndex := 173, descriptorIndex := 19, attributes := #[] }, { accessFlags := 26, nameIndex := 175, descriptorIndex := 19, attributes := #[] }, { accessFlags := 130, nameIndex := 116, descriptorIndex := 117, attributes := #[] }, { accessFlags := 2, nameIndex := 18, descriptorIndex := 19, attributes := #[] }, { accessFlags := 2, nameIndex := 22, descriptorIndex := 19, attributes := #[] }, { accessFlags := 2, nameIndex := 25, descriptorIndex := 19, attributes := #[] }, { accessFlags := 2, nameIndex := 38, descriptorIndex := 19, attributes := #[] }, { accessFlags := 2, nameIndex := 43, descriptorIndex := 19, attributes := #[] }, { accessFlags := 2, nameIndex := 46, descriptorIndex := 19, attributes := #[] }, { accessFlags := 2, nameIndex := 49, descriptorIndex := 50, attributes := #[] }, { accessFlags := 2, nameIndex := 14, descriptorIndex := 15, attributes := #[] }, { accessFlags := 26, nameIndex := 178, descriptorIndex := 15, attributes := #[] }, { accessFlags := 26, nameIndex := 180, descriptorIndex := 15, attributes := #[] }, { accessFlags := 26, nameIndex := 182, descriptorIndex := 183, attributes := #[] }])
  fields := #[{ name := "NATIVE_METHOD", type := (.object "java/lang/String"), accessFlags := 26, slot := 0, constantValue := 0 }, { name := "UNKNOWN_SOURCE", type := (.object "java/lang/String"), accessFlags := 26, slot := 1, constantValue := 0 }, { name := "declaringClassObject", type := (.object "java/lang/Class"), accessFlags := 130, slot := 0, constantValue := 0 }, { name := "classLoaderName", type := (.object "java/lang/String"), accessFlags := 2, slot := 1, constantValue := 0 }, { name := "moduleName", type := (.object "java/lang/String"), accessFlags := 2, slot := 2, constantValue := 0 }, { name := "moduleVersion", type := (.object "java/lang/String"), accessFlags := 2, slot := 3, constantValue := 0 }, { name := "declaringClass", type := (.object "java/lang/String"), accessFlags := 2, slot := 4, constantValue := 0 }, { name := "methodName", type := (.object "java/lang/String"), accessFlags := 2, slot := 5, constantValue := 0 }, { name := "fileName", type := (.object "java/lang/String"), accessFlags := 2, slot := 6, constantValue := 0 }, { name := "lineNumber", type := .int, accessFlags := 2, slot := 7, constantValue := 0 }, { name := "format", type := .byte, accessFlags := 2, slot := 8, constantValue := 0 }, { name := "BUILTIN_CLASS_LOADER", type := .byte, accessFlags := 26, slot := 2, constantValue := 0 }, { name := "JDK_NON_UPGRADEABLE_MODULE", type := .byte, accessFlags := 26, slot := 3, constantValue := 0 }, { name := "serialVersionUID", type := .long, accessFlags := 26, slot := 4, constantValue := 0 }]
  methods := #[k32m0]
  instanceTypes := #[(.object "java/lang/Class"), (.object "java/lang/String"), (.object "java/lang/String"), (.object "java/lang/String"), (.object "java/lang/String"), (.object "java/lang/String"), (.object "java/lang/String"), .int, .byte]
  staticTypes := #[(.object "java/lang/String"), (.object "java/lang/String"), .byte, .byte, .long]
  resolved := Array.replicate 235 none
  statics := none }

def pool33 : Array CpInfo := pool [(1, u "java/lang/Cloneable"), (0, .class_ 1), (0, u "java/lang/Object"), (0, .class_ 3)] 3

/-- java/lang/Cloneable -/
def k33 : Class := { plain "java/lang/Cloneable" (some 0) with
  accessFlags := 1537
  interfaces := #[]
  cf := some (fileOf pool33 2 #[] #[] 1537 4 #[] #[])
  fields := #[]
  methods := #[]
  instanceTypes := #[]
  staticTypes := #[]
  resolved := Array.replicate 8 none
  statics := none }

/-- the primitive byte -/
def k34 : Class := { plain "byte" none with kind := .primitive 'B', accessFlags := 0x411 }
/-- [B -/
def k35 : Class := { plain "[B" (some 0) with kind := .array 34 .byte, interfaces := #[33, 3], accessFlags := 1041 }

/-- the primitive char -/
def k36 : Class := { plain "char" none with kind := .primitive 'C', accessFlags := 0x411 }
/-- [C -/
def k37 : Class := { plain "[C" (some 0) with kind := .array 36 .char, interfaces := #[33, 3], accessFlags := 1041 }

/-- the primitive int -/
def k38 : Class := { plain "int" none with kind := .primitive 'I', accessFlags := 0x411 }
/-- [I -/
def k39 : Class := { plain "[I" (some 0) with kind := .array 38 .int, interfaces := #[33, 3], accessFlags := 1041 }

/-- [Ljava/lang/Object; -/
def k40 : Class := { plain "[Ljava/lang/Object;" (some 0) with kind := .array 0 (.object "java/lang/Object"), interfaces := #[33, 3], accessFlags := 1041 }

/-- [Ljava/lang/StackTraceElement; -/
def k41 : Class := { plain "[Ljava/lang/StackTraceElement;" (some 0) with kind := .array 32 (.object "java/lang/StackTraceElement"), interfaces := #[33, 3], accessFlags := 1041 }

/-- [Ljava/lang/Throwable; -/
def k42 : Class := { plain "[Ljava/lang/Throwable;" (some 0) with kind := .array 9 (.object "java/lang/Throwable"), interfaces := #[33, 3], accessFlags := 1041 }

def heap : Heap := #[{ cls := 8, slots := #[.long 0, .int 1, .null, .int 0, .null, .int 0, .int 0], vm := .statics 8 },
  { cls := 9, slots := #[.long 0, .ref 4, .ref 5, .null, .null, .null, .null, .ref 6, .int 1], vm := .statics 9 },
  { cls := 20, slots := #[.null, .null, .null], vm := .statics 20 },
  { cls := 22, slots := #[.int 0, .int 0, .int 0, .int 0, .int 0, .int 0, .int 0, .int 0, .null, .null, .ref 5, .null], vm := .statics 22 },
  { cls := 41, slots := #[], vm := .none },
  { cls := 31, slots := #[.int 0], vm := .none },
  { cls := 42, slots := #[], vm := .none }]
def classes : Array Class := #[k0, k1, k2, k3, k4, k5, k6, k7, k8, k9, k10, k11, k12, k13, k14, k15, k16, k17, k18, k19, k20, k21, k22, k23, k24, k25, k26, k27, k28, k29, k30, k31, k32, k33, k34, k35, k36, k37, k38, k39, k40, k41, k42]
def interned : List (Array UInt16 × Addr) := []
def slotsUsed : Nat := 32
def theMethod : MethodId := ⟨1, 2⟩
def args0 : Array Value := #[.int 131137, .int 65601, .int 3]
def aboutOver (below : List Frame) : State where
  vm := { classes := classes, interned := interned.toArray }
  heap := heap
  slotsUsed := slotsUsed
  threads := #[{ frames := .invoking theMethod args0 :: below }]
def below0 : List Frame := [.native { method := ⟨0, 0⟩, args := #[] }]
def about1 : State := aboutOver below0
def p0 : Program := .bare "" "" ""
def e0 : Env := launch0.env 0 0 0
theorem w_frames : about1.frames = Frame.invoking theMethod args0 :: below0 := rfl
set_option maxRecDepth 65536 in
theorem w_args : argsFit about1.vm theMethod args0 = true := by decide +kernel
set_option maxRecDepth 65536 in
theorem w_heap : heapFits about1 = true := by decide +kernel
set_option maxRecDepth 65536 in
theorem w_runnable : about1.curStatus? = some .runnable := by decide +kernel
set_option maxRecDepth 65536 in
theorem w_alone : about1.alone = true := by decide +kernel
set_option maxRecDepth 65536 in
theorem w_named : about1.methodNamed? x = some theMethod := by decide +kernel
set_option maxRecDepth 65536 in
theorem w_hears : about1.hears theMethod below0 = true := by decide +kernel
set_option maxRecDepth 65536 in
theorem w_ripe : about1.ripe theMethod args0 below0 = true := by decide +kernel
theorem w_running : about1.status = .running := rfl
set_option maxRecDepth 65536 in
theorem w_room : about1.hasRoom e0.platform room_1 = true :=
  launch0.hasRoom_least _ room_1 (by decide +kernel) (by decide +kernel) (by decide +kernel) (by decide +kernel) (by decide +kernel) (by decide +kernel)
theorem allAtoms_all (ts : List Jvm.Cond) (a : Array Jvm.Value) (st : Jvm.State) : (allAtoms ts).before a st = ts.all (fun c => c.before a st) := by
  induction ts with
  | nil => rfl
  | cons c t ih =>
    show (Jvm.Cond.and c (allAtoms t)).before a st = _
    rw [Jvm.Cond.before_and, ih, List.all_cons]
def words1 : List Jvm.Cond := Jvm.Cond.code x code maxLocals ret :: tables_1
/-- a 'code' word, met by the world's own term for the bytes: nothing is compared byte by byte -/
theorem code_word {y : MethodName} {bytes : ByteArray} {mx : Nat} {rt : Option FieldType} {a : Array Value} {s : State} {m : MethodId} {meth : Method} {c : Code} (h1 : s.methodNamed? y = some m) (h2 : s.vm.method? m = some meth) (h3 : meth.code = some c) (h4 : c.code = bytes)
    (h5 : (c.maxLocals == mx && c.exceptionTable.isEmpty && decide (c.maxStack ≤ mostOperands) && decide (meth.sig.returnType = rt) && !meth.locks && decide (parseMethodDescriptor y.desc = some meth.sig)) = true) : (Jvm.Cond.code y bytes mx rt).before a s = true := by
  simp only [Bool.and_eq_true, beq_iff_eq, Bool.not_eq_true', decide_eq_true_eq] at h5
  obtain ⟨⟨⟨⟨⟨g1, g2⟩, g3⟩, g4⟩, g5⟩, g6⟩ := h5
  simp [Cond.before, Cond.holds, Cond.value, h1, h2, h3, h4, g1, g2, g3, g4, g5, g6]
def isCode : Jvm.Cond → Bool
  | .code _ _ _ _ => true
  | _ => false
theorem all_split {L : List Jvm.Cond} {P : Jvm.Cond → Bool} (h1 : L.all (fun c => isCode c || P c) = true) (h2 : ∀ c ∈ L.filter isCode, P c = true) : L.all P = true := by
  refine List.all_eq_true.mpr fun c hc => ?_
  have h := List.all_eq_true.mp h1 c hc
  rcases Bool.eq_false_or_eq_true (isCode c) with hi | hi
  · exact h2 c (List.mem_filter.mpr ⟨hc, hi⟩)
  · simpa [hi] using h
set_option maxRecDepth 65536 in
theorem w_c0 : (Jvm.Cond.code x code maxLocals ret).before args0 about1 = true := code_word (m := ⟨1, 2⟩) (meth := k1m2) (c := k1c2) (by decide +kernel) rfl rfl rfl (by decide +kernel)
set_option maxRecDepth 65536 in
theorem w_c1 : (Jvm.Cond.code ({ cls := "com/example/ashlar_gate/ashlargate/model/InvalidValueExceptionAtPinLaw", name := "draw", desc := "(I)Ljava/lang/String;" } : Jvm.MethodName) method_2_code (4 : Nat) (Option.some (Jvm.ClassFile.FieldType.object "java/lang/String"))).before args0 about1 = true := code_word (m := ⟨1, 1⟩) (meth := k1m1) (c := k1c1) (by decide +kernel) rfl rfl rfl (by decide +kernel)
set_option maxRecDepth 65536 in
theorem w_c2 : (Jvm.Cond.code ({ cls := "java/lang/Math", name := "min", desc := "(II)I" } : Jvm.MethodName) jdk_29_method_69_code (2 : Nat) (Option.some Jvm.ClassFile.FieldType.int)).before args0 about1 = true := code_word (m := ⟨2, 1⟩) (meth := k2m1) (c := k2c1) (by decide +kernel) rfl rfl rfl (by decide +kernel)
set_option maxRecDepth 65536 in
theorem w_c3 : (Jvm.Cond.code ({ cls := "java/lang/String", name := "<init>", desc := "([C)V" } : Jvm.MethodName) jdk_42_method_3_code (2 : Nat) (Option.none : Option Jvm.ClassFile.FieldType)).before args0 about1 = true := code_word (m := ⟨8, 1⟩) (meth := k8m1) (c := k8c1) (by decide +kernel) rfl rfl rfl (by decide +kernel)
set_option maxRecDepth 65536 in
theorem w_c4 : (Jvm.Cond.code ({ cls := "java/lang/String", name := "<init>", desc := "([CIILjava/lang/Void;)V" } : Jvm.MethodName) jdk_42_method_149_code (6 : Nat) (Option.none : Option Jvm.ClassFile.FieldType)).before args0 about1 = true := code_word (m := ⟨8, 8⟩) (meth := k8m8) (c := k8c8) (by decide +kernel) rfl rfl rfl (by decide +kernel)
set_option maxRecDepth 65536 in
theorem w_c5 : (Jvm.Cond.code ({ cls := "java/lang/Object", name := "<init>", desc := "()V" } : Jvm.MethodName) object_method_1_code (1 : Nat) (Option.none : Option Jvm.ClassFile.FieldType)).before args0 about1 = true := code_word (m := ⟨0, 0⟩) (meth := k0m0) (c := k0c0) (by decide +kernel) rfl rfl rfl (by decide +kernel)
set_option maxRecDepth 65536 in
theorem w_c6 : (Jvm.Cond.code ({ cls := "com/example/ashlar_gate/ashlargate/model/InvalidValueException", name := "<init>", desc := "(Ljava/lang/String;Ljava/lang/String;)V" } : Jvm.MethodName) prog_12_method_1_code (3 : Nat) (Option.none : Option Jvm.ClassFile.FieldType)).before args0 about1 = true := code_word (m := ⟨11, 0⟩) (meth := k11m0) (c := k11c0) (by decide +kernel) rfl rfl rfl (by decide +kernel)
set_option maxRecDepth 65536 in
theorem w_c7 : (Jvm.Cond.code ({ cls := "java/lang/Exception", name := "<init>", desc := "(Ljava/lang/String;)V" } : Jvm.MethodName) jdk_59_method_2_code (2 : Nat) (Option.none : Option Jvm.ClassFile.FieldType)).before args0 about1 = true := code_word (m := ⟨10, 1⟩) (meth := k10m1) (c := k10c1) (by decide +kernel) rfl rfl rfl (by decide +kernel)
set_option maxRecDepth 65536 in
theorem w_c8 : (Jvm.Cond.code ({ cls := "java/lang/Throwable", name := "<init>", desc := "(Ljava/lang/String;)V" } : Jvm.MethodName) jdk_78_method_2_code (2 : Nat) (Option.none : Option Jvm.ClassFile.FieldType)).before args0 about1 = true := code_word (m := ⟨9, 1⟩) (meth := k9m1) (c := k9c1) (by decide +kernel) rfl rfl rfl (by decide +kernel)
set_option maxRecDepth 65536 in
theorem w_c9 : (Jvm.Cond.code ({ cls := "java/lang/Throwable", name := "<init>", desc := "()V" } : Jvm.MethodName) jdk_78_method_1_code (1 : Nat) (Option.none : Option Jvm.ClassFile.FieldType)).before args0 about1 = true := code_word (m := ⟨9, 0⟩) (meth := k9m0) (c := k9c0) (by decide +kernel) rfl rfl rfl (by decide +kernel)
set_option maxRecDepth 65536 in
theorem w_c10 : (Jvm.Cond.code ({ cls := "com/example/ashlar_gate/ashlargate/model/InvalidValueException", name := "at", desc := "(Ljava/lang/String;)Lcom/example/ashlar_gate/ashlargate/model/Violation;" } : Jvm.MethodName) prog_12_method_2_code (2 : Nat) (Option.some (Jvm.ClassFile.FieldType.object "com/example/ashlar_gate/ashlargate/model/Violation"))).before args0 about1 = true := code_word (m := ⟨11, 1⟩) (meth := k11m1) (c := k11c1) (by decide +kernel) rfl rfl rfl (by decide +kernel)
set_option maxRecDepth 65536 in
theorem w_c11 : (Jvm.Cond.code ({ cls := "java/lang/StringBuilder", name := "<init>", desc := "()V" } : Jvm.MethodName) jdk_67_method_1_code (1 : Nat) (Option.none : Option Jvm.ClassFile.FieldType)).before args0 about1 = true := code_word (m := ⟨16, 0⟩) (meth := k16m0) (c := k16c0) (by decide +kernel) rfl rfl rfl (by decide +kernel)
set_option maxRecDepth 65536 in
theorem w_c12 : (Jvm.Cond.code ({ cls := "java/lang/AbstractStringBuilder", name := "<init>", desc := "(I)V" } : Jvm.MethodName) jdk_68_method_2_code (2 : Nat) (Option.none : Option Jvm.ClassFile.FieldType)).before args0 about1 = true := code_word (m := ⟨15, 1⟩) (meth := k15m1) (c := k15c1) (by decide +kernel) rfl rfl rfl (by decide +kernel)
set_option maxRecDepth 65536 in
theorem w_c13 : (Jvm.Cond.code ({ cls := "java/lang/StringBuilder", name := "append", desc := "(Ljava/lang/String;)Ljava/lang/StringBuilder;" } : Jvm.MethodName) jdk_67_method_7_code (2 : Nat) (Option.some (Jvm.ClassFile.FieldType.object "java/lang/StringBuilder"))).before args0 about1 = true := code_word (m := ⟨16, 1⟩) (meth := k16m1) (c := k16c1) (by decide +kernel) rfl rfl rfl (by decide +kernel)
set_option maxRecDepth 65536 in
theorem w_c14 : (Jvm.Cond.code ({ cls := "java/lang/AbstractStringBuilder", name := "append", desc := "(Ljava/lang/String;)Ljava/lang/AbstractStringBuilder;" } : Jvm.MethodName) jdk_68_method_22_code (3 : Nat) (Option.some (Jvm.ClassFile.FieldType.object "java/lang/AbstractStringBuilder"))).before args0 about1 = true := code_word (m := ⟨15, 4⟩) (meth := k15m4) (c := k15c4) (by decide +kernel) rfl rfl rfl (by decide +kernel)
set_option maxRecDepth 65536 in
theorem w_c15 : (Jvm.Cond.code ({ cls := "java/lang/String", name := "length", desc := "()I" } : Jvm.MethodName) jdk_42_method_54_code (1 : Nat) (Option.some Jvm.ClassFile.FieldType.int)).before args0 about1 = true := code_word (m := ⟨8, 3⟩) (meth := k8m3) (c := k8c3) (by decide +kernel) rfl rfl rfl (by decide +kernel)
set_option maxRecDepth 65536 in
theorem w_c16 : (Jvm.Cond.code ({ cls := "java/lang/String", name := "coder", desc := "()B" } : Jvm.MethodName) jdk_42_method_152_code (1 : Nat) (Option.some Jvm.ClassFile.FieldType.byte)).before args0 about1 = true := code_word (m := ⟨8, 11⟩) (meth := k8m11) (c := k8c11) (by decide +kernel) rfl rfl rfl (by decide +kernel)
set_option maxRecDepth 65536 in
theorem w_c17 : (Jvm.Cond.code ({ cls := "java/lang/AbstractStringBuilder", name := "ensureCapacityInternal", desc := "(I)V" } : Jvm.MethodName) jdk_68_method_9_code (3 : Nat) (Option.none : Option Jvm.ClassFile.FieldType)).before args0 about1 = true := code_word (m := ⟨15, 3⟩) (meth := k15m3) (c := k15c3) (by decide +kernel) rfl rfl rfl (by decide +kernel)
set_option maxRecDepth 65536 in
theorem w_c18 : (Jvm.Cond.code ({ cls := "java/lang/AbstractStringBuilder", name := "putStringAt", desc := "(ILjava/lang/String;)V" } : Jvm.MethodName) jdk_68_method_73_code (3 : Nat) (Option.none : Option Jvm.ClassFile.FieldType)).before args0 about1 = true := code_word (m := ⟨15, 8⟩) (meth := k15m8) (c := k15c8) (by decide +kernel) rfl rfl rfl (by decide +kernel)
set_option maxRecDepth 65536 in
theorem w_c19 : (Jvm.Cond.code ({ cls := "java/lang/AbstractStringBuilder", name := "inflateIfNeededFor", desc := "(Ljava/lang/String;)V" } : Jvm.MethodName) jdk_68_method_71_code (2 : Nat) (Option.none : Option Jvm.ClassFile.FieldType)).before args0 about1 = true := code_word (m := ⟨15, 7⟩) (meth := k15m7) (c := k15c7) (by decide +kernel) rfl rfl rfl (by decide +kernel)
set_option maxRecDepth 65536 in
theorem w_c20 : (Jvm.Cond.code ({ cls := "java/lang/String", name := "getBytes", desc := "([BIB)V" } : Jvm.MethodName) jdk_42_method_147_code (4 : Nat) (Option.none : Option Jvm.ClassFile.FieldType)).before args0 about1 = true := code_word (m := ⟨8, 7⟩) (meth := k8m7) (c := k8c7) (by decide +kernel) rfl rfl rfl (by decide +kernel)
set_option maxRecDepth 65536 in
theorem w_c21 : (Jvm.Cond.code ({ cls := "java/lang/Throwable", name := "getMessage", desc := "()Ljava/lang/String;" } : Jvm.MethodName) jdk_78_method_6_code (1 : Nat) (Option.some (Jvm.ClassFile.FieldType.object "java/lang/String"))).before args0 about1 = true := code_word (m := ⟨9, 2⟩) (meth := k9m2) (c := k9c2) (by decide +kernel) rfl rfl rfl (by decide +kernel)
set_option maxRecDepth 65536 in
theorem w_c22 : (Jvm.Cond.code ({ cls := "java/lang/StringBuilder", name := "toString", desc := "()Ljava/lang/String;" } : Jvm.MethodName) jdk_67_method_42_code (1 : Nat) (Option.some (Jvm.ClassFile.FieldType.object "java/lang/String"))).before args0 about1 = true := code_word (m := ⟨16, 2⟩) (meth := k16m2) (c := k16c2) (by decide +kernel) rfl rfl rfl (by decide +kernel)
set_option maxRecDepth 65536 in
theorem w_c23 : (Jvm.Cond.code ({ cls := "java/lang/String", name := "<init>", desc := "(Ljava/lang/StringBuilder;)V" } : Jvm.MethodName) jdk_42_method_53_code (2 : Nat) (Option.none : Option Jvm.ClassFile.FieldType)).before args0 about1 = true := code_word (m := ⟨8, 2⟩) (meth := k8m2) (c := k8c2) (by decide +kernel) rfl rfl rfl (by decide +kernel)
set_option maxRecDepth 65536 in
theorem w_c24 : (Jvm.Cond.code ({ cls := "java/lang/String", name := "<init>", desc := "(Ljava/lang/AbstractStringBuilder;Ljava/lang/Void;)V" } : Jvm.MethodName) jdk_42_method_150_code (5 : Nat) (Option.none : Option Jvm.ClassFile.FieldType)).before args0 about1 = true := code_word (m := ⟨8, 9⟩) (meth := k8m9) (c := k8c9) (by decide +kernel) rfl rfl rfl (by decide +kernel)
set_option maxRecDepth 65536 in
theorem w_c25 : (Jvm.Cond.code ({ cls := "java/lang/AbstractStringBuilder", name := "getValue", desc := "()[B" } : Jvm.MethodName) jdk_68_method_64_code (1 : Nat) (Option.some (Jvm.ClassFile.FieldType.array Jvm.ClassFile.FieldType.byte))).before args0 about1 = true := code_word (m := ⟨15, 5⟩) (meth := k15m5) (c := k15c5) (by decide +kernel) rfl rfl rfl (by decide +kernel)
set_option maxRecDepth 65536 in
theorem w_c26 : (Jvm.Cond.code ({ cls := "java/lang/StringBuilder", name := "length", desc := "()I" } : Jvm.MethodName) jdk_67_method_93_code (1 : Nat) (Option.some Jvm.ClassFile.FieldType.int)).before args0 about1 = true := code_word (m := ⟨16, 3⟩) (meth := k16m3) (c := k16c3) (by decide +kernel) rfl rfl rfl (by decide +kernel)
set_option maxRecDepth 65536 in
theorem w_c27 : (Jvm.Cond.code ({ cls := "java/lang/AbstractStringBuilder", name := "length", desc := "()I" } : Jvm.MethodName) jdk_68_method_6_code (1 : Nat) (Option.some Jvm.ClassFile.FieldType.int)).before args0 about1 = true := code_word (m := ⟨15, 2⟩) (meth := k15m2) (c := k15c2) (by decide +kernel) rfl rfl rfl (by decide +kernel)
set_option maxRecDepth 65536 in
theorem w_c28 : (Jvm.Cond.code ({ cls := "java/lang/AbstractStringBuilder", name := "isLatin1", desc := "()Z" } : Jvm.MethodName) jdk_68_method_68_code (1 : Nat) (Option.some Jvm.ClassFile.FieldType.boolean)).before args0 about1 = true := code_word (m := ⟨15, 6⟩) (meth := k15m6) (c := k15c6) (by decide +kernel) rfl rfl rfl (by decide +kernel)
set_option maxRecDepth 65536 in
theorem w_c29 : (Jvm.Cond.code ({ cls := "java/util/Arrays", name := "copyOfRange", desc := "([BII)[B" } : Jvm.MethodName) jdk_65_method_132_code (3 : Nat) (Option.some (Jvm.ClassFile.FieldType.array Jvm.ClassFile.FieldType.byte))).before args0 about1 = true := code_word (m := ⟨18, 2⟩) (meth := k18m2) (c := k18c2) (by decide +kernel) rfl rfl rfl (by decide +kernel)
set_option maxRecDepth 65536 in
theorem w_c30 : (Jvm.Cond.code ({ cls := "java/util/Arrays", name := "copyOfRangeByte", desc := "([BII)[B" } : Jvm.MethodName) jdk_65_method_133_code (5 : Nat) (Option.some (Jvm.ClassFile.FieldType.array Jvm.ClassFile.FieldType.byte))).before args0 about1 = true := code_word (m := ⟨18, 3⟩) (meth := k18m3) (c := k18c3) (by decide +kernel) rfl rfl rfl (by decide +kernel)
set_option maxRecDepth 65536 in
theorem w_c31 : (Jvm.Cond.code ({ cls := "java/util/Arrays", name := "checkLength", desc := "(II)V" } : Jvm.MethodName) jdk_65_method_131_code (2 : Nat) (Option.none : Option Jvm.ClassFile.FieldType)).before args0 about1 = true := code_word (m := ⟨18, 1⟩) (meth := k18m1) (c := k18c1) (by decide +kernel) rfl rfl rfl (by decide +kernel)
set_option maxRecDepth 65536 in
theorem w_c32 : (Jvm.Cond.code ({ cls := "com/example/ashlar_gate/ashlargate/model/Violation", name := "<init>", desc := "(Ljava/lang/String;Ljava/lang/String;Ljava/lang/String;)V" } : Jvm.MethodName) prog_16_method_1_code (4 : Nat) (Option.none : Option Jvm.ClassFile.FieldType)).before args0 about1 = true := code_word (m := ⟨13, 0⟩) (meth := k13m0) (c := k13c0) (by decide +kernel) rfl rfl rfl (by decide +kernel)
set_option maxRecDepth 65536 in
theorem w_c33 : (Jvm.Cond.code ({ cls := "java/lang/Record", name := "<init>", desc := "()V" } : Jvm.MethodName) jdk_30_method_1_code (1 : Nat) (Option.none : Option Jvm.ClassFile.FieldType)).before args0 about1 = true := code_word (m := ⟨12, 0⟩) (meth := k12m0) (c := k12c0) (by decide +kernel) rfl rfl rfl (by decide +kernel)
set_option maxRecDepth 65536 in
theorem w_c34 : (Jvm.Cond.code ({ cls := "com/example/ashlar_gate/ashlargate/model/Violation", name := "field", desc := "()Ljava/lang/String;" } : Jvm.MethodName) prog_16_method_5_code (1 : Nat) (Option.some (Jvm.ClassFile.FieldType.object "java/lang/String"))).before args0 about1 = true := code_word (m := ⟨13, 1⟩) (meth := k13m1) (c := k13c1) (by decide +kernel) rfl rfl rfl (by decide +kernel)
set_option maxRecDepth 65536 in
theorem w_c35 : (Jvm.Cond.code ({ cls := "com/example/ashlar_gate/ashlargate/model/Violation", name := "rule", desc := "()Ljava/lang/String;" } : Jvm.MethodName) prog_16_method_6_code (1 : Nat) (Option.some (Jvm.ClassFile.FieldType.object "java/lang/String"))).before args0 about1 = true := code_word (m := ⟨13, 2⟩) (meth := k13m2) (c := k13c2) (by decide +kernel) rfl rfl rfl (by decide +kernel)
set_option maxRecDepth 65536 in
theorem w_c36 : (Jvm.Cond.code ({ cls := "com/example/ashlar_gate/ashlargate/model/Violation", name := "message", desc := "()Ljava/lang/String;" } : Jvm.MethodName) prog_16_method_7_code (1 : Nat) (Option.some (Jvm.ClassFile.FieldType.object "java/lang/String"))).before args0 about1 = true := code_word (m := ⟨13, 3⟩) (meth := k13m3) (c := k13c3) (by decide +kernel) rfl rfl rfl (by decide +kernel)
set_option maxRecDepth 65536 in
theorem w_c37 : (Jvm.Cond.code ({ cls := "java/lang/String", name := "equals", desc := "(Ljava/lang/Object;)Z" } : Jvm.MethodName) jdk_42_method_66_code (3 : Nat) (Option.some Jvm.ClassFile.FieldType.boolean)).before args0 about1 = true := code_word (m := ⟨8, 5⟩) (meth := k8m5) (c := k8c5) (by decide +kernel) rfl rfl rfl (by decide +kernel)
set_option maxRecDepth 65536 in
theorem w_c38 : (Jvm.Cond.code ({ cls := "java/lang/String", name := "charAt", desc := "(I)C" } : Jvm.MethodName) jdk_42_method_56_code (2 : Nat) (Option.some Jvm.ClassFile.FieldType.char)).before args0 about1 = true := code_word (m := ⟨8, 4⟩) (meth := k8m4) (c := k8c4) (by decide +kernel) rfl rfl rfl (by decide +kernel)
set_option maxRecDepth 65536 in
theorem w_c39 : (Jvm.Cond.code ({ cls := "java/lang/String", name := "isLatin1", desc := "()Z" } : Jvm.MethodName) jdk_42_method_154_code (1 : Nat) (Option.some Jvm.ClassFile.FieldType.boolean)).before args0 about1 = true := code_word (m := ⟨8, 12⟩) (meth := k8m12) (c := k8c12) (by decide +kernel) rfl rfl rfl (by decide +kernel)
set_option maxRecDepth 65536 in
theorem w_c40 : (Jvm.Cond.code ({ cls := "java/lang/StringLatin1", name := "charAt", desc := "([BI)C" } : Jvm.MethodName) jdk_43_method_2_code (2 : Nat) (Option.some Jvm.ClassFile.FieldType.char)).before args0 about1 = true := code_word (m := ⟨19, 1⟩) (meth := k19m1) (c := k19c1) (by decide +kernel) rfl rfl rfl (by decide +kernel)
set_option maxRecDepth 65536 in
theorem w_c41 : (Jvm.Cond.code ({ cls := "java/lang/String", name := "checkIndex", desc := "(II)V" } : Jvm.MethodName) jdk_42_method_155_code (2 : Nat) (Option.none : Option Jvm.ClassFile.FieldType)).before args0 about1 = true := code_word (m := ⟨8, 13⟩) (meth := k8m13) (c := k8c13) (by decide +kernel) rfl rfl rfl (by decide +kernel)
set_option maxRecDepth 65536 in
theorem w_c42 : (Jvm.Cond.code ({ cls := "jdk/internal/util/Preconditions", name := "checkIndex", desc := "(IILjava/util/function/BiFunction;)I" } : Jvm.MethodName) jdk_41_method_11_code (3 : Nat) (Option.some Jvm.ClassFile.FieldType.int)).before args0 about1 = true := code_word (m := ⟨20, 1⟩) (meth := k20m1) (c := k20c1) (by decide +kernel) rfl rfl rfl (by decide +kernel)
set_option maxRecDepth 65536 in
theorem w_c43 : (Jvm.Cond.code ({ cls := "java/lang/StringUTF16", name := "compress", desc := "([CII)[B" } : Jvm.MethodName) jdk_52_method_16_code (6 : Nat) (Option.some (Jvm.ClassFile.FieldType.array Jvm.ClassFile.FieldType.byte))).before args0 about1 = true := code_word (m := ⟨21, 2⟩) (meth := k21m2) (c := k21c2) (by decide +kernel) rfl rfl rfl (by decide +kernel)
set_option maxRecDepth 65536 in
theorem w_c44 : (Jvm.Cond.code ({ cls := "java/lang/StringUTF16", name := "compress", desc := "([CI[BII)I" } : Jvm.MethodName) jdk_52_method_21_code (7 : Nat) (Option.some Jvm.ClassFile.FieldType.int)).before args0 about1 = true := code_word (m := ⟨21, 3⟩) (meth := k21m3) (c := k21c3) (by decide +kernel) rfl rfl rfl (by decide +kernel)
set_option maxRecDepth 65536 in
theorem w_c45 : (Jvm.Cond.code ({ cls := "java/lang/StringUTF16", name := "coderFromArrayLen", desc := "([BI)B" } : Jvm.MethodName) jdk_52_method_15_code (2 : Nat) (Option.some Jvm.ClassFile.FieldType.byte)).before args0 about1 = true := code_word (m := ⟨21, 1⟩) (meth := k21m1) (c := k21c1) (by decide +kernel) rfl rfl rfl (by decide +kernel)
set_option maxRecDepth 65536 in
theorem w_c46 : (Jvm.Cond.code ({ cls := "java/lang/String", name := "valueOf", desc := "(C)Ljava/lang/String;" } : Jvm.MethodName) jdk_42_method_139_code (1 : Nat) (Option.some (Jvm.ClassFile.FieldType.object "java/lang/String"))).before args0 about1 = true := code_word (m := ⟨8, 6⟩) (meth := k8m6) (c := k8c6) (by decide +kernel) rfl rfl rfl (by decide +kernel)
set_option maxRecDepth 65536 in
theorem w_c47 : (Jvm.Cond.code ({ cls := "java/lang/StringLatin1", name := "canEncode", desc := "(C)Z" } : Jvm.MethodName) jdk_43_method_3_code (1 : Nat) (Option.some Jvm.ClassFile.FieldType.boolean)).before args0 about1 = true := code_word (m := ⟨19, 2⟩) (meth := k19m2) (c := k19c2) (by decide +kernel) rfl rfl rfl (by decide +kernel)
set_option maxRecDepth 65536 in
theorem w_c48 : (Jvm.Cond.code ({ cls := "java/lang/StringLatin1", name := "toBytes", desc := "(C)[B" } : Jvm.MethodName) jdk_43_method_46_code (1 : Nat) (Option.some (Jvm.ClassFile.FieldType.array Jvm.ClassFile.FieldType.byte))).before args0 about1 = true := code_word (m := ⟨19, 3⟩) (meth := k19m3) (c := k19c3) (by decide +kernel) rfl rfl rfl (by decide +kernel)
set_option maxRecDepth 65536 in
theorem w_c49 : (Jvm.Cond.code ({ cls := "java/lang/String", name := "<init>", desc := "([BB)V" } : Jvm.MethodName) jdk_42_method_151_code (3 : Nat) (Option.none : Option Jvm.ClassFile.FieldType)).before args0 about1 = true := code_word (m := ⟨8, 10⟩) (meth := k8m10) (c := k8c10) (by decide +kernel) rfl rfl rfl (by decide +kernel)
def codes1 : List Jvm.Cond := [Jvm.Cond.code x code maxLocals ret, Jvm.Cond.code ({ cls := "com/example/ashlar_gate/ashlargate/model/InvalidValueExceptionAtPinLaw", name := "draw", desc := "(I)Ljava/lang/String;" } : Jvm.MethodName) method_2_code (4 : Nat) (Option.some (Jvm.ClassFile.FieldType.object "java/lang/String")), Jvm.Cond.code ({ cls := "java/lang/Math", name := "min", desc := "(II)I" } : Jvm.MethodName) jdk_29_method_69_code (2 : Nat) (Option.some Jvm.ClassFile.FieldType.int), Jvm.Cond.code ({ cls := "java/lang/String", name := "<init>", desc := "([C)V" } : Jvm.MethodName) jdk_42_method_3_code (2 : Nat) (Option.none : Option Jvm.ClassFile.FieldType), Jvm.Cond.code ({ cls := "java/lang/String", name := "<init>", desc := "([CIILjava/lang/Void;)V" } : Jvm.MethodName) jdk_42_method_149_code (6 : Nat) (Option.none : Option Jvm.ClassFile.FieldType), Jvm.Cond.code ({ cls := "java/lang/Object", name := "<init>", desc := "()V" } : Jvm.MethodName) object_method_1_code (1 : Nat) (Option.none : Option Jvm.ClassFile.FieldType), Jvm.Cond.code ({ cls := "com/example/ashlar_gate/ashlargate/model/InvalidValueException", name := "<init>", desc := "(Ljava/lang/String;Ljava/lang/String;)V" } : Jvm.MethodName) prog_12_method_1_code (3 : Nat) (Option.none : Option Jvm.ClassFile.FieldType), Jvm.Cond.code ({ cls := "java/lang/Exception", name := "<init>", desc := "(Ljava/lang/String;)V" } : Jvm.MethodName) jdk_59_method_2_code (2 : Nat) (Option.none : Option Jvm.ClassFile.FieldType), Jvm.Cond.code ({ cls := "java/lang/Throwable", name := "<init>", desc := "(Ljava/lang/String;)V" } : Jvm.MethodName) jdk_78_method_2_code (2 : Nat) (Option.none : Option Jvm.ClassFile.FieldType), Jvm.Cond.code ({ cls := "java/lang/Throwable", name := "<init>", desc := "()V" } : Jvm.MethodName) jdk_78_method_1_code (1 : Nat) (Option.none : Option Jvm.ClassFile.FieldType), Jvm.Cond.code ({ cls := "com/example/ashlar_gate/ashlargate/model/InvalidValueException", name := "at", desc := "(Ljava/lang/String;)Lcom/example/ashlar_gate/ashlargate/model/Violation;" } : Jvm.MethodName) prog_12_method_2_code (2 : Nat) (Option.some (Jvm.ClassFile.FieldType.object "com/example/ashlar_gate/ashlargate/model/Violation")), Jvm.Cond.code ({ cls := "java/lang/StringBuilder", name := "<init>", desc := "()V" } : Jvm.MethodName) jdk_67_method_1_code (1 : Nat) (Option.none : Option Jvm.ClassFile.FieldType), Jvm.Cond.code ({ cls := "java/lang/AbstractStringBuilder", name := "<init>", desc := "(I)V" } : Jvm.MethodName) jdk_68_method_2_code (2 : Nat) (Option.none : Option Jvm.ClassFile.FieldType), Jvm.Cond.code ({ cls := "java/lang/StringBuilder", name := "append", desc := "(Ljava/lang/String;)Ljava/lang/StringBuilder;" } : Jvm.MethodName) jdk_67_method_7_code (2 : Nat) (Option.some (Jvm.ClassFile.FieldType.object "java/lang/StringBuilder")), Jvm.Cond.code ({ cls := "java/lang/AbstractStringBuilder", name := "append", desc := "(Ljava/lang/String;)Ljava/lang/AbstractStringBuilder;" } : Jvm.MethodName) jdk_68_method_22_code (3 : Nat) (Option.some (Jvm.ClassFile.FieldType.object "java/lang/AbstractStringBuilder")), Jvm.Cond.code ({ cls := "java/lang/String", name := "length", desc := "()I" } : Jvm.MethodName) jdk_42_method_54_code (1 : Nat) (Option.some Jvm.ClassFile.FieldType.int), Jvm.Cond.code ({ cls := "java/lang/String", name := "coder", desc := "()B" } : Jvm.MethodName) jdk_42_method_152_code (1 : Nat) (Option.some Jvm.ClassFile.FieldType.byte), Jvm.Cond.code ({ cls := "java/lang/AbstractStringBuilder", name := "ensureCapacityInternal", desc := "(I)V" } : Jvm.MethodName) jdk_68_method_9_code (3 : Nat) (Option.none : Option Jvm.ClassFile.FieldType), Jvm.Cond.code ({ cls := "java/lang/AbstractStringBuilder", name := "putStringAt", desc := "(ILjava/lang/String;)V" } : Jvm.MethodName) jdk_68_method_73_code (3 : Nat) (Option.none : Option Jvm.ClassFile.FieldType), Jvm.Cond.code ({ cls := "java/lang/AbstractStringBuilder", name := "inflateIfNeededFor", desc := "(Ljava/lang/String;)V" } : Jvm.MethodName) jdk_68_method_71_code (2 : Nat) (Option.none : Option Jvm.ClassFile.FieldType), Jvm.Cond.code ({ cls := "java/lang/String", name := "getBytes", desc := "([BIB)V" } : Jvm.MethodName) jdk_42_method_147_code (4 : Nat) (Option.none : Option Jvm.ClassFile.FieldType), Jvm.Cond.code ({ cls := "java/lang/Throwable", name := "getMessage", desc := "()Ljava/lang/String;" } : Jvm.MethodName) jdk_78_method_6_code (1 : Nat) (Option.some (Jvm.ClassFile.FieldType.object "java/lang/String")), Jvm.Cond.code ({ cls := "java/lang/StringBuilder", name := "toString", desc := "()Ljava/lang/String;" } : Jvm.MethodName) jdk_67_method_42_code (1 : Nat) (Option.some (Jvm.ClassFile.FieldType.object "java/lang/String")), Jvm.Cond.code ({ cls := "java/lang/String", name := "<init>", desc := "(Ljava/lang/StringBuilder;)V" } : Jvm.MethodName) jdk_42_method_53_code (2 : Nat) (Option.none : Option Jvm.ClassFile.FieldType), Jvm.Cond.code ({ cls := "java/lang/String", name := "<init>", desc := "(Ljava/lang/AbstractStringBuilder;Ljava/lang/Void;)V" } : Jvm.MethodName) jdk_42_method_150_code (5 : Nat) (Option.none : Option Jvm.ClassFile.FieldType), Jvm.Cond.code ({ cls := "java/lang/AbstractStringBuilder", name := "getValue", desc := "()[B" } : Jvm.MethodName) jdk_68_method_64_code (1 : Nat) (Option.some (Jvm.ClassFile.FieldType.array Jvm.ClassFile.FieldType.byte)), Jvm.Cond.code ({ cls := "java/lang/StringBuilder", name := "length", desc := "()I" } : Jvm.MethodName) jdk_67_method_93_code (1 : Nat) (Option.some Jvm.ClassFile.FieldType.int), Jvm.Cond.code ({ cls := "java/lang/AbstractStringBuilder", name := "length", desc := "()I" } : Jvm.MethodName) jdk_68_method_6_code (1 : Nat) (Option.some Jvm.ClassFile.FieldType.int), Jvm.Cond.code ({ cls := "java/lang/AbstractStringBuilder", name := "isLatin1", desc := "()Z" } : Jvm.MethodName) jdk_68_method_68_code (1 : Nat) (Option.some Jvm.ClassFile.FieldType.boolean), Jvm.Cond.code ({ cls := "java/util/Arrays", name := "copyOfRange", desc := "([BII)[B" } : Jvm.MethodName) jdk_65_method_132_code (3 : Nat) (Option.some (Jvm.ClassFile.FieldType.array Jvm.ClassFile.FieldType.byte)), Jvm.Cond.code ({ cls := "java/util/Arrays", name := "copyOfRangeByte", desc := "([BII)[B" } : Jvm.MethodName) jdk_65_method_133_code (5 : Nat) (Option.some (Jvm.ClassFile.FieldType.array Jvm.ClassFile.FieldType.byte)), Jvm.Cond.code ({ cls := "java/util/Arrays", name := "checkLength", desc := "(II)V" } : Jvm.MethodName) jdk_65_method_131_code (2 : Nat) (Option.none : Option Jvm.ClassFile.FieldType), Jvm.Cond.code ({ cls := "com/example/ashlar_gate/ashlargate/model/Violation", name := "<init>", desc := "(Ljava/lang/String;Ljava/lang/String;Ljava/lang/String;)V" } : Jvm.MethodName) prog_16_method_1_code (4 : Nat) (Option.none : Option Jvm.ClassFile.FieldType), Jvm.Cond.code ({ cls := "java/lang/Record", name := "<init>", desc := "()V" } : Jvm.MethodName) jdk_30_method_1_code (1 : Nat) (Option.none : Option Jvm.ClassFile.FieldType), Jvm.Cond.code ({ cls := "com/example/ashlar_gate/ashlargate/model/Violation", name := "field", desc := "()Ljava/lang/String;" } : Jvm.MethodName) prog_16_method_5_code (1 : Nat) (Option.some (Jvm.ClassFile.FieldType.object "java/lang/String")), Jvm.Cond.code ({ cls := "com/example/ashlar_gate/ashlargate/model/Violation", name := "rule", desc := "()Ljava/lang/String;" } : Jvm.MethodName) prog_16_method_6_code (1 : Nat) (Option.some (Jvm.ClassFile.FieldType.object "java/lang/String")), Jvm.Cond.code ({ cls := "com/example/ashlar_gate/ashlargate/model/Violation", name := "message", desc := "()Ljava/lang/String;" } : Jvm.MethodName) prog_16_method_7_code (1 : Nat) (Option.some (Jvm.ClassFile.FieldType.object "java/lang/String")), Jvm.Cond.code ({ cls := "java/lang/String", name := "equals", desc := "(Ljava/lang/Object;)Z" } : Jvm.MethodName) jdk_42_method_66_code (3 : Nat) (Option.some Jvm.ClassFile.FieldType.boolean), Jvm.Cond.code ({ cls := "java/lang/String", name := "charAt", desc := "(I)C" } : Jvm.MethodName) jdk_42_method_56_code (2 : Nat) (Option.some Jvm.ClassFile.FieldType.char), Jvm.Cond.code ({ cls := "java/lang/String", name := "isLatin1", desc := "()Z" } : Jvm.MethodName) jdk_42_method_154_code (1 : Nat) (Option.some Jvm.ClassFile.FieldType.boolean), Jvm.Cond.code ({ cls := "java/lang/StringLatin1", name := "charAt", desc := "([BI)C" } : Jvm.MethodName) jdk_43_method_2_code (2 : Nat) (Option.some Jvm.ClassFile.FieldType.char), Jvm.Cond.code ({ cls := "java/lang/String", name := "checkIndex", desc := "(II)V" } : Jvm.MethodName) jdk_42_method_155_code (2 : Nat) (Option.none : Option Jvm.ClassFile.FieldType), Jvm.Cond.code ({ cls := "jdk/internal/util/Preconditions", name := "checkIndex", desc := "(IILjava/util/function/BiFunction;)I" } : Jvm.MethodName) jdk_41_method_11_code (3 : Nat) (Option.some Jvm.ClassFile.FieldType.int), Jvm.Cond.code ({ cls := "java/lang/StringUTF16", name := "compress", desc := "([CII)[B" } : Jvm.MethodName) jdk_52_method_16_code (6 : Nat) (Option.some (Jvm.ClassFile.FieldType.array Jvm.ClassFile.FieldType.byte)), Jvm.Cond.code ({ cls := "java/lang/StringUTF16", name := "compress", desc := "([CI[BII)I" } : Jvm.MethodName) jdk_52_method_21_code (7 : Nat) (Option.some Jvm.ClassFile.FieldType.int), Jvm.Cond.code ({ cls := "java/lang/StringUTF16", name := "coderFromArrayLen", desc := "([BI)B" } : Jvm.MethodName) jdk_52_method_15_code (2 : Nat) (Option.some Jvm.ClassFile.FieldType.byte), Jvm.Cond.code ({ cls := "java/lang/String", name := "valueOf", desc := "(C)Ljava/lang/String;" } : Jvm.MethodName) jdk_42_method_139_code (1 : Nat) (Option.some (Jvm.ClassFile.FieldType.object "java/lang/String")), Jvm.Cond.code ({ cls := "java/lang/StringLatin1", name := "canEncode", desc := "(C)Z" } : Jvm.MethodName) jdk_43_method_3_code (1 : Nat) (Option.some Jvm.ClassFile.FieldType.boolean), Jvm.Cond.code ({ cls := "java/lang/StringLatin1", name := "toBytes", desc := "(C)[B" } : Jvm.MethodName) jdk_43_method_46_code (1 : Nat) (Option.some (Jvm.ClassFile.FieldType.array Jvm.ClassFile.FieldType.byte)), Jvm.Cond.code ({ cls := "java/lang/String", name := "<init>", desc := "([BB)V" } : Jvm.MethodName) jdk_42_method_151_code (3 : Nat) (Option.none : Option Jvm.ClassFile.FieldType)]
set_option maxRecDepth 65536 in
theorem codes_eq : words1.filter isCode = codes1 := rfl
theorem w_codes : ∀ c ∈ words1.filter isCode, c.before args0 about1 = true := by
  rw [codes_eq]
  intro c hc
  simp only [codes1, List.mem_cons, List.not_mem_nil, or_false] at hc
  rcases hc with rfl | rfl | rfl | rfl | rfl | rfl | rfl | rfl | rfl | rfl | rfl | rfl | rfl | rfl | rfl | rfl | rfl | rfl | rfl | rfl | rfl | rfl | rfl | rfl | rfl | rfl | rfl | rfl | rfl | rfl | rfl | rfl | rfl | rfl | rfl | rfl | rfl | rfl | rfl | rfl | rfl | rfl | rfl | rfl | rfl | rfl | rfl | rfl | rfl | rfl
  · exact w_c0
  · exact w_c1
  · exact w_c2
  · exact w_c3
  · exact w_c4
  · exact w_c5
  · exact w_c6
  · exact w_c7
  · exact w_c8
  · exact w_c9
  · exact w_c10
  · exact w_c11
  · exact w_c12
  · exact w_c13
  · exact w_c14
  · exact w_c15
  · exact w_c16
  · exact w_c17
  · exact w_c18
  · exact w_c19
  · exact w_c20
  · exact w_c21
  · exact w_c22
  · exact w_c23
  · exact w_c24
  · exact w_c25
  · exact w_c26
  · exact w_c27
  · exact w_c28
  · exact w_c29
  · exact w_c30
  · exact w_c31
  · exact w_c32
  · exact w_c33
  · exact w_c34
  · exact w_c35
  · exact w_c36
  · exact w_c37
  · exact w_c38
  · exact w_c39
  · exact w_c40
  · exact w_c41
  · exact w_c42
  · exact w_c43
  · exact w_c44
  · exact w_c45
  · exact w_c46
  · exact w_c47
  · exact w_c48
  · exact w_c49
set_option maxRecDepth 65536 in
theorem w_t1 : (words1.take 24).all (fun c => isCode c || c.before args0 about1) = true := by decide +kernel
set_option maxRecDepth 65536 in
theorem w_t2 : ((words1.drop 24).take 24).all (fun c => isCode c || c.before args0 about1) = true := by decide +kernel
set_option maxRecDepth 65536 in
theorem w_t3 : (((words1.drop 24).drop 24).take 24).all (fun c => isCode c || c.before args0 about1) = true := by decide +kernel
set_option maxRecDepth 65536 in
theorem w_t4 : ((((words1.drop 24).drop 24).drop 24).take 24).all (fun c => isCode c || c.before args0 about1) = true := by decide +kernel
set_option maxRecDepth 65536 in
theorem w_t5 : (((((words1.drop 24).drop 24).drop 24).drop 24).take 24).all (fun c => isCode c || c.before args0 about1) = true := by decide +kernel
set_option maxRecDepth 65536 in
theorem w_t6 : ((((((words1.drop 24).drop 24).drop 24).drop 24).drop 24).take 24).all (fun c => isCode c || c.before args0 about1) = true := by decide +kernel
set_option maxRecDepth 65536 in
theorem w_t7 : (((((((words1.drop 24).drop 24).drop 24).drop 24).drop 24).drop 24).take 24).all (fun c => isCode c || c.before args0 about1) = true := by decide +kernel
set_option maxRecDepth 65536 in
theorem w_t8 : ((((((((words1.drop 24).drop 24).drop 24).drop 24).drop 24).drop 24).drop 24).take 24).all (fun c => isCode c || c.before args0 about1) = true := by decide +kernel
set_option maxRecDepth 65536 in
theorem w_t9 : (((((((((words1.drop 24).drop 24).drop 24).drop 24).drop 24).drop 24).drop 24).drop 24).take 24).all (fun c => isCode c || c.before args0 about1) = true := by decide +kernel
set_option maxRecDepth 65536 in
theorem w_t10 : ((((((((((words1.drop 24).drop 24).drop 24).drop 24).drop 24).drop 24).drop 24).drop 24).drop 24).take 24).all (fun c => isCode c || c.before args0 about1) = true := by decide +kernel
set_option maxRecDepth 65536 in
theorem w_t11 : (((((((((((words1.drop 24).drop 24).drop 24).drop 24).drop 24).drop 24).drop 24).drop 24).drop 24).drop 24).take 24).all (fun c => isCode c || c.before args0 about1) = true := by decide +kernel
set_option maxRecDepth 65536 in
theorem w_t12 : ((((((((((((words1.drop 24).drop 24).drop 24).drop 24).drop 24).drop 24).drop 24).drop 24).drop 24).drop 24).drop 24).take 24).all (fun c => isCode c || c.before args0 about1) = true := by decide +kernel
set_option maxRecDepth 65536 in
theorem w_t13 : ((((((((((((words1.drop 24).drop 24).drop 24).drop 24).drop 24).drop 24).drop 24).drop 24).drop 24).drop 24).drop 24).drop 24).all (fun c => isCode c || c.before args0 about1) = true := by decide +kernel
theorem w_tables : (allAtoms (Jvm.Cond.code x code maxLocals ret :: tables_1)).before args0 about1 = true := by
  rw [allAtoms_all]
  show words1.all (fun c => c.before args0 about1) = true
  refine all_split ?_ w_codes
  rw [← List.take_append_drop 24 words1, List.all_append, w_t1, ← List.take_append_drop 24 (words1.drop 24), List.all_append, w_t2, ← List.take_append_drop 24 ((words1.drop 24).drop 24), List.all_append, w_t3, ← List.take_append_drop 24 (((words1.drop 24).drop 24).drop 24), List.all_append, w_t4, ← List.take_append_drop 24 ((((words1.drop 24).drop 24).drop 24).drop 24), List.all_append, w_t5, ← List.take_append_drop 24 (((((words1.drop 24).drop 24).drop 24).drop 24).drop 24), List.all_append, w_t6, ← List.take_append_drop 24 ((((((words1.drop 24).drop 24).drop 24).drop 24).drop 24).drop 24), List.all_append, w_t7, ← List.take_append_drop 24 (((((((words1.drop 24).drop 24).drop 24).drop 24).drop 24).drop 24).drop 24), List.all_append, w_t8, ← List.take_append_drop 24 ((((((((words1.drop 24).drop 24).drop 24).drop 24).drop 24).drop 24).drop 24).drop 24), List.all_append, w_t9, ← List.take_append_drop 24 (((((((((words1.drop 24).drop 24).drop 24).drop 24).drop 24).drop 24).drop 24).drop 24).drop 24), List.all_append, w_t10, ← List.take_append_drop 24 ((((((((((words1.drop 24).drop 24).drop 24).drop 24).drop 24).drop 24).drop 24).drop 24).drop 24).drop 24), List.all_append, w_t11, ← List.take_append_drop 24 (((((((((((words1.drop 24).drop 24).drop 24).drop 24).drop 24).drop 24).drop 24).drop 24).drop 24).drop 24).drop 24), List.all_append, w_t12, w_t13]
  rfl
set_option maxRecDepth 65536 in
theorem w_rest : rest_1_c.before args0 about1 = true := by decide +kernel
set_option maxRecDepth 65536 in
theorem w_case : (Jvm.Cond.and given_1 narrow_1).before args0 about1 = true := by decide +kernel
set_option maxRecDepth 65536 in
theorem w_consts : constsHeld consts_1 about1 := Jvm.Lit.constsHeldB_iff.mp (by decide +kernel)
theorem w_applies : (headSpec (Jvm.Cond.code x code maxLocals ret :: tables_1) room_1).applies x e0.platform about1 = true :=
  (Spec.applies_iff w_frames).mpr ⟨w_running, w_runnable, w_alone, w_named, w_hears, w_ripe, w_room, w_tables⟩
theorem atStart : AtStart classFile x code maxLocals ret World_1 tables_1 room_1 Calls_1 rest_1 Pre_1 launch0 p0 e0 about1 theMethod args0 below0 :=
  ⟨lists_1, trivial, launch0.admits_env _ _ _, launch0.least_env, fairChoices_fair.cas, fairChoices_fair.clock, w_frames, w_args, w_heap, w_applies, ⟨(by decide +kernel : framesKnown about1 = true), ⟨(by decide +kernel : tablesKnown about1 = true), ⟨w_consts, trivial⟩⟩⟩, w_rest, w_case⟩
end start1
theorem witness_1 : WitnessClaimed_1 := ⟨start1.p0, start1.e0, start1.about1, start1.theMethod, start1.args0, start1.below0, start1.atStart⟩
end Jvm.Pilot.@@N@@
