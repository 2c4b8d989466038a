import JvmDerived
import JvmDerived.Pilot.@@N@@Statement
import JvmDerived.Pilot.@@N@@Code
set_option linter.unusedVariables false
set_option linter.unusedSimpArgs false
namespace Jvm.Pilot.@@N@@
open Jvm Jvm.ClassFile Sem Op Lib Jvm.Free Jvm.Stand Jvm.LawKit Jvm.RoadKit Bundle Jvm.Pilot.@@N@@.Jvm.D
/-! ## own kit: a walk in continuation style over the library's steps -/
section OwnKit
variable {p : Program} {l : Launch} {e : Env} {R : Room} {s : State} {m : MethodId} {args : Array Value} {below : List Frame} {meth : Method} {c : Code} {T : State} {locs : List Loc} {cells slots : Nat} {Z : State} {a0 : Array Value} {h h' : Heap}
/-- from U the run ends, and then E holds -/
def GoOn (p : Program) (e : Env) (below : List Frame) (E : State → Outcome → Prop) (U : State) : Prop :=
  ∃ t o, Steps p.tables e below U t ∧ t.status = .running ∧ Ended t below o ∧ E t o
theorem GoOn.step {E : State → Outcome → Prop} {U U' : State} (hs : ∀ t, Steps p.tables e below U' t → Steps p.tables e below U t) (g : GoOn p e below E U') : GoOn p e below E U := by
  obtain ⟨t, o, h1, h2⟩ := g
  exact ⟨t, o, hs _ h1, h2⟩
/-- how a body ends: what it returns, its heap, the places that it wrote -/
abbrev EndQ (s : State) (rm : Room) (Q : Option Value → Heap → List Loc → Prop) : State → Outcome → Prop :=
  fun U o => ∃ v L, o = .returned v ∧ Q v U.heap L ∧ FrameEnd s o U L rm.cells rm.slots
/-- a body's contract at one array of arguments and one heap -/
def Con (l : Launch) (Z : State) (y : MethodName) (bytes : ByteArray) (mx : Nat) (rt : Option FieldType) (rm : Room) (as : Array Value) (h : Heap) (Q : Option Value → Heap → List Loc → Prop) : Prop :=
  ∀ ws : List Jvm.Cond, MetFree l y (head1 (Jvm.Cond.code y bytes mx rt :: ws) rm) (fun a U => a = as ∧ Z.Warmed39 U.vm ∧ U.heap = h) (fun _ _ _ _ _ => True) (fun _ U o U' => ∃ v L, o = .returned v ∧ Q v U'.heap L ∧ FrameEnd U o U' L rm.cells rm.slots)
theorem Con.intro {y : MethodName} {bytes : ByteArray} {mx : Nat} {rt : Option FieldType} {rm : Room} {as : Array Value} {Q : Option Value → Heap → List Loc → Prop} (hp : plainFor y = true)
    (body : ∀ (p : Program) (e : Env) (s : State) (m : MethodId) (below : List Frame) (meth : Method) (c : Code) (s₁ : State), p.tables.exec = Jvm.exec → c.code = bytes → c.maxLocals = mx → meth.sig.returnType = rt → meth.locks = false → Z.Warmed39 s.vm → s.vm.findClass y.cls = some m.cls → meth.name = y.name →
      Stand p l e rm s m as below meth c s₁ [] 0 0 → s₁.heap = h → GoOn p e below (EndQ s rm Q) (s₁.setTop (entryFrame m as mx))) : Con l Z y bytes mx rt rm as h Q := fun ws => by
  refine MetFree.of_bodySF hp hisR ?_
  intro p e s m args below meth c s₁ Bd hml0 hP hK
  obtain ⟨rfl, hZ, hh⟩ := hP
  have X0 : Stand p l e rm s m args below meth c s₁ [] 0 0 := Stand.of_body Bd
  obtain ⟨t, o, h1, h2, h3, h4⟩ := body p e s m below meth c s₁ Bd.exec Bd.bytes hml0 Bd.returns Bd.notSynchronized hZ (findClass_of_methodNamed Bd.named) (name_of_methodNamed Bd.named Bd.method).1 X0 (by rw [← hh, Bd.state]; rfl)
  exact ⟨t, o, h1, h2, h3, h4⟩
theorem GoOn.cast {E : State → Outcome → Prop} {g g' : JFrame} (q : g = g') (k : GoOn p e below E (T.setTop g')) : GoOn p e below E (T.setTop g) := q ▸ k
theorem GoOn.retI (X : Stand p l e R s m args below meth c T locs cells slots) (hx : p.tables.exec = Jvm.exec) (hrt : meth.sig.returnType = some .int) (hlk : meth.locks = false) {rm : Room} {Q : Option Value → Heap → List Loc → Prop} {pc : Nat} {Ls : Array Slot} {z : Int32} {rest : List Value}
    (hd : decode c.code pc = .ok (.ireturn, 1)) (hc : cells ≤ rm.cells) (hs : slots ≤ rm.slots) (hQ : Q (some (.int z)) T.heap locs) : GoOn p e below (EndQ s rm Q) (T.setTop (mkF m pc Ls (.int z :: rest))) := by
  obtain ⟨fs, hr, hrun, hended, hW, hsame⟩ := X.leave (v := some (.int z)) (fun h => by rw [hrt] at h; cases h) hlk
  exact ⟨_, _, Jvm.RoadKit.retOut X hx hrt rfl (Or.inl ⟨rfl, Or.inl rfl, _, rfl⟩) hd hr, hrun, hended, _, _, rfl, hQ, ⟨_, rfl⟩, hW, hsame.mono hc hs⟩
theorem GoOn.retN (X : Stand p l e R s m args below meth c T locs cells slots) (hx : p.tables.exec = Jvm.exec) {t : FieldType} (hrt : meth.sig.returnType = some t) (hlk : meth.locks = false) {rm : Room} {Q : Option Value → Heap → List Loc → Prop} {pc : Nat} {Ls : Array Slot} {z : Int32} {rest : List Value} (ht : t = .boolean ∨ t = .byte ∨ t = .char ∨ t = .short)
    (hd : decode c.code pc = .ok (.ireturn, 1)) (hc : cells ≤ rm.cells) (hs : slots ≤ rm.slots) (hQ : Q (some (.int (nar t z))) T.heap locs) : GoOn p e below (EndQ s rm Q) (T.setTop (mkF m pc Ls (.int z :: rest))) := by
  obtain ⟨fs, hr, hrun, hended, hW, hsame⟩ := X.leave (v := some (.int (nar t z))) (fun h => by rw [hrt] at h; cases h) hlk
  exact ⟨_, _, Jvm.RoadKit.retN X hx hrt ht hd hr, hrun, hended, _, _, rfl, hQ, ⟨_, rfl⟩, hW, hsame.mono hc hs⟩
theorem GoOn.retJ (X : Stand p l e R s m args below meth c T locs cells slots) (hx : p.tables.exec = Jvm.exec) (hrt : meth.sig.returnType = some .long) (hlk : meth.locks = false) {rm : Room} {Q : Option Value → Heap → List Loc → Prop} {pc : Nat} {Ls : Array Slot} {z : Int64} {rest : List Value}
    (hd : decode c.code pc = .ok (.lreturn, 1)) (hc : cells ≤ rm.cells) (hs : slots ≤ rm.slots) (hQ : Q (some (.long z)) T.heap locs) : GoOn p e below (EndQ s rm Q) (T.setTop (mkF m pc Ls (.long z :: rest))) := by
  obtain ⟨fs, hr, hrun, hended, hW, hsame⟩ := X.leave (v := some (.long z)) (fun h => by rw [hrt] at h; cases h) hlk
  exact ⟨_, _, Jvm.RoadKit.retOut X hx hrt rfl (Or.inr (Or.inl ⟨rfl, rfl, _, rfl⟩)) hd hr, hrun, hended, _, _, rfl, hQ, ⟨_, rfl⟩, hW, hsame.mono hc hs⟩
theorem GoOn.retR (X : Stand p l e R s m args below meth c T locs cells slots) (hx : p.tables.exec = Jvm.exec) {t : FieldType} (hrt : meth.sig.returnType = some t) (htr : t.isReference = true) (hlk : meth.locks = false) {rm : Room} {Q : Option Value → Heap → List Loc → Prop} {pc : Nat} {Ls : Array Slot} {z : Value} (hz : z.isRef = true) {rest : List Value}
    (hd : decode c.code pc = .ok (.areturn, 1)) (hc : cells ≤ rm.cells) (hs : slots ≤ rm.slots) (hQ : Q (some z) T.heap locs) : GoOn p e below (EndQ s rm Q) (T.setTop (mkF m pc Ls (z :: rest))) := by
  obtain ⟨fs, hr, hrun, hended, hW, hsame⟩ := X.leave (v := some z) (fun h => by rw [hrt] at h; cases h) hlk
  refine ⟨_, _, Jvm.RoadKit.retOut X hx hrt ?_ (Or.inr (Or.inr (Or.inr (Or.inr ⟨rfl, htr, hz⟩)))) hd hr, hrun, hended, _, _, rfl, hQ, ⟨_, rfl⟩, hW, hsame.mono hc hs⟩
  cases z <;> first | (cases t <;> rfl) | (simp [Value.isRef] at hz)
theorem GoOn.ret0 (X : Stand p l e R s m args below meth c T locs cells slots) (hx : p.tables.exec = Jvm.exec) (hrt : meth.sig.returnType = none) (hlk : meth.locks = false) {rm : Room} {Q : Option Value → Heap → List Loc → Prop} {pc : Nat} {Ls : Array Slot}
    (hd : decode c.code pc = .ok (.return_, 1)) (hc : cells ≤ rm.cells) (hs : slots ≤ rm.slots) (hQ : Q none T.heap locs) : GoOn p e below (EndQ s rm Q) (T.setTop (mkF m pc Ls [])) := by
  obtain ⟨fs, hr, hrun, hended, hW, hsame⟩ := X.leave (v := none) (fun _ => rfl) hlk
  exact ⟨_, _, X.returnOut hx hrt hd hr, hrun, hended, _, _, rfl, hQ, ⟨_, rfl⟩, hW, hsame.mono hc hs⟩
/-- a static call by its contract -/
theorem kCallS (X : Stand p l e R s m args below meth c T locs cells slots) (hx : p.tables.exec = Jvm.exec) (hZ : Z.Warmed39 s.vm) {own : String} {index : Nat} {y : MethodName} {bytes : ByteArray} {mx : Nat} {rt : Option FieldType} {rm : Room} {Q : Option Value → Heap → List Loc → Prop} {argsL rest : List Value}
    (K : Con l Z y bytes mx rt rm argsL.toArray h Q) (hown : s.vm.findClass own = some m.cls) (w1 : (Jvm.Cond.methodLink own index y).before a0 Z = true) (w2 : (Jvm.Cond.static y).before a0 Z = true) (w3 : (Jvm.Cond.initialized y.cls).before a0 Z = true) (w4 : (Jvm.Cond.code y bytes mx rt).before a0 Z = true)
    (hy : y.cls ≠ "java/lang/invoke/MethodHandle" ∧ y.cls ≠ "java/lang/invoke/VarHandle") (eT : T.heap = h) {g : JFrame} (hg : g.method = m) (hsize : g.locals.size = c.maxLocals) (hlen : ∀ sig, parseMethodDescriptor y.desc = some sig → argsL.length = sig.parameters.length) (hstack : g.stack = argsL.reverse ++ rest)
    {W : Nat} (hW : 2 * g.monitorRoom + (rest.map fun v => v.category).sum ≤ W) (hd : decode c.code g.pc = .ok (.invokestatic index, 3)) (hf : rm.frames + 1 ≤ R.frames) (hl : W + (mx + 11) + rm.locals ≤ R.locals) (hc : cells + rm.cells ≤ R.cells) (hs : slots + rm.slots ≤ R.slots) :
    ∃ v T' L, Stand p l e R s m args below meth c T' (locs ++ L) (cells + rm.cells) (slots + rm.slots) ∧ Q v T'.heap L ∧ ∀ target, Steps p.tables e below (T'.setTop { g with pc := g.pc + 3, stack := v.toList ++ rest }) target → Steps p.tables e below (T.setTop g) target := by
  obtain ⟨v, _, ⟨T', L', k', n'⟩, -, X', ⟨L, hQ, l1, l2, l3⟩, st⟩ := Jvm.LawKit.callS X hx (y := y) hown (mvT hZ w1) (mvT hZ w2) (mvT hZ w3) (mvT hZ w4) hy (backOf (W := W) (K []) hZ w4 w3 hf hl) hg hsize hlen hstack hW hd (fun _ _ => ⟨rfl, eT, hc, hs⟩)
  dsimp only [Pt.U, Pt.locs, Pt.cells, Pt.slots] at X' l1 l2 l3 hQ st
  subst l1 l2 l3
  exact ⟨v, T', L, X', hQ, fun t k => st _ k⟩
/-- a constructor by its contract -/
theorem kCallI (X : Stand p l e R s m args below meth c T locs cells slots) (hx : p.tables.exec = Jvm.exec) (hZ : Z.Warmed39 s.vm) {own : String} {index : Nat} {y : MethodName} {bytes : ByteArray} {mx : Nat} {rm : Room} {Q : Option Value → Heap → List Loc → Prop} {a : Addr} {argsL rest : List Value}
    (K : Con l Z y bytes mx none rm (.ref a :: argsL).toArray h Q) (hy1 : y.name = "<init>") (hown : s.vm.findClass own = some m.cls) (w1 : (Jvm.Cond.methodLink own index y).before a0 Z = true) (w2 : (Jvm.Cond.instanceMethod y).before a0 Z = true) (w3 : (Jvm.Cond.initialized y.cls).before a0 Z = true) (w4 : (Jvm.Cond.code y bytes mx none).before a0 Z = true)
    (hy : y.cls ≠ "java/lang/invoke/MethodHandle" ∧ y.cls ≠ "java/lang/invoke/VarHandle") (eT : T.heap = h) {g : JFrame} (hg : g.method = m) (hsize : g.locals.size = c.maxLocals) (hlen : ∀ sig, parseMethodDescriptor y.desc = some sig → argsL.length = sig.parameters.length) (hstack : g.stack = argsL.reverse ++ .ref a :: rest)
    {W : Nat} (hW : 2 * g.monitorRoom + (rest.map fun v => v.category).sum ≤ W) (hd : decode c.code g.pc = .ok (.invokespecial index, 3)) (hf : rm.frames + 1 ≤ R.frames) (hl : W + (mx + 11) + rm.locals ≤ R.locals) (hc : cells + rm.cells ≤ R.cells) (hs : slots + rm.slots ≤ R.slots) :
    ∃ v T' L, Stand p l e R s m args below meth c T' (locs ++ L) (cells + rm.cells) (slots + rm.slots) ∧ Q v T'.heap L ∧ ∀ target, Steps p.tables e below (T'.setTop { g with pc := g.pc + 3, stack := v.toList ++ rest }) target → Steps p.tables e below (T.setTop g) target := by
  obtain ⟨v, _, ⟨T', L', k', n'⟩, -, X', ⟨L, hQ, l1, l2, l3⟩, st⟩ := X.specialBack hx (y := y) hy1 hown (mvT hZ w1) (mvT hZ w2) (mvT hZ w4) hy (backOf (W := W) (K []) hZ w4 w3 hf hl) hg hsize (Steps.refl _) (a := a) hlen hstack hW hd (fun _ _ => ⟨rfl, eT, hc, hs⟩)
  dsimp only [Pt.U, Pt.locs, Pt.cells, Pt.slots] at X' l1 l2 l3 hQ st
  subst l1 l2 l3
  exact ⟨v, T', L, X', hQ, fun t k => st.trans k⟩
/-- an instance method by its contract, on an object of that very class -/
theorem kCallV (X : Stand p l e R s m args below meth c T locs cells slots) (hx : p.tables.exec = Jvm.exec) (hZ : Z.Warmed39 s.vm) {own C : String} {index : Nat} {y z : MethodName} {bytes : ByteArray} {mx : Nat} {rt : Option FieldType} {rm : Room} {Q : Option Value → Heap → List Loc → Prop} {a : Addr} {argsL rest : List Value}
    (K : Con l Z z bytes mx rt rm (.ref a :: argsL).toArray h Q) (hown : s.vm.findClass own = some m.cls) (w1 : (Jvm.Cond.methodLink own index y).before a0 Z = true) (wd : (Jvm.Cond.declares y).before a0 Z = true) (hnf : NotFace s y) (ws : (Jvm.Cond.selects C y z).before a0 Z = true) (w2 : (Jvm.Cond.instanceMethod z).before a0 Z = true) (w3 : (Jvm.Cond.initialized z.cls).before a0 Z = true) (w4 : (Jvm.Cond.code z bytes mx rt).before a0 Z = true)
    (hy : y.cls ≠ "java/lang/invoke/MethodHandle" ∧ y.cls ≠ "java/lang/invoke/VarHandle") (eT : T.heap = h) (E : Exa Z h a C) {g : JFrame} (hg : g.method = m) (hsize : g.locals.size = c.maxLocals) (hlen : ∀ sig, parseMethodDescriptor y.desc = some sig → argsL.length = sig.parameters.length) (hstack : g.stack = argsL.reverse ++ .ref a :: rest)
    {W : Nat} (hW : 2 * g.monitorRoom + (rest.map fun v => v.category).sum ≤ W) (hd : decode c.code g.pc = .ok (.invokevirtual index, 3)) (hf : rm.frames + 1 ≤ R.frames) (hl : W + (mx + 11) + rm.locals ≤ R.locals) (hc : cells + rm.cells ≤ R.cells) (hs : slots + rm.slots ≤ R.slots) :
    ∃ v T' L, Stand p l e R s m args below meth c T' (locs ++ L) (cells + rm.cells) (slots + rm.slots) ∧ Q v T'.heap L ∧ ∀ target, Steps p.tables e below (T'.setTop { g with pc := g.pc + 3, stack := v.toList ++ rest }) target → Steps p.tables e below (T.setTop g) target := by
  obtain ⟨cB, kB, q1, q2, q3⟩ := isOf hZ eT E
  obtain ⟨v, _, ⟨T', L', k', n'⟩, -, X', ⟨L, hQ, l1, l2, l3⟩, st⟩ := X.virtualBack hx (y := y) (z := z) hown (mvT hZ w1) (mvT hZ wd) hnf (mvT hZ ws) (mvT hZ w2) hy (backOf (W := W) (K []) hZ w4 w3 hf hl) q1 q3 hg hsize (Steps.refl _) hlen hstack hW hd (fun _ _ => ⟨rfl, eT, hc, hs⟩)
  dsimp only [Pt.U, Pt.locs, Pt.cells, Pt.slots] at X' l1 l2 l3 hQ st
  subst l1 l2 l3
  exact ⟨v, T', L, X', hQ, fun t k => st.trans k⟩
/-- a private method by its contract ('invokevirtual'); y2: a method of the same class of which is known that its class is no interface -/
theorem kCallP (X : Stand p l e R s m args below meth c T locs cells slots) (hx : p.tables.exec = Jvm.exec) (hZ : Z.Warmed39 s.vm) {own C : String} {index : Nat} {y y2 : MethodName} {bytes : ByteArray} {mx : Nat} {rt : Option FieldType} {rm : Room} {Q : Option Value → Heap → List Loc → Prop} {a : Addr} {argsL rest : List Value}
    (K : Con l Z y bytes mx rt rm (.ref a :: argsL).toArray h Q) (hown : s.vm.findClass own = some m.cls) (w1 : (Jvm.Cond.methodLink own index y).before a0 Z = true) (w2 : (Jvm.Cond.instanceMethod y).before a0 Z = true) (wp : (Jvm.Cond.privateMethod y).before a0 Z = true) (w3 : (Jvm.Cond.initialized y.cls).before a0 Z = true) (w4 : (Jvm.Cond.code y bytes mx rt).before a0 Z = true)
    (hnf : NotFace s y2) (hcl : y2.cls = y.cls) (w5 : (Jvm.Cond.instanceMethod y2).before a0 Z = true)
    (hy : y.cls ≠ "java/lang/invoke/MethodHandle" ∧ y.cls ≠ "java/lang/invoke/VarHandle") (eT : T.heap = h) (E : Exa Z h a C) {g : JFrame} (hg : g.method = m) (hsize : g.locals.size = c.maxLocals) (hlen : ∀ sig, parseMethodDescriptor y.desc = some sig → argsL.length = sig.parameters.length) (hstack : g.stack = argsL.reverse ++ .ref a :: rest)
    {W : Nat} (hW : 2 * g.monitorRoom + (rest.map fun v => v.category).sum ≤ W) (hd : decode c.code g.pc = .ok (.invokevirtual index, 3)) (hf : rm.frames + 1 ≤ R.frames) (hl : W + (mx + 11) + rm.locals ≤ R.locals) (hc : cells + rm.cells ≤ R.cells) (hs : slots + rm.slots ≤ R.slots) :
    ∃ v T' L, Stand p l e R s m args below meth c T' (locs ++ L) (cells + rm.cells) (slots + rm.slots) ∧ Q v T'.heap L ∧ ∀ target, Steps p.tables e below (T'.setTop { g with pc := g.pc + 3, stack := v.toList ++ rest }) target → Steps p.tables e below (T.setTop g) target := by
  obtain ⟨cB, kB, q1, q2, cell, q3, q4, q5⟩ := isOf hZ eT E
  obtain ⟨mk, methM, hnamed, hmethM, hstM, habM⟩ := Cond.instanceMethod_spec (mvT (args := args) hZ w2)
  obtain ⟨methM', cM, hmethM', -, -, -, -, -, -, hsigM⟩ := Cond.code_spec hnamed (mvT (args := args) hZ w4)
  cases hmethM.symm.trans hmethM'
  obtain ⟨mk2, methM2, hnamed2, -⟩ := Cond.instanceMethod_spec (mvT (args := args) hZ w5)
  obtain ⟨kP, hkP, hkPi⟩ := hnf mk2 hnamed2
  have hcc : mk2.cls = mk.cls := by
    have u1 := findClass_of_methodNamed hnamed2
    rw [hcl] at u1
    exact Option.some.inj (u1.symm.trans (findClass_of_methodNamed hnamed))
  rw [hcc] at hkP
  have hpriv : s.PrivateAt y := Cond.privateMethod_at (mvP hZ wp (args := args))
  obtain ⟨vm₁, X₁, hstep₁⟩ := X.invokevirtual hx hown (mvT hZ w1) hnamed hmethM hstM hkP hkPi hy (a := a) (cell := cell) q3 (fun q z => by rw [z] at q5; cases q5) (selectMethod_private hmethM (hpriv mk methM hnamed hmethM)) hmethM habM hkP hkPi (g := g) hg (argsL := argsL) (rest := rest) (hlen _ hsigM) hstack hd
  obtain ⟨v, ⟨T', L', k', n'⟩, X', ⟨L, hQ, l1, l2, l3⟩, st⟩ := (backOf (W := W) (K []) hZ w4 w3 hf hl) m meth c ⟨T.setVm vm₁, locs, cells, slots⟩ { g with stack := rest } (.invokevirtual index) mk (.ref a :: argsL).toArray X₁ hg hsize hd hW (X₁.named hnamed) ⟨rfl, eT, hc, hs⟩
  dsimp only [Pt.U, Pt.locs, Pt.cells, Pt.slots] at X' l1 l2 l3 hQ st
  subst l1 l2 l3
  exact ⟨v, T', L, X', hQ, fun t k => (hstep₁ _ fun acts => by rw [doInvoke_state]; exact Steps.refl _).trans (st.trans k)⟩
/-- an array: its kind, its length, what each place holds -/
def Jar (Z : State) (h : Heap) (a : Addr) (ty : FieldType) (n : Nat) (f : Nat → Value) : Prop := ∃ cl : Cell, Arr Z h a cl ty ∧ cl.slots.size = n ∧ ∀ i, i < n → cl.slots[i]? = some (f i)
section JarS
variable {a b : Addr} {ty : FieldType} {n : Nat} {f g : Nat → Value} {v : Value} {sl : Nat} {ws : List Addr}
theorem Jar.lt (F : Jar Z h a ty n f) : a < h.size := by obtain ⟨cl, A, -⟩ := F; exact A.lt
theorem Jar.ext (F : Jar Z h a ty n f) (E : Ext h h') : Jar Z h' a ty n f := by obtain ⟨cl, A, r⟩ := F; exact ⟨cl, A.ext E, r⟩
theorem Jar.other (F : Jar Z h b ty n f) (W : Wr h h' a sl v) (q : b ≠ a) : Jar Z h' b ty n f := by obtain ⟨cl, A, r⟩ := F; exact ⟨cl, A.other W q, r⟩
theorem Jar.keep (F : Jar Z h a ty n f) (K : Keep h h' ws) (q : a ∉ ws) : Jar Z h' a ty n f := by obtain ⟨cl, A, r⟩ := F; exact ⟨cl, ⟨K.2.1 a cl A.1 q, A.2⟩, r⟩
theorem Jar.congr (F : Jar Z h a ty n f) (q : ∀ i, i < n → f i = g i) : Jar Z h a ty n g := by obtain ⟨cl, A, s1, s2⟩ := F; exact ⟨cl, A, s1, fun i hi => by rw [s2 i hi, q i hi]⟩
theorem Jar.new {k : ClassId} {z : Int32} (A : Arr Z h a (newA k ty z) ty) (hz : z.toNatClampNeg = n) : Jar Z h a ty n (fun _ => defaultValue ty) := ⟨_, A, (sz_new _ _ _).trans hz, fun i hi => by simp [newA, hz, hi]⟩
theorem Jar.set (F : Jar Z h a ty n f) (W : Wr h h' a sl v) : Jar Z h' a ty n (fun i => if i = sl then v else f i) := by
  obtain ⟨cl, A, s1, s2⟩ := F
  obtain ⟨c2, q1, -, q3, -⟩ := id W
  cases A.1.symm.trans q1
  refine ⟨_, Arr.same W A, by simp [Cell.setSlot, s1], fun i hi => ?_⟩
  by_cases q : i = sl
  · subst q; simp [Cell.setSlot, q3]
  · show (cl.slots.setIfInBounds sl v)[i]? = some (if i = sl then v else f i)
    rw [if_neg q, ← s2 i hi, Array.getElem?_setIfInBounds_ne (Ne.symm q)]
theorem Jar.ints (F : Jar Z h a ty n f) (H : ∀ i, ∃ x, f i = .int x) : ∃ g : Nat → Int32, Jar Z h a ty n (fun i => .int (g i)) := ⟨fun i => Classical.choose (H i), F.congr fun i _ => Classical.choose_spec (H i)⟩
theorem Jar.longs (F : Jar Z h a ty n f) (H : ∀ i, ∃ x, f i = .long x) : ∃ g : Nat → Int64, Jar Z h a ty n (fun i => .long (g i)) := ⟨fun i => Classical.choose (H i), F.congr fun i _ => Classical.choose_spec (H i)⟩
theorem inJ {cl : Cell} {j : Int32} (s1 : cl.slots.size = n) (hj : 0 ≤ j.toInt ∧ j.toInt < n) : ¬ (j < 0 ∨ cl.slots.size ≤ j.toNatClampNeg) := by
  rw [s1, Int32.lt_iff_toInt_lt]
  have e1 : (0 : Int32).toInt = 0 := rfl
  have e2 : j.toNatClampNeg = j.toInt.toNat := rfl
  omega
theorem natJ {j : Int32} (hj : 0 ≤ j.toInt ∧ j.toInt < n) : j.toNatClampNeg < n := by
  have e2 : j.toNatClampNeg = j.toInt.toNat := rfl
  omega
end JarS
theorem kLdI (X : Stand p l e R s m args below meth c T locs cells slots) (hx : p.tables.exec = Jvm.exec) (hZ : Z.Warmed39 s.vm) (eT : T.heap = h) {a : Addr} {n : Nat} {f : Nat → Value} (F : Jar Z h a .int n f) {j : Int32} {v : Value} (hj : 0 ≤ j.toInt ∧ j.toInt < n) (hv : f j.toNatClampNeg = v) {g : JFrame} (hg : g.method = m) {rest : List Value} (hs : g.stack = .int j :: .ref a :: rest) (hd : decode c.code g.pc = .ok (.iaload, 1)) :
    ∀ t, Steps p.tables e below (T.setTop { g with pc := g.pc + 1, stack := v :: rest }) t → Steps p.tables e below (T.setTop g) t := by
  obtain ⟨cl, A, s1, s2⟩ := F
  exact X.iaload hx (j := j) (v := v) (by rw [eT]; exact A.1) (State.isArrayOf_alike hZ.alike A.2.1) A.2.2 (inJ s1 hj) (by rw [s2 _ (natJ hj), hv]) hg hs hd
theorem kLdJ (X : Stand p l e R s m args below meth c T locs cells slots) (hx : p.tables.exec = Jvm.exec) (hZ : Z.Warmed39 s.vm) (eT : T.heap = h) {a : Addr} {n : Nat} {f : Nat → Value} (F : Jar Z h a .long n f) {j : Int32} {v : Value} (hj : 0 ≤ j.toInt ∧ j.toInt < n) (hv : f j.toNatClampNeg = v) {g : JFrame} (hg : g.method = m) {rest : List Value} (hs : g.stack = .int j :: .ref a :: rest) (hd : decode c.code g.pc = .ok (.laload, 1)) :
    ∀ t, Steps p.tables e below (T.setTop { g with pc := g.pc + 1, stack := v :: rest }) t → Steps p.tables e below (T.setTop g) t := by
  obtain ⟨cl, A, s1, s2⟩ := F
  exact X.laload hx (j := j) (v := v) (by rw [eT]; exact A.1) (State.isArrayOf_alike hZ.alike A.2.1) A.2.2 (inJ s1 hj) (by rw [s2 _ (natJ hj), hv]) hg hs hd
theorem kLdB (X : Stand p l e R s m args below meth c T locs cells slots) (hx : p.tables.exec = Jvm.exec) (hZ : Z.Warmed39 s.vm) (eT : T.heap = h) {a : Addr} {n : Nat} {f : Nat → Value} (F : Jar Z h a .byte n f) {j : Int32} {v : Value} (hj : 0 ≤ j.toInt ∧ j.toInt < n) (hv : f j.toNatClampNeg = v) {g : JFrame} (hg : g.method = m) {rest : List Value} (hs : g.stack = .int j :: .ref a :: rest) (hd : decode c.code g.pc = .ok (.baload, 1)) :
    ∀ t, Steps p.tables e below (T.setTop { g with pc := g.pc + 1, stack := v :: rest }) t → Steps p.tables e below (T.setTop g) t := by
  obtain ⟨cl, A, s1, s2⟩ := F
  exact X.baloadBytes hx (j := j) (v := v) (by rw [eT]; exact A.1) (State.isArrayOf_alike hZ.alike A.2.1) A.2.2 (inJ s1 hj) (by rw [s2 _ (natJ hj), hv]) hg hs hd
theorem kLdA (X : Stand p l e R s m args below meth c T locs cells slots) (hx : p.tables.exec = Jvm.exec) (hZ : Z.Warmed39 s.vm) (eT : T.heap = h) {a : Addr} {ty : FieldType} {n : Nat} {f : Nat → Value} (F : Jar Z h a ty n f) (hty : ty.isReference = true) {j : Int32} {v : Value} (hj : 0 ≤ j.toInt ∧ j.toInt < n) (hv : f j.toNatClampNeg = v) {g : JFrame} (hg : g.method = m) {rest : List Value} (hs : g.stack = .int j :: .ref a :: rest) (hd : decode c.code g.pc = .ok (.aaload, 1)) :
    ∀ t, Steps p.tables e below (T.setTop { g with pc := g.pc + 1, stack := v :: rest }) t → Steps p.tables e below (T.setTop g) t := by
  obtain ⟨cl, A, s1, s2⟩ := F
  exact X.aaload hx (j := j) (v := v) (by rw [eT]; exact A.1) (State.isArrayOf_alike hZ.alike A.2.1) hty A.2.2 (inJ s1 hj) (by rw [s2 _ (natJ hj), hv]) hg hs hd
theorem kLen (X : Stand p l e R s m args below meth c T locs cells slots) (hx : p.tables.exec = Jvm.exec) (hZ : Z.Warmed39 s.vm) (eT : T.heap = h) {a : Addr} {ty : FieldType} {n : Nat} {f : Nat → Value} (F : Jar Z h a ty n f) {z : Int32} (hz : n.toInt32 = z) {g : JFrame} (hg : g.method = m) {rest : List Value} (hs : g.stack = .ref a :: rest) (hd : decode c.code g.pc = .ok (.arraylength, 1)) :
    ∀ t, Steps p.tables e below (T.setTop { g with pc := g.pc + 1, stack := .int z :: rest }) t → Steps p.tables e below (T.setTop g) t := by
  obtain ⟨cl, A, s1, s2⟩ := F
  subst hz s1
  exact X.arraylength hx (by rw [eT]; exact A.1) (State.isArrayOf_alike hZ.alike A.2.1) hg hs hd
/-- a store: what the three kinds say alike -/
theorem kStI (X : Stand p l e R s m args below meth c T locs cells slots) (hx : p.tables.exec = Jvm.exec) (hZ : Z.Warmed39 s.vm) (eT : T.heap = h) {a : Addr} {n : Nat} {f : Nat → Value} (F : Jar Z h a .int n f) {j x : Int32} (hj : 0 ≤ j.toInt ∧ j.toInt < n) {g : JFrame} (hg : g.method = m) {rest : List Value} (hs : g.stack = .int x :: .int j :: .ref a :: rest) (hd : decode c.code g.pc = .ok (.iastore, 1)) :
    ∃ T' h', Stand p l e R s m args below meth c T' (locs ++ [⟨a, j.toNatClampNeg⟩]) cells slots ∧ T'.heap = h' ∧ Wr h h' a j.toNatClampNeg (.int x) ∧ ∀ target, Steps p.tables e below (T'.setTop { g with pc := g.pc + 1, stack := rest }) target → Steps p.tables e below (T.setTop g) target := by
  obtain ⟨cl, A, s1, s2⟩ := F
  exact stI X hx hZ eT A (inJ s1 hj) hg hs hd
theorem kStJ (X : Stand p l e R s m args below meth c T locs cells slots) (hx : p.tables.exec = Jvm.exec) (hZ : Z.Warmed39 s.vm) (eT : T.heap = h) {a : Addr} {n : Nat} {f : Nat → Value} (F : Jar Z h a .long n f) {j : Int32} {x : Int64} (hj : 0 ≤ j.toInt ∧ j.toInt < n) {g : JFrame} (hg : g.method = m) {rest : List Value} (hs : g.stack = .long x :: .int j :: .ref a :: rest) (hd : decode c.code g.pc = .ok (.lastore, 1)) :
    ∃ T' h', Stand p l e R s m args below meth c T' (locs ++ [⟨a, j.toNatClampNeg⟩]) cells slots ∧ T'.heap = h' ∧ Wr h h' a j.toNatClampNeg (.long x) ∧ ∀ target, Steps p.tables e below (T'.setTop { g with pc := g.pc + 1, stack := rest }) target → Steps p.tables e below (T.setTop g) target := by
  obtain ⟨cl, A, s1, s2⟩ := F
  exact stJ X hx hZ eT A (inJ s1 hj) hg hs hd
theorem kStB (X : Stand p l e R s m args below meth c T locs cells slots) (hx : p.tables.exec = Jvm.exec) (hZ : Z.Warmed39 s.vm) (eT : T.heap = h) {a : Addr} {n : Nat} {f : Nat → Value} (F : Jar Z h a .byte n f) {j x : Int32} (hj : 0 ≤ j.toInt ∧ j.toInt < n) {g : JFrame} (hg : g.method = m) {rest : List Value} (hs : g.stack = .int x :: .int j :: .ref a :: rest) (hd : decode c.code g.pc = .ok (.bastore, 1)) :
    ∃ T' h', Stand p l e R s m args below meth c T' (locs ++ [⟨a, j.toNatClampNeg⟩]) cells slots ∧ T'.heap = h' ∧ Wr h h' a j.toNatClampNeg (.int (x.toInt8.toInt32)) ∧ ∀ target, Steps p.tables e below (T'.setTop { g with pc := g.pc + 1, stack := rest }) target → Steps p.tables e below (T.setTop g) target := by
  obtain ⟨cl, A, s1, s2⟩ := F
  exact stB X hx hZ eT A (inJ s1 hj) hg hs hd
theorem kClone (X : Stand p l e R s m args below meth c T locs cells slots) (hx : p.tables.exec = Jvm.exec) (hZ : Z.Warmed39 s.vm) {own ad : String} {index : Nat} (hown : s.vm.findClass own = some m.cls)
    (w1 : (Jvm.Cond.methodLink own index ⟨ad, "clone", "()Ljava/lang/Object;"⟩).before a0 Z = true) (w2 : (Jvm.Cond.sameMethod ad "java/lang/Object" "clone" "()Ljava/lang/Object;").before a0 Z = true) (w3 : (Jvm.Cond.native ⟨"java/lang/Object", "clone", "()Ljava/lang/Object;"⟩).before a0 Z = true)
    (w4 : (Jvm.Cond.instanceMethod ⟨"java/lang/Object", "clone", "()Ljava/lang/Object;"⟩).before a0 Z = true) (w5 : (Jvm.Cond.selects ad ⟨ad, "clone", "()Ljava/lang/Object;"⟩ ⟨"java/lang/Object", "clone", "()Ljava/lang/Object;"⟩).before a0 Z = true) (w6 : (Jvm.Cond.castable ad "java/lang/Cloneable").before a0 Z = true)
    (eT : T.heap = h) {a : Addr} {ty : FieldType} {n : Nat} {f : Nat → Value} (F : Jar Z h a ty n f) (E : Exa Z h a ad) (hft : ∀ i, i < n → fits ty (f i) = true) {g : JFrame} (hg : g.method = m) (hsize : g.locals.size = c.maxLocals) {rest : List Value} (hs : g.stack = .ref a :: rest) (hd : decode c.code g.pc = .ok (.invokevirtual index, 3))
    (hf : 1 ≤ R.frames) {W cap : Nat} (hW : 2 * g.monitorRoom + (rest.map fun v => v.category).sum ≤ W) (hl : W + 14 ≤ R.locals) (hcap : n ≤ cap) (hc : cells + 1 ≤ R.cells) (hsl : slots + cap ≤ R.slots) :
    ∃ T' h', Stand p l e R s m args below meth c T' locs (cells + 1) (slots + cap) ∧ T'.heap = h' ∧ Ext h h' ∧ Jar Z h' h.size ty n f ∧ Exa Z h' h.size ad ∧
      ∀ target, Steps p.tables e below (T'.setTop { g with pc := g.pc + 3, stack := .ref h.size :: rest }) target → Steps p.tables e below (T.setTop g) target := by
  obtain ⟨cl, A, s1, s2⟩ := F
  have FC : FitC Z cl := fitC_of A fun i hi v hv => by rw [s2 i (s1 ▸ hi)] at hv; cases hv; exact hft i (s1 ▸ hi)
  obtain ⟨T', h', X', e', ex, A', E', st⟩ := cloneA X hx hZ hown w1 w2 w3 w4 w5 w6 eT A E FC hg hsize hs hd hf hW hl (by rw [s1]; exact hcap) hc hsl
  exact ⟨T', h', X', e', ex, ⟨cloneOf cl, A', s1, s2⟩, E', st⟩
theorem narO {C : String} (v : Value) : narrow (.object C) v = v := by cases v <;> rfl
theorem fitO {C : String} {v : Value} (h : v.isRef = true) : fits (.object C) v = true := by cases v <;> first | rfl | (simp [Value.isRef] at h)
/-- what a body that writes nothing and makes nothing leaves -/
def PQ (r : Option Value) (h0 : Heap) : Option Value → Heap → List Loc → Prop := fun v h L => v = r ∧ L = [] ∧ h = h0
/-- what the law leaves -/
def LQ (n0 : Nat) : Option Value → Heap → List Loc → Prop := fun v _ L => v = some (.int 1) ∧ Fr n0 L
end OwnKit
theorem pn_0 : plainName "com/example/query_warden/querywarden/PacketLengthEncodedSizePinLaw" = true := by first | (simp [plainName, overriddenIn]; done) | decide +kernel
theorem d1_0 : decode method_2_code 0 = .ok (.bipush 12, 2) := by decide +kernel
theorem d1_2 : decode method_2_code 2 = .ok (.newarray .byte, 2) := by decide +kernel
theorem d1_4 : decode method_2_code 4 = .ok (.astore_n 1, 1) := by decide +kernel
theorem d1_5 : decode method_2_code 5 = .ok (.aload_n 1, 1) := by decide +kernel
theorem d1_6 : decode method_2_code 6 = .ok (.iconst 0, 1) := by decide +kernel
theorem d1_7 : decode method_2_code 7 = .ok (.iload_n 0, 1) := by decide +kernel
theorem d1_8 : decode method_2_code 8 = .ok (.bastore, 1) := by decide +kernel
theorem d1_9 : decode method_2_code 9 = .ok (.aload_n 1, 1) := by decide +kernel
theorem d1_10 : decode method_2_code 10 = .ok (.iconst 1, 1) := by decide +kernel
theorem d1_11 : decode method_2_code 11 = .ok (.iload_n 0, 1) := by decide +kernel
theorem d1_12 : decode method_2_code 12 = .ok (.bastore, 1) := by decide +kernel
theorem d1_13 : decode method_2_code 13 = .ok (.aload_n 1, 1) := by decide +kernel
theorem d1_14 : decode method_2_code 14 = .ok (.iconst 2, 1) := by decide +kernel
theorem d1_15 : decode method_2_code 15 = .ok (.iload_n 0, 1) := by decide +kernel
theorem d1_16 : decode method_2_code 16 = .ok (.bastore, 1) := by decide +kernel
theorem d1_17 : decode method_2_code 17 = .ok (.aload_n 1, 1) := by decide +kernel
theorem d1_18 : decode method_2_code 18 = .ok (.iconst 3, 1) := by decide +kernel
theorem d1_19 : decode method_2_code 19 = .ok (.iload_n 0, 1) := by decide +kernel
theorem d1_20 : decode method_2_code 20 = .ok (.bastore, 1) := by decide +kernel
theorem d1_21 : decode method_2_code 21 = .ok (.aload_n 1, 1) := by decide +kernel
theorem d1_22 : decode method_2_code 22 = .ok (.iconst 4, 1) := by decide +kernel
theorem d1_23 : decode method_2_code 23 = .ok (.iload_n 0, 1) := by decide +kernel
theorem d1_24 : decode method_2_code 24 = .ok (.bastore, 1) := by decide +kernel
theorem d1_25 : decode method_2_code 25 = .ok (.aload_n 1, 1) := by decide +kernel
theorem d1_26 : decode method_2_code 26 = .ok (.iconst 5, 1) := by decide +kernel
theorem d1_27 : decode method_2_code 27 = .ok (.iload_n 0, 1) := by decide +kernel
theorem d1_28 : decode method_2_code 28 = .ok (.bastore, 1) := by decide +kernel
theorem d1_29 : decode method_2_code 29 = .ok (.aload_n 1, 1) := by decide +kernel
theorem d1_30 : decode method_2_code 30 = .ok (.bipush 6, 2) := by decide +kernel
theorem d1_32 : decode method_2_code 32 = .ok (.iload_n 0, 1) := by decide +kernel
theorem d1_33 : decode method_2_code 33 = .ok (.bastore, 1) := by decide +kernel
theorem d1_34 : decode method_2_code 34 = .ok (.aload_n 1, 1) := by decide +kernel
theorem d1_35 : decode method_2_code 35 = .ok (.bipush 7, 2) := by decide +kernel
theorem d1_37 : decode method_2_code 37 = .ok (.iload_n 0, 1) := by decide +kernel
theorem d1_38 : decode method_2_code 38 = .ok (.bastore, 1) := by decide +kernel
theorem d1_39 : decode method_2_code 39 = .ok (.aload_n 1, 1) := by decide +kernel
theorem d1_40 : decode method_2_code 40 = .ok (.bipush 8, 2) := by decide +kernel
theorem d1_42 : decode method_2_code 42 = .ok (.iload_n 0, 1) := by decide +kernel
theorem d1_43 : decode method_2_code 43 = .ok (.bastore, 1) := by decide +kernel
theorem d1_44 : decode method_2_code 44 = .ok (.aload_n 1, 1) := by decide +kernel
theorem d1_45 : decode method_2_code 45 = .ok (.bipush 9, 2) := by decide +kernel
theorem d1_47 : decode method_2_code 47 = .ok (.iload_n 0, 1) := by decide +kernel
theorem d1_48 : decode method_2_code 48 = .ok (.bastore, 1) := by decide +kernel
theorem d1_49 : decode method_2_code 49 = .ok (.aload_n 1, 1) := by decide +kernel
theorem d1_50 : decode method_2_code 50 = .ok (.bipush 10, 2) := by decide +kernel
theorem d1_52 : decode method_2_code 52 = .ok (.iload_n 0, 1) := by decide +kernel
theorem d1_53 : decode method_2_code 53 = .ok (.bastore, 1) := by decide +kernel
theorem d1_54 : decode method_2_code 54 = .ok (.aload_n 1, 1) := by decide +kernel
theorem d1_55 : decode method_2_code 55 = .ok (.bipush 11, 2) := by decide +kernel
theorem d1_57 : decode method_2_code 57 = .ok (.iload_n 0, 1) := by decide +kernel
theorem d1_58 : decode method_2_code 58 = .ok (.bastore, 1) := by decide +kernel
theorem d1_59 : decode method_2_code 59 = .ok (.aload_n 1, 1) := by decide +kernel
theorem d1_60 : decode method_2_code 60 = .ok (.areturn, 1) := by decide +kernel
theorem pn_1 : plainName "com/example/query_warden/querywarden/Packet" = true := by first | (simp [plainName, overriddenIn]; done) | decide +kernel
theorem d2_0 : decode prog_22_method_10_code 0 = .ok (.aload_n 0, 1) := by decide +kernel
theorem d2_1 : decode prog_22_method_10_code 1 = .ok (.iload_n 1, 1) := by decide +kernel
theorem d2_2 : decode prog_22_method_10_code 2 = .ok (.baload, 1) := by decide +kernel
theorem d2_3 : decode prog_22_method_10_code 3 = .ok (.sipush 255, 3) := by decide +kernel
theorem d2_6 : decode prog_22_method_10_code 6 = .ok (.iand, 1) := by decide +kernel
theorem d2_7 : decode prog_22_method_10_code 7 = .ok (.tableswitch 38 252 254 #[25, 29, 33], 25) := by decide +kernel
theorem d2_32 : decode prog_22_method_10_code 32 = .ok (.iconst 3, 1) := by decide +kernel
theorem d2_33 : decode prog_22_method_10_code 33 = .ok (.goto 13, 3) := by decide +kernel
theorem d2_46 : decode prog_22_method_10_code 46 = .ok (.ireturn, 1) := by decide +kernel
theorem d2_36 : decode prog_22_method_10_code 36 = .ok (.iconst 4, 1) := by decide +kernel
theorem d2_37 : decode prog_22_method_10_code 37 = .ok (.goto 9, 3) := by decide +kernel
theorem d2_40 : decode prog_22_method_10_code 40 = .ok (.bipush 9, 2) := by decide +kernel
theorem d2_42 : decode prog_22_method_10_code 42 = .ok (.goto 4, 3) := by decide +kernel
theorem d2_45 : decode prog_22_method_10_code 45 = .ok (.iconst 1, 1) := by decide +kernel
theorem pd_0 : parseMethodDescriptor "(B)[B" = some ⟨[.byte], some (.array .byte)⟩ := by decide +kernel
theorem pd_1 : parseMethodDescriptor "([BI)I" = some ⟨[(.array .byte), .int], some .int⟩ := by decide +kernel
def lesz (u : Int32) : Int32 := if u = 252 then 3 else if u = 253 then 4 else if u = 254 then 9 else 1
theorem pl_byte (x : Int32) : ((x.toInt8.toInt32).toInt8.toInt32 &&& (255 : Int32)) = x &&& 255 := by
  apply Int32.toInt_inj.mp
  have h1 : ((x.toInt8.toInt32).toInt8.toInt32 &&& (255 : Int32)).toInt = (x.toInt8.toInt32).toInt8.toInt32.toInt % 256 := c_mask _ 255 8 (by decide) (by decide)
  have h2 : (x &&& (255 : Int32)).toInt = x.toInt % 256 := c_mask x 255 8 (by decide) (by decide)
  have := c_i2b x; have := c_i2b (x.toInt8.toInt32)
  omega
theorem ix {o k : Int32} (ho : 0 ≤ o.toInt ∧ o.toInt ≤ 3) (hk : 0 ≤ k.toInt ∧ k.toInt ≤ 8) : 0 ≤ (o + k).toInt ∧ (o + k).toInt < (12 : Nat) := by
  have := c_iadd o k; have := rng32 (o + k); omega
theorem ixne {o k : Int32} (ho : 0 ≤ o.toInt ∧ o.toInt ≤ 3) (hk : 1 ≤ k.toInt ∧ k.toInt ≤ 8) : ¬ o.toNatClampNeg = (o + k).toNatClampNeg := by
  have := c_iadd o k; have := rng32 (o + k)
  have e1 : o.toNatClampNeg = o.toInt.toNat := rfl
  have e2 : (o + k).toNatClampNeg = (o + k).toInt.toNat := rfl
  omega
theorem pl_small (v : Int64) (h1 : ¬ v < 0) (h2 : v < (251 : Int64)) : lesz (v.toInt32 &&& 255) = 1 := by
  have k1 : (251 : Int64).toInt = 251 := by decide
  have k0 : (0 : Int64).toInt = 0 := by decide
  rw [Int64.lt_iff_toInt_lt, k1] at h2; rw [Int64.lt_iff_toInt_lt, k0] at h1
  have h3 : (v.toInt32 &&& (255 : Int32)).toInt = v.toInt32.toInt % 256 := c_mask _ 255 8 (by decide) (by decide)
  have h4 := c_l2i v; have h5 := rng32 v.toInt32
  have g1 : ¬ (v.toInt32 &&& (255 : Int32)) = 252 := fun q => by rw [q] at h3; have : (252 : Int32).toInt = 252 := (by decide); omega
  have g2 : ¬ (v.toInt32 &&& (255 : Int32)) = 253 := fun q => by rw [q] at h3; have : (253 : Int32).toInt = 253 := (by decide); omega
  have g3 : ¬ (v.toInt32 &&& (255 : Int32)) = 254 := fun q => by rw [q] at h3; have : (254 : Int32).toInt = 254 := (by decide); omega
  rw [lesz, if_neg g1, if_neg g2, if_neg g3]
def FlQ (Z : State) (h0 : Heap) (n0 : Nat) : Option Value → Heap → List Loc → Prop := fun v h L => ∃ a f, v = some (.ref a) ∧ Fr n0 L ∧ Ext h0 h ∧ n0 ≤ a ∧ h0.size ≤ a ∧ Jar Z h a .byte 12 f
theorem ef_c_fill (m : MethodId) (x0 : Int32) : entryFrame m #[(.int x0)] 2 = mkF m 0 #[.val (.int x0), .unset] [] := by first | (simp [entryFrame, mkF, argsToLocals, Value.category]; done) | rfl
set_option maxRecDepth 65536 in
set_option maxHeartbeats 40000000 in
theorem c_fill (l : Launch) (Z : State) (a0 : Array Value) (hw : ∀ d ∈ tables_1, d.before a0 Z = true) (q : Int32) (h0 : Heap) (n0 : Nat) (Z0 : n0 ≤ h0.size)  :
    Con l Z (⟨"com/example/query_warden/querywarden/PacketLengthEncodedSizePinLaw", "filled", "(B)[B"⟩ : MethodName) method_2_code 2 (some (.array .byte)) ({ frames := 0, cells := 1, slots := 12, locals := 0 } : Room) #[(.int q)] h0 (FlQ Z h0 n0) := by
  refine Con.intro (plainFor_of_name pn_0) ?_
  intro p e s m below meth c s₁ hx hby hml hrt hlk hZ hown hnm X0 e0
  replace hown : s.vm.findClass "com/example/query_warden/querywarden/PacketLengthEncodedSizePinLaw" = some m.cls := hown
  have N0 := Fr.nil n0
  refine GoOn.cast (ef_c_fill m q) ?_
  show GoOn p e below _ (s₁.setTop (mkF m 0 #[.val (.int q), .unset] []))
  refine GoOn.step (fun t₀ k₀ => XS.bipush X0.here hx rfl (hb hby d1_0) k₀) ?_
  show GoOn p e below _ (s₁.setTop (mkF m 2 #[.val (.int q), .unset] [(.int (12 : Int32))]))
  have K0 : Keep h0 h0 [] := Keep.refl _ _
  obtain ⟨T1, h1, k1, X1, e1, E1, A1, st1⟩ := newP X0 hx hZ (hw _ (List.mem_of_getElem? (i := 4) rfl)) e0 (g := (mkF m 2 #[.val (.int q), .unset] [(.int (12 : Int32))])) rfl (hb hby d1_2) rfl (by decide) (cap := 12) (by decide) (by decide) (by decide) (by decide)
  obtain ⟨b, g1⟩ : ∃ z, z = h0.size := ⟨_, rfl⟩
  rw [← g1] at A1 st1
  have le_b : n0 ≤ b := by rw [g1]; exact Z0
  have sz_b : h0.size ≤ b := by rw [g1]; exact K0.1
  replace Z0 := Nat.le_trans Z0 E1.1
  replace K0 := K0.ext E1
  have J_b : Jar Z h1 b .byte 12 (fun _ => defaultValue .byte) := Jar.new A1 (by decide)
  refine GoOn.step st1 ?_
  show GoOn p e below _ (T1.setTop (mkF m 4 #[.val (.int q), .unset] [(.ref b)]))
  refine GoOn.step (fun t₀ k₀ => XS.astoreN X1.here hx rfl (hb hby d1_4) rfl rfl (l' := #[.val (.int q), .val (.ref b)]) rfl k₀) ?_
  show GoOn p e below _ (T1.setTop (mkF m 5 #[.val (.int q), .val (.ref b)] []))
  refine GoOn.step (fun t₀ k₀ => XS.aloadN X1.here hx rfl (hb hby d1_5) rfl rfl k₀) ?_
  show GoOn p e below _ (T1.setTop (mkF m 6 #[.val (.int q), .val (.ref b)] [(.ref b)]))
  refine GoOn.step (fun t₀ k₀ => XS.iconst X1.here hx rfl (hb hby d1_6) k₀) ?_
  show GoOn p e below _ (T1.setTop (mkF m 7 #[.val (.int q), .val (.ref b)] [(.int (0 : Int32)), (.ref b)]))
  refine GoOn.step (fun t₀ k₀ => XS.iloadN X1.here hx rfl (hb hby d1_7) rfl k₀) ?_
  show GoOn p e below _ (T1.setTop (mkF m 8 #[.val (.int q), .val (.ref b)] [(.int q), (.int (0 : Int32)), (.ref b)]))
  obtain ⟨T2, h2, X2, e2, W2, st2⟩ := kStB X1 hx hZ e1 J_b (j := (0 : Int32)) ⟨by decide, by decide⟩ (g := (mkF m 8 #[.val (.int q), .val (.ref b)] [(.int q), (.int (0 : Int32)), (.ref b)])) rfl rfl (hb hby d1_8)
  replace N0 := Fr.snoc X2 N0 le_b
  replace J_b := J_b.set W2
  replace Z0 := Nat.le_trans Z0 (Nat.le_of_eq W2.size.symm)
  replace K0 := K0.wr W2 (Or.inr sz_b)
  refine GoOn.step st2 ?_
  show GoOn p e below _ (T2.setTop (mkF m 9 #[.val (.int q), .val (.ref b)] []))
  refine GoOn.step (fun t₀ k₀ => XS.aloadN X2.here hx rfl (hb hby d1_9) rfl rfl k₀) ?_
  show GoOn p e below _ (T2.setTop (mkF m 10 #[.val (.int q), .val (.ref b)] [(.ref b)]))
  refine GoOn.step (fun t₀ k₀ => XS.iconst X2.here hx rfl (hb hby d1_10) k₀) ?_
  show GoOn p e below _ (T2.setTop (mkF m 11 #[.val (.int q), .val (.ref b)] [(.int (1 : Int32)), (.ref b)]))
  refine GoOn.step (fun t₀ k₀ => XS.iloadN X2.here hx rfl (hb hby d1_11) rfl k₀) ?_
  show GoOn p e below _ (T2.setTop (mkF m 12 #[.val (.int q), .val (.ref b)] [(.int q), (.int (1 : Int32)), (.ref b)]))
  obtain ⟨T3, h3, X3, e3, W3, st3⟩ := kStB X2 hx hZ e2 J_b (j := (1 : Int32)) ⟨by decide, by decide⟩ (g := (mkF m 12 #[.val (.int q), .val (.ref b)] [(.int q), (.int (1 : Int32)), (.ref b)])) rfl rfl (hb hby d1_12)
  replace N0 := Fr.snoc X3 N0 le_b
  replace J_b := J_b.set W3
  replace Z0 := Nat.le_trans Z0 (Nat.le_of_eq W3.size.symm)
  replace K0 := K0.wr W3 (Or.inr sz_b)
  refine GoOn.step st3 ?_
  show GoOn p e below _ (T3.setTop (mkF m 13 #[.val (.int q), .val (.ref b)] []))
  refine GoOn.step (fun t₀ k₀ => XS.aloadN X3.here hx rfl (hb hby d1_13) rfl rfl k₀) ?_
  show GoOn p e below _ (T3.setTop (mkF m 14 #[.val (.int q), .val (.ref b)] [(.ref b)]))
  refine GoOn.step (fun t₀ k₀ => XS.iconst X3.here hx rfl (hb hby d1_14) k₀) ?_
  show GoOn p e below _ (T3.setTop (mkF m 15 #[.val (.int q), .val (.ref b)] [(.int (2 : Int32)), (.ref b)]))
  refine GoOn.step (fun t₀ k₀ => XS.iloadN X3.here hx rfl (hb hby d1_15) rfl k₀) ?_
  show GoOn p e below _ (T3.setTop (mkF m 16 #[.val (.int q), .val (.ref b)] [(.int q), (.int (2 : Int32)), (.ref b)]))
  obtain ⟨T4, h4, X4, e4, W4, st4⟩ := kStB X3 hx hZ e3 J_b (j := (2 : Int32)) ⟨by decide, by decide⟩ (g := (mkF m 16 #[.val (.int q), .val (.ref b)] [(.int q), (.int (2 : Int32)), (.ref b)])) rfl rfl (hb hby d1_16)
  replace N0 := Fr.snoc X4 N0 le_b
  replace J_b := J_b.set W4
  replace Z0 := Nat.le_trans Z0 (Nat.le_of_eq W4.size.symm)
  replace K0 := K0.wr W4 (Or.inr sz_b)
  refine GoOn.step st4 ?_
  show GoOn p e below _ (T4.setTop (mkF m 17 #[.val (.int q), .val (.ref b)] []))
  refine GoOn.step (fun t₀ k₀ => XS.aloadN X4.here hx rfl (hb hby d1_17) rfl rfl k₀) ?_
  show GoOn p e below _ (T4.setTop (mkF m 18 #[.val (.int q), .val (.ref b)] [(.ref b)]))
  refine GoOn.step (fun t₀ k₀ => XS.iconst X4.here hx rfl (hb hby d1_18) k₀) ?_
  show GoOn p e below _ (T4.setTop (mkF m 19 #[.val (.int q), .val (.ref b)] [(.int (3 : Int32)), (.ref b)]))
  refine GoOn.step (fun t₀ k₀ => XS.iloadN X4.here hx rfl (hb hby d1_19) rfl k₀) ?_
  show GoOn p e below _ (T4.setTop (mkF m 20 #[.val (.int q), .val (.ref b)] [(.int q), (.int (3 : Int32)), (.ref b)]))
  obtain ⟨T5, h5, X5, e5, W5, st5⟩ := kStB X4 hx hZ e4 J_b (j := (3 : Int32)) ⟨by decide, by decide⟩ (g := (mkF m 20 #[.val (.int q), .val (.ref b)] [(.int q), (.int (3 : Int32)), (.ref b)])) rfl rfl (hb hby d1_20)
  replace N0 := Fr.snoc X5 N0 le_b
  replace J_b := J_b.set W5
  replace Z0 := Nat.le_trans Z0 (Nat.le_of_eq W5.size.symm)
  replace K0 := K0.wr W5 (Or.inr sz_b)
  refine GoOn.step st5 ?_
  show GoOn p e below _ (T5.setTop (mkF m 21 #[.val (.int q), .val (.ref b)] []))
  refine GoOn.step (fun t₀ k₀ => XS.aloadN X5.here hx rfl (hb hby d1_21) rfl rfl k₀) ?_
  show GoOn p e below _ (T5.setTop (mkF m 22 #[.val (.int q), .val (.ref b)] [(.ref b)]))
  refine GoOn.step (fun t₀ k₀ => XS.iconst X5.here hx rfl (hb hby d1_22) k₀) ?_
  show GoOn p e below _ (T5.setTop (mkF m 23 #[.val (.int q), .val (.ref b)] [(.int (4 : Int32)), (.ref b)]))
  refine GoOn.step (fun t₀ k₀ => XS.iloadN X5.here hx rfl (hb hby d1_23) rfl k₀) ?_
  show GoOn p e below _ (T5.setTop (mkF m 24 #[.val (.int q), .val (.ref b)] [(.int q), (.int (4 : Int32)), (.ref b)]))
  obtain ⟨T6, h6, X6, e6, W6, st6⟩ := kStB X5 hx hZ e5 J_b (j := (4 : Int32)) ⟨by decide, by decide⟩ (g := (mkF m 24 #[.val (.int q), .val (.ref b)] [(.int q), (.int (4 : Int32)), (.ref b)])) rfl rfl (hb hby d1_24)
  replace N0 := Fr.snoc X6 N0 le_b
  replace J_b := J_b.set W6
  replace Z0 := Nat.le_trans Z0 (Nat.le_of_eq W6.size.symm)
  replace K0 := K0.wr W6 (Or.inr sz_b)
  refine GoOn.step st6 ?_
  show GoOn p e below _ (T6.setTop (mkF m 25 #[.val (.int q), .val (.ref b)] []))
  refine GoOn.step (fun t₀ k₀ => XS.aloadN X6.here hx rfl (hb hby d1_25) rfl rfl k₀) ?_
  show GoOn p e below _ (T6.setTop (mkF m 26 #[.val (.int q), .val (.ref b)] [(.ref b)]))
  refine GoOn.step (fun t₀ k₀ => XS.iconst X6.here hx rfl (hb hby d1_26) k₀) ?_
  show GoOn p e below _ (T6.setTop (mkF m 27 #[.val (.int q), .val (.ref b)] [(.int (5 : Int32)), (.ref b)]))
  refine GoOn.step (fun t₀ k₀ => XS.iloadN X6.here hx rfl (hb hby d1_27) rfl k₀) ?_
  show GoOn p e below _ (T6.setTop (mkF m 28 #[.val (.int q), .val (.ref b)] [(.int q), (.int (5 : Int32)), (.ref b)]))
  obtain ⟨T7, h7, X7, e7, W7, st7⟩ := kStB X6 hx hZ e6 J_b (j := (5 : Int32)) ⟨by decide, by decide⟩ (g := (mkF m 28 #[.val (.int q), .val (.ref b)] [(.int q), (.int (5 : Int32)), (.ref b)])) rfl rfl (hb hby d1_28)
  replace N0 := Fr.snoc X7 N0 le_b
  replace J_b := J_b.set W7
  replace Z0 := Nat.le_trans Z0 (Nat.le_of_eq W7.size.symm)
  replace K0 := K0.wr W7 (Or.inr sz_b)
  refine GoOn.step st7 ?_
  show GoOn p e below _ (T7.setTop (mkF m 29 #[.val (.int q), .val (.ref b)] []))
  refine GoOn.step (fun t₀ k₀ => XS.aloadN X7.here hx rfl (hb hby d1_29) rfl rfl k₀) ?_
  show GoOn p e below _ (T7.setTop (mkF m 30 #[.val (.int q), .val (.ref b)] [(.ref b)]))
  refine GoOn.step (fun t₀ k₀ => XS.bipush X7.here hx rfl (hb hby d1_30) k₀) ?_
  show GoOn p e below _ (T7.setTop (mkF m 32 #[.val (.int q), .val (.ref b)] [(.int (6 : Int32)), (.ref b)]))
  refine GoOn.step (fun t₀ k₀ => XS.iloadN X7.here hx rfl (hb hby d1_32) rfl k₀) ?_
  show GoOn p e below _ (T7.setTop (mkF m 33 #[.val (.int q), .val (.ref b)] [(.int q), (.int (6 : Int32)), (.ref b)]))
  obtain ⟨T8, h8, X8, e8, W8, st8⟩ := kStB X7 hx hZ e7 J_b (j := (6 : Int32)) ⟨by decide, by decide⟩ (g := (mkF m 33 #[.val (.int q), .val (.ref b)] [(.int q), (.int (6 : Int32)), (.ref b)])) rfl rfl (hb hby d1_33)
  replace N0 := Fr.snoc X8 N0 le_b
  replace J_b := J_b.set W8
  replace Z0 := Nat.le_trans Z0 (Nat.le_of_eq W8.size.symm)
  replace K0 := K0.wr W8 (Or.inr sz_b)
  refine GoOn.step st8 ?_
  show GoOn p e below _ (T8.setTop (mkF m 34 #[.val (.int q), .val (.ref b)] []))
  refine GoOn.step (fun t₀ k₀ => XS.aloadN X8.here hx rfl (hb hby d1_34) rfl rfl k₀) ?_
  show GoOn p e below _ (T8.setTop (mkF m 35 #[.val (.int q), .val (.ref b)] [(.ref b)]))
  refine GoOn.step (fun t₀ k₀ => XS.bipush X8.here hx rfl (hb hby d1_35) k₀) ?_
  show GoOn p e below _ (T8.setTop (mkF m 37 #[.val (.int q), .val (.ref b)] [(.int (7 : Int32)), (.ref b)]))
  refine GoOn.step (fun t₀ k₀ => XS.iloadN X8.here hx rfl (hb hby d1_37) rfl k₀) ?_
  show GoOn p e below _ (T8.setTop (mkF m 38 #[.val (.int q), .val (.ref b)] [(.int q), (.int (7 : Int32)), (.ref b)]))
  obtain ⟨T9, h9, X9, e9, W9, st9⟩ := kStB X8 hx hZ e8 J_b (j := (7 : Int32)) ⟨by decide, by decide⟩ (g := (mkF m 38 #[.val (.int q), .val (.ref b)] [(.int q), (.int (7 : Int32)), (.ref b)])) rfl rfl (hb hby d1_38)
  replace N0 := Fr.snoc X9 N0 le_b
  replace J_b := J_b.set W9
  replace Z0 := Nat.le_trans Z0 (Nat.le_of_eq W9.size.symm)
  replace K0 := K0.wr W9 (Or.inr sz_b)
  refine GoOn.step st9 ?_
  show GoOn p e below _ (T9.setTop (mkF m 39 #[.val (.int q), .val (.ref b)] []))
  refine GoOn.step (fun t₀ k₀ => XS.aloadN X9.here hx rfl (hb hby d1_39) rfl rfl k₀) ?_
  show GoOn p e below _ (T9.setTop (mkF m 40 #[.val (.int q), .val (.ref b)] [(.ref b)]))
  refine GoOn.step (fun t₀ k₀ => XS.bipush X9.here hx rfl (hb hby d1_40) k₀) ?_
  show GoOn p e below _ (T9.setTop (mkF m 42 #[.val (.int q), .val (.ref b)] [(.int (8 : Int32)), (.ref b)]))
  refine GoOn.step (fun t₀ k₀ => XS.iloadN X9.here hx rfl (hb hby d1_42) rfl k₀) ?_
  show GoOn p e below _ (T9.setTop (mkF m 43 #[.val (.int q), .val (.ref b)] [(.int q), (.int (8 : Int32)), (.ref b)]))
  obtain ⟨T10, h10, X10, e10, W10, st10⟩ := kStB X9 hx hZ e9 J_b (j := (8 : Int32)) ⟨by decide, by decide⟩ (g := (mkF m 43 #[.val (.int q), .val (.ref b)] [(.int q), (.int (8 : Int32)), (.ref b)])) rfl rfl (hb hby d1_43)
  replace N0 := Fr.snoc X10 N0 le_b
  replace J_b := J_b.set W10
  replace Z0 := Nat.le_trans Z0 (Nat.le_of_eq W10.size.symm)
  replace K0 := K0.wr W10 (Or.inr sz_b)
  refine GoOn.step st10 ?_
  show GoOn p e below _ (T10.setTop (mkF m 44 #[.val (.int q), .val (.ref b)] []))
  refine GoOn.step (fun t₀ k₀ => XS.aloadN X10.here hx rfl (hb hby d1_44) rfl rfl k₀) ?_
  show GoOn p e below _ (T10.setTop (mkF m 45 #[.val (.int q), .val (.ref b)] [(.ref b)]))
  refine GoOn.step (fun t₀ k₀ => XS.bipush X10.here hx rfl (hb hby d1_45) k₀) ?_
  show GoOn p e below _ (T10.setTop (mkF m 47 #[.val (.int q), .val (.ref b)] [(.int (9 : Int32)), (.ref b)]))
  refine GoOn.step (fun t₀ k₀ => XS.iloadN X10.here hx rfl (hb hby d1_47) rfl k₀) ?_
  show GoOn p e below _ (T10.setTop (mkF m 48 #[.val (.int q), .val (.ref b)] [(.int q), (.int (9 : Int32)), (.ref b)]))
  obtain ⟨T11, h11, X11, e11, W11, st11⟩ := kStB X10 hx hZ e10 J_b (j := (9 : Int32)) ⟨by decide, by decide⟩ (g := (mkF m 48 #[.val (.int q), .val (.ref b)] [(.int q), (.int (9 : Int32)), (.ref b)])) rfl rfl (hb hby d1_48)
  replace N0 := Fr.snoc X11 N0 le_b
  replace J_b := J_b.set W11
  replace Z0 := Nat.le_trans Z0 (Nat.le_of_eq W11.size.symm)
  replace K0 := K0.wr W11 (Or.inr sz_b)
  refine GoOn.step st11 ?_
  show GoOn p e below _ (T11.setTop (mkF m 49 #[.val (.int q), .val (.ref b)] []))
  refine GoOn.step (fun t₀ k₀ => XS.aloadN X11.here hx rfl (hb hby d1_49) rfl rfl k₀) ?_
  show GoOn p e below _ (T11.setTop (mkF m 50 #[.val (.int q), .val (.ref b)] [(.ref b)]))
  refine GoOn.step (fun t₀ k₀ => XS.bipush X11.here hx rfl (hb hby d1_50) k₀) ?_
  show GoOn p e below _ (T11.setTop (mkF m 52 #[.val (.int q), .val (.ref b)] [(.int (10 : Int32)), (.ref b)]))
  refine GoOn.step (fun t₀ k₀ => XS.iloadN X11.here hx rfl (hb hby d1_52) rfl k₀) ?_
  show GoOn p e below _ (T11.setTop (mkF m 53 #[.val (.int q), .val (.ref b)] [(.int q), (.int (10 : Int32)), (.ref b)]))
  obtain ⟨T12, h12, X12, e12, W12, st12⟩ := kStB X11 hx hZ e11 J_b (j := (10 : Int32)) ⟨by decide, by decide⟩ (g := (mkF m 53 #[.val (.int q), .val (.ref b)] [(.int q), (.int (10 : Int32)), (.ref b)])) rfl rfl (hb hby d1_53)
  replace N0 := Fr.snoc X12 N0 le_b
  replace J_b := J_b.set W12
  replace Z0 := Nat.le_trans Z0 (Nat.le_of_eq W12.size.symm)
  replace K0 := K0.wr W12 (Or.inr sz_b)
  refine GoOn.step st12 ?_
  show GoOn p e below _ (T12.setTop (mkF m 54 #[.val (.int q), .val (.ref b)] []))
  refine GoOn.step (fun t₀ k₀ => XS.aloadN X12.here hx rfl (hb hby d1_54) rfl rfl k₀) ?_
  show GoOn p e below _ (T12.setTop (mkF m 55 #[.val (.int q), .val (.ref b)] [(.ref b)]))
  refine GoOn.step (fun t₀ k₀ => XS.bipush X12.here hx rfl (hb hby d1_55) k₀) ?_
  show GoOn p e below _ (T12.setTop (mkF m 57 #[.val (.int q), .val (.ref b)] [(.int (11 : Int32)), (.ref b)]))
  refine GoOn.step (fun t₀ k₀ => XS.iloadN X12.here hx rfl (hb hby d1_57) rfl k₀) ?_
  show GoOn p e below _ (T12.setTop (mkF m 58 #[.val (.int q), .val (.ref b)] [(.int q), (.int (11 : Int32)), (.ref b)]))
  obtain ⟨T13, h13, X13, e13, W13, st13⟩ := kStB X12 hx hZ e12 J_b (j := (11 : Int32)) ⟨by decide, by decide⟩ (g := (mkF m 58 #[.val (.int q), .val (.ref b)] [(.int q), (.int (11 : Int32)), (.ref b)])) rfl rfl (hb hby d1_58)
  replace N0 := Fr.snoc X13 N0 le_b
  replace J_b := J_b.set W13
  replace Z0 := Nat.le_trans Z0 (Nat.le_of_eq W13.size.symm)
  replace K0 := K0.wr W13 (Or.inr sz_b)
  refine GoOn.step st13 ?_
  show GoOn p e below _ (T13.setTop (mkF m 59 #[.val (.int q), .val (.ref b)] []))
  refine GoOn.step (fun t₀ k₀ => XS.aloadN X13.here hx rfl (hb hby d1_59) rfl rfl k₀) ?_
  show GoOn p e below _ (T13.setTop (mkF m 60 #[.val (.int q), .val (.ref b)] [(.ref b)]))
  exact GoOn.retR X13 hx hrt rfl hlk rfl (hb hby d1_60) (by decide) (by decide) (by first | exact ⟨b, _, rfl, N0, ⟨K0.1, fun x c q => K0.2.1 x c q nin0⟩, le_b, sz_b, J_b⟩ | (rw [e13]; exact ⟨b, _, rfl, N0, ⟨K0.1, fun x c q => K0.2.1 x c q nin0⟩, le_b, sz_b, J_b⟩))
theorem ef_c_les (m : MethodId) (x0 : Addr) (x1 : Int32) : entryFrame m #[(.ref x0), (.int x1)] 2 = mkF m 0 #[.val (.ref x0), .val (.int x1)] [] := by first | (simp [entryFrame, mkF, argsToLocals, Value.category]; done) | rfl
set_option maxRecDepth 65536 in
set_option maxHeartbeats 40000000 in
theorem c_les (l : Launch) (Z : State) (a0 : Array Value) (hw : ∀ d ∈ tables_1, d.before a0 Z = true) (a : Addr) (o bb : Int32) (f : Nat → Value) (h0 : Heap) (F : Jar Z h0 a .byte 12 f) (ho : 0 ≤ o.toInt ∧ o.toInt < (12 : Nat)) (hv : f o.toNatClampNeg = .int bb) :
    Con l Z (⟨"com/example/query_warden/querywarden/Packet", "lengthEncodedSize", "([BI)I"⟩ : MethodName) prog_22_method_10_code 2 (some .int) ({ frames := 0, cells := 0, slots := 0, locals := 0 } : Room) #[(.ref a), (.int o)] h0 (PQ (some (.int (lesz (bb &&& (255 : Int32))))) h0) := by
  refine Con.intro (plainFor_of_name pn_1) ?_
  intro p e s m below meth c s₁ hx hby hml hrt hlk hZ hown hnm X0 e0
  replace hown : s.vm.findClass "com/example/query_warden/querywarden/Packet" = some m.cls := hown
  refine GoOn.cast (ef_c_les m a o) ?_
  show GoOn p e below _ (s₁.setTop (mkF m 0 #[.val (.ref a), .val (.int o)] []))
  refine GoOn.step (fun t₀ k₀ => XS.aloadN X0.here hx rfl (hb hby d2_0) rfl rfl k₀) ?_
  show GoOn p e below _ (s₁.setTop (mkF m 1 #[.val (.ref a), .val (.int o)] [(.ref a)]))
  refine GoOn.step (fun t₀ k₀ => XS.iloadN X0.here hx rfl (hb hby d2_1) rfl k₀) ?_
  show GoOn p e below _ (s₁.setTop (mkF m 2 #[.val (.ref a), .val (.int o)] [(.int o), (.ref a)]))
  refine GoOn.step (fun t₀ k₀ => kLdB X0 hx hZ e0 F (j := o) (v := (.int bb)) ho hv (g := (mkF m 2 #[.val (.ref a), .val (.int o)] [(.int o), (.ref a)])) rfl rfl (hb hby d2_2) t₀ k₀) ?_
  show GoOn p e below _ (s₁.setTop (mkF m 3 #[.val (.ref a), .val (.int o)] [(.int bb)]))
  refine GoOn.step (fun t₀ k₀ => XS.sipush X0.here hx rfl (hb hby d2_3) k₀) ?_
  show GoOn p e below _ (s₁.setTop (mkF m 6 #[.val (.ref a), .val (.int o)] [(.int (255 : Int32)), (.int bb)]))
  refine GoOn.step (fun t₀ k₀ => XS.iand X0.here hx rfl (hb hby d2_6) rfl k₀) ?_
  show GoOn p e below _ (s₁.setTop (mkF m 7 #[.val (.ref a), .val (.int o)] [(.int (bb &&& (255 : Int32)))]))
  generalize hu : (bb &&& (255 : Int32)) = u
  have huI := congrArg Int32.toInt hu
  by_cases hc0 : u = 252
  · subst hc0
    refine GoOn.step (fun t₀ k₀ => XS.tswIn X0.here hx rfl (o := 25) (pc0 := 7) (pc' := 32) rfl (hb hby d2_7) rfl (by decide) (by decide) (by decide) (by decide) k₀) ?_
    show GoOn p e below _ (s₁.setTop (mkF m 32 #[.val (.ref a), .val (.int o)] []))
    refine GoOn.step (fun t₀ k₀ => XS.iconst X0.here hx rfl (hb hby d2_32) k₀) ?_
    show GoOn p e below _ (s₁.setTop (mkF m 33 #[.val (.ref a), .val (.int o)] [(.int (3 : Int32))]))
    refine GoOn.step (fun t₀ k₀ => XS.goto X0.here hx rfl (pc0 := 33) (pc' := 46) rfl (hb hby d2_33) (by decide) (by decide) k₀) ?_
    show GoOn p e below _ (s₁.setTop (mkF m 46 #[.val (.ref a), .val (.int o)] [(.int (3 : Int32))]))
    exact GoOn.retI X0 hx hrt hlk (hb hby d2_46) (by decide) (by decide) (by first | exact ⟨rfl, rfl, rfl⟩ | (rw [e0]; exact ⟨rfl, rfl, rfl⟩))
  · by_cases hc1 : u = 253
    · subst hc1
      refine GoOn.step (fun t₀ k₀ => XS.tswIn X0.here hx rfl (o := 29) (pc0 := 7) (pc' := 36) rfl (hb hby d2_7) rfl (by decide) (by decide) (by decide) (by decide) k₀) ?_
      show GoOn p e below _ (s₁.setTop (mkF m 36 #[.val (.ref a), .val (.int o)] []))
      refine GoOn.step (fun t₀ k₀ => XS.iconst X0.here hx rfl (hb hby d2_36) k₀) ?_
      show GoOn p e below _ (s₁.setTop (mkF m 37 #[.val (.ref a), .val (.int o)] [(.int (4 : Int32))]))
      refine GoOn.step (fun t₀ k₀ => XS.goto X0.here hx rfl (pc0 := 37) (pc' := 46) rfl (hb hby d2_37) (by decide) (by decide) k₀) ?_
      show GoOn p e below _ (s₁.setTop (mkF m 46 #[.val (.ref a), .val (.int o)] [(.int (4 : Int32))]))
      exact GoOn.retI X0 hx hrt hlk (hb hby d2_46) (by decide) (by decide) (by first | exact ⟨rfl, rfl, rfl⟩ | (rw [e0]; exact ⟨rfl, rfl, rfl⟩))
    · by_cases hc2 : u = 254
      · subst hc2
        refine GoOn.step (fun t₀ k₀ => XS.tswIn X0.here hx rfl (o := 33) (pc0 := 7) (pc' := 40) rfl (hb hby d2_7) rfl (by decide) (by decide) (by decide) (by decide) k₀) ?_
        show GoOn p e below _ (s₁.setTop (mkF m 40 #[.val (.ref a), .val (.int o)] []))
        refine GoOn.step (fun t₀ k₀ => XS.bipush X0.here hx rfl (hb hby d2_40) k₀) ?_
        show GoOn p e below _ (s₁.setTop (mkF m 42 #[.val (.ref a), .val (.int o)] [(.int (9 : Int32))]))
        refine GoOn.step (fun t₀ k₀ => XS.goto X0.here hx rfl (pc0 := 42) (pc' := 46) rfl (hb hby d2_42) (by decide) (by decide) k₀) ?_
        show GoOn p e below _ (s₁.setTop (mkF m 46 #[.val (.ref a), .val (.int o)] [(.int (9 : Int32))]))
        exact GoOn.retI X0 hx hrt hlk (hb hby d2_46) (by decide) (by decide) (by first | exact ⟨rfl, rfl, rfl⟩ | (rw [e0]; exact ⟨rfl, rfl, rfl⟩))
      · have ko : u.toInt < 252 ∨ u.toInt > 254 := by
          have c0 : ¬ u.toInt = 252 := fun q => hc0 (Int32.toInt_inj.mp q)
          have c1 : ¬ u.toInt = 253 := fun q => hc1 (Int32.toInt_inj.mp q)
          have c2 : ¬ u.toInt = 254 := fun q => hc2 (Int32.toInt_inj.mp q)
          omega
        refine GoOn.step (fun t₀ k₀ => XS.tswOut X0.here hx rfl (pc0 := 7) (pc' := 45) rfl (hb hby d2_7) rfl ko (by decide) (by decide) k₀) ?_
        show GoOn p e below _ (s₁.setTop (mkF m 45 #[.val (.ref a), .val (.int o)] []))
        refine GoOn.step (fun t₀ k₀ => XS.iconst X0.here hx rfl (hb hby d2_45) k₀) ?_
        show GoOn p e below _ (s₁.setTop (mkF m 46 #[.val (.ref a), .val (.int o)] [(.int (1 : Int32))]))
        exact GoOn.retI X0 hx hrt hlk (hb hby d2_46) (by decide) (by decide) (by first | exact ⟨by rw [lesz, if_neg hc0, if_neg hc1, if_neg hc2], rfl, rfl⟩ | (rw [e0]; exact ⟨by rw [lesz, if_neg hc0, if_neg hc1, if_neg hc2], rfl, rfl⟩))
theorem ef_law_ok (m : MethodId) (x0 : Int32) (x1 : Int32) (x2 : Int32) (x3 : Int64) : entryFrame m #[(.int x0), (.int x1), (.int x2), (.long x3)] maxLocals = mkF m 0 #[.val (.int x0), .val (.int x1), .val (.int x2), .val (.long x3), .second, .unset, .unset, .unset, .unset, .unset, .unset, .unset, .unset, .unset, .unset] [] := by first | (simp [entryFrame, mkF, argsToLocals, Value.category, maxLocals]; done) | rfl
set_option maxRecDepth 65536 in
set_option maxHeartbeats 40000000 in
theorem law_ok (l : Launch) (Z : State) (a0 : Array Value) (hw : ∀ d ∈ tables_1, d.before a0 Z = true) (q0 q1 q2 : Int32) (q3 : Int64) (h0 : Heap) (n0 : Nat) (Z0 : n0 ≤ h0.size)  :
    Con l Z x code maxLocals ret room_1 #[(.int q0), (.int q1), (.int q2), (.long q3)] h0 (LQ n0) := by
  refine Con.intro (plainFor_of_name pn_0) ?_
  intro p e s m below meth c s₁ hx hby hml hrt hlk hZ hown hnm X0 e0
  replace hown : s.vm.findClass "com/example/query_warden/querywarden/PacketLengthEncodedSizePinLaw" = some m.cls := hown
  have N0 := Fr.nil n0
  refine GoOn.cast (ef_law_ok m q0 q1 q2 q3) ?_
  show GoOn p e below _ (s₁.setTop (mkF m 0 #[.val (.int q0), .val (.int q1), .val (.int q2), .val (.long q3), .second, .unset, .unset, .unset, .unset, .unset, .unset, .unset, .unset, .unset, .unset] []))
  refine GoOn.step (fun t₀ k₀ => XS.iloadN X0.here hx rfl (hb hby at_0) rfl k₀) ?_
  show GoOn p e below _ (s₁.setTop (mkF m 1 #[.val (.int q0), .val (.int q1), .val (.int q2), .val (.long q3), .second, .unset, .unset, .unset, .unset, .unset, .unset, .unset, .unset, .unset, .unset] [(.int q1)]))
  refine GoOn.step (fun t₀ k₀ => XS.iconst X0.here hx rfl (hb hby at_1) k₀) ?_
  show GoOn p e below _ (s₁.setTop (mkF m 2 #[.val (.int q0), .val (.int q1), .val (.int q2), .val (.long q3), .second, .unset, .unset, .unset, .unset, .unset, .unset, .unset, .unset, .unset, .unset] [(.int (3 : Int32)), (.int q1)]))
  refine GoOn.step (fun t₀ k₀ => XS.iand X0.here hx rfl (hb hby at_2) rfl k₀) ?_
  show GoOn p e below _ (s₁.setTop (mkF m 3 #[.val (.int q0), .val (.int q1), .val (.int q2), .val (.long q3), .second, .unset, .unset, .unset, .unset, .unset, .unset, .unset, .unset, .unset, .unset] [(.int (q1 &&& (3 : Int32)))]))
  have hm : (q1 &&& (3 : Int32)).toInt = q1.toInt % 4 := c_mask q1 3 2 (by decide) (by decide)
  generalize hv : (q1 &&& (3 : Int32)) = o
  have hvI := congrArg Int32.toInt hv
  have ho : 0 ≤ o.toInt ∧ o.toInt ≤ 3 := by omega
  have ho' : 0 ≤ o.toInt ∧ o.toInt < (12 : Nat) := by omega
  refine GoOn.step (fun t₀ k₀ => XS.istore X0.here hx rfl (hb hby at_3) rfl (l' := #[.val (.int q0), .val (.int q1), .val (.int q2), .val (.long q3), .second, .val (.int o), .unset, .unset, .unset, .unset, .unset, .unset, .unset, .unset, .unset]) rfl k₀) ?_
  show GoOn p e below _ (s₁.setTop (mkF m 5 #[.val (.int q0), .val (.int q1), .val (.int q2), .val (.long q3), .second, .val (.int o), .unset, .unset, .unset, .unset, .unset, .unset, .unset, .unset, .unset] []))
  refine GoOn.step (fun t₀ k₀ => XS.iloadN X0.here hx rfl (hb hby at_5) rfl k₀) ?_
  show GoOn p e below _ (s₁.setTop (mkF m 6 #[.val (.int q0), .val (.int q1), .val (.int q2), .val (.long q3), .second, .val (.int o), .unset, .unset, .unset, .unset, .unset, .unset, .unset, .unset, .unset] [(.int q2)]))
  refine GoOn.step (fun t₀ k₀ => XS.i2b X0.here hx rfl (hb hby at_6) rfl k₀) ?_
  show GoOn p e below _ (s₁.setTop (mkF m 7 #[.val (.int q0), .val (.int q1), .val (.int q2), .val (.long q3), .second, .val (.int o), .unset, .unset, .unset, .unset, .unset, .unset, .unset, .unset, .unset] [(.int (q2.toInt8.toInt32))]))
  generalize hfl : (q2.toInt8.toInt32) = fl
  have hflI := congrArg Int32.toInt hfl
  refine GoOn.step (fun t₀ k₀ => XS.istore X0.here hx rfl (hb hby at_7) rfl (l' := #[.val (.int q0), .val (.int q1), .val (.int q2), .val (.long q3), .second, .val (.int o), .val (.int fl), .unset, .unset, .unset, .unset, .unset, .unset, .unset, .unset]) rfl k₀) ?_
  show GoOn p e below _ (s₁.setTop (mkF m 9 #[.val (.int q0), .val (.int q1), .val (.int q2), .val (.long q3), .second, .val (.int o), .val (.int fl), .unset, .unset, .unset, .unset, .unset, .unset, .unset, .unset] []))
  refine GoOn.step (fun t₀ k₀ => XS.iload X0.here hx rfl (hb hby at_9) rfl k₀) ?_
  show GoOn p e below _ (s₁.setTop (mkF m 11 #[.val (.int q0), .val (.int q1), .val (.int q2), .val (.long q3), .second, .val (.int o), .val (.int fl), .unset, .unset, .unset, .unset, .unset, .unset, .unset, .unset] [(.int fl)]))
  obtain ⟨_, T14, L14, X14, hQ14, st14⟩ := kCallS X0 hx hZ (argsL := [(.int fl)]) (rest := []) (c_fill l Z a0 hw fl h0 n0 Z0) hown (hw _ (List.mem_of_getElem? (i := 0) rfl)) (hw _ (List.mem_of_getElem? (i := 1) rfl)) (hw _ (List.mem_of_getElem? (i := 2) rfl)) (hw _ (List.mem_of_getElem? (i := 3) rfl)) (by decide) e0 (g := (mkF m 11 #[.val (.int q0), .val (.int q1), .val (.int q2), .val (.long q3), .second, .val (.int o), .val (.int fl), .unset, .unset, .unset, .unset, .unset, .unset, .unset, .unset] [(.int fl)])) rfl (by rw [hml]; rfl) (lenOf pd_0 rfl) rfl (W := 0) (by show 2 * 0 + _ ≤ _; exact Nat.le_of_eq rfl) (hb hby at_11) (by decide) (by decide) (by decide) (by decide)
  obtain ⟨a, f_a, rfl, N14, E14, l_a, s_a, J_a⟩ := hQ14
  replace N0 := Fr.app N0 N14
  replace Z0 := Nat.le_trans Z0 E14.1
  refine GoOn.step st14 ?_
  show GoOn p e below _ (T14.setTop (mkF m 14 #[.val (.int q0), .val (.int q1), .val (.int q2), .val (.long q3), .second, .val (.int o), .val (.int fl), .unset, .unset, .unset, .unset, .unset, .unset, .unset, .unset] [(.ref a)]))
  refine GoOn.step (fun t₀ k₀ => XS.astore X14.here hx rfl (hb hby at_14) rfl rfl (l' := #[.val (.int q0), .val (.int q1), .val (.int q2), .val (.long q3), .second, .val (.int o), .val (.int fl), .val (.ref a), .unset, .unset, .unset, .unset, .unset, .unset, .unset]) rfl k₀) ?_
  show GoOn p e below _ (T14.setTop (mkF m 16 #[.val (.int q0), .val (.int q1), .val (.int q2), .val (.long q3), .second, .val (.int o), .val (.int fl), .val (.ref a), .unset, .unset, .unset, .unset, .unset, .unset, .unset] []))
  refine GoOn.step (fun t₀ k₀ => XS.aload X14.here hx rfl (hb hby at_16) rfl rfl k₀) ?_
  show GoOn p e below _ (T14.setTop (mkF m 18 #[.val (.int q0), .val (.int q1), .val (.int q2), .val (.long q3), .second, .val (.int o), .val (.int fl), .val (.ref a), .unset, .unset, .unset, .unset, .unset, .unset, .unset] [(.ref a)]))
  refine GoOn.step (fun t₀ k₀ => XS.iload X14.here hx rfl (hb hby at_18) rfl k₀) ?_
  show GoOn p e below _ (T14.setTop (mkF m 20 #[.val (.int q0), .val (.int q1), .val (.int q2), .val (.long q3), .second, .val (.int o), .val (.int fl), .val (.ref a), .unset, .unset, .unset, .unset, .unset, .unset, .unset] [(.int o), (.ref a)]))
  refine GoOn.step (fun t₀ k₀ => XS.iloadN X14.here hx rfl (hb hby at_20) rfl k₀) ?_
  show GoOn p e below _ (T14.setTop (mkF m 21 #[.val (.int q0), .val (.int q1), .val (.int q2), .val (.long q3), .second, .val (.int o), .val (.int fl), .val (.ref a), .unset, .unset, .unset, .unset, .unset, .unset, .unset] [(.int q0), (.int o), (.ref a)]))
  refine GoOn.step (fun t₀ k₀ => XS.i2b X14.here hx rfl (hb hby at_21) rfl k₀) ?_
  show GoOn p e below _ (T14.setTop (mkF m 22 #[.val (.int q0), .val (.int q1), .val (.int q2), .val (.long q3), .second, .val (.int o), .val (.int fl), .val (.ref a), .unset, .unset, .unset, .unset, .unset, .unset, .unset] [(.int (q0.toInt8.toInt32)), (.int o), (.ref a)]))
  obtain ⟨T15, h15, X15, e15, W15, st15⟩ := kStB X14 hx hZ rfl J_a (j := o) ho' (g := (mkF m 22 #[.val (.int q0), .val (.int q1), .val (.int q2), .val (.long q3), .second, .val (.int o), .val (.int fl), .val (.ref a), .unset, .unset, .unset, .unset, .unset, .unset, .unset] [(.int (q0.toInt8.toInt32)), (.int o), (.ref a)])) rfl rfl (hb hby at_22)
  replace N0 := Fr.snoc X15 N0 l_a
  replace J_a := J_a.set W15
  replace Z0 := Nat.le_trans Z0 (Nat.le_of_eq W15.size.symm)
  refine GoOn.step st15 ?_
  show GoOn p e below _ (T15.setTop (mkF m 23 #[.val (.int q0), .val (.int q1), .val (.int q2), .val (.long q3), .second, .val (.int o), .val (.int fl), .val (.ref a), .unset, .unset, .unset, .unset, .unset, .unset, .unset] []))
  obtain ⟨f_a, J_a, hf_a⟩ : ∃ f, Jar Z h15 a .byte 12 f ∧ f o.toNatClampNeg = .int ((q0.toInt8.toInt32).toInt8.toInt32) := ⟨_, J_a, if_pos rfl⟩
  refine GoOn.step (fun t₀ k₀ => XS.iloadN X15.here hx rfl (hb hby at_23) rfl k₀) ?_
  show GoOn p e below _ (T15.setTop (mkF m 24 #[.val (.int q0), .val (.int q1), .val (.int q2), .val (.long q3), .second, .val (.int o), .val (.int fl), .val (.ref a), .unset, .unset, .unset, .unset, .unset, .unset, .unset] [(.int q0)]))
  refine GoOn.step (fun t₀ k₀ => XS.sipush X15.here hx rfl (hb hby at_24) k₀) ?_
  show GoOn p e below _ (T15.setTop (mkF m 27 #[.val (.int q0), .val (.int q1), .val (.int q2), .val (.long q3), .second, .val (.int o), .val (.int fl), .val (.ref a), .unset, .unset, .unset, .unset, .unset, .unset, .unset] [(.int (255 : Int32)), (.int q0)]))
  refine GoOn.step (fun t₀ k₀ => XS.iand X15.here hx rfl (hb hby at_27) rfl k₀) ?_
  show GoOn p e below _ (T15.setTop (mkF m 28 #[.val (.int q0), .val (.int q1), .val (.int q2), .val (.long q3), .second, .val (.int o), .val (.int fl), .val (.ref a), .unset, .unset, .unset, .unset, .unset, .unset, .unset] [(.int (q0 &&& (255 : Int32)))]))
  generalize hu : (q0 &&& (255 : Int32)) = u
  have huI := congrArg Int32.toInt hu
  refine GoOn.step (fun t₀ k₀ => XS.istore X15.here hx rfl (hb hby at_28) rfl (l' := #[.val (.int q0), .val (.int q1), .val (.int q2), .val (.long q3), .second, .val (.int o), .val (.int fl), .val (.ref a), .val (.int u), .unset, .unset, .unset, .unset, .unset, .unset]) rfl k₀) ?_
  show GoOn p e below _ (T15.setTop (mkF m 30 #[.val (.int q0), .val (.int q1), .val (.int q2), .val (.long q3), .second, .val (.int o), .val (.int fl), .val (.ref a), .val (.int u), .unset, .unset, .unset, .unset, .unset, .unset] []))
  refine GoOn.step (fun t₀ k₀ => XS.iload X15.here hx rfl (hb hby at_30) rfl k₀) ?_
  show GoOn p e below _ (T15.setTop (mkF m 32 #[.val (.int q0), .val (.int q1), .val (.int q2), .val (.long q3), .second, .val (.int o), .val (.int fl), .val (.ref a), .val (.int u), .unset, .unset, .unset, .unset, .unset, .unset] [(.int u)]))
  refine GoOn.step (fun t₀ k₀ => XS.sipush X15.here hx rfl (hb hby at_32) k₀) ?_
  show GoOn p e below _ (T15.setTop (mkF m 35 #[.val (.int q0), .val (.int q1), .val (.int q2), .val (.long q3), .second, .val (.int o), .val (.int fl), .val (.ref a), .val (.int u), .unset, .unset, .unset, .unset, .unset, .unset] [(.int (252 : Int32)), (.int u)]))
  have J : ∀ (v9 : Int32) (_ : v9 = lesz u), GoOn p e below (EndQ s room_1 (LQ n0)) (T15.setTop (mkF m 68 #[.val (.int q0), .val (.int q1), .val (.int q2), .val (.long q3), .second, .val (.int o), .val (.int fl), .val (.ref a), .val (.int u), .unset, .unset, .unset, .unset, .unset, .unset] [(.int v9)])) := by
    intro v9 h9
    refine GoOn.step (fun t₀ k₀ => XS.istore X15.here hx rfl (hb hby at_68) rfl (l' := #[.val (.int q0), .val (.int q1), .val (.int q2), .val (.long q3), .second, .val (.int o), .val (.int fl), .val (.ref a), .val (.int u), .val (.int v9), .unset, .unset, .unset, .unset, .unset]) rfl k₀) ?_
    show GoOn p e below _ (T15.setTop (mkF m 70 #[.val (.int q0), .val (.int q1), .val (.int q2), .val (.long q3), .second, .val (.int o), .val (.int fl), .val (.ref a), .val (.int u), .val (.int v9), .unset, .unset, .unset, .unset, .unset] []))
    refine GoOn.step (fun t₀ k₀ => XS.aload X15.here hx rfl (hb hby at_70) rfl rfl k₀) ?_
    show GoOn p e below _ (T15.setTop (mkF m 72 #[.val (.int q0), .val (.int q1), .val (.int q2), .val (.long q3), .second, .val (.int o), .val (.int fl), .val (.ref a), .val (.int u), .val (.int v9), .unset, .unset, .unset, .unset, .unset] [(.ref a)]))
    refine GoOn.step (fun t₀ k₀ => XS.iload X15.here hx rfl (hb hby at_72) rfl k₀) ?_
    show GoOn p e below _ (T15.setTop (mkF m 74 #[.val (.int q0), .val (.int q1), .val (.int q2), .val (.long q3), .second, .val (.int o), .val (.int fl), .val (.ref a), .val (.int u), .val (.int v9), .unset, .unset, .unset, .unset, .unset] [(.int o), (.ref a)]))
    obtain ⟨_, T16, L16, X16, hQ16, st16⟩ := kCallS X15 hx hZ (argsL := [(.ref a), (.int o)]) (rest := []) (c_les l Z a0 hw a o _ f_a _ J_a ho' hf_a) hown (hw _ (List.mem_of_getElem? (i := 5) rfl)) (hw _ (List.mem_of_getElem? (i := 6) rfl)) (hw _ (List.mem_of_getElem? (i := 7) rfl)) (hw _ (List.mem_of_getElem? (i := 8) rfl)) (by decide) e15 (g := (mkF m 74 #[.val (.int q0), .val (.int q1), .val (.int q2), .val (.long q3), .second, .val (.int o), .val (.int fl), .val (.ref a), .val (.int u), .val (.int v9), .unset, .unset, .unset, .unset, .unset] [(.int o), (.ref a)])) rfl (by rw [hml]; rfl) (lenOf pd_1 rfl) rfl (W := 0) (by show 2 * 0 + _ ≤ _; exact Nat.le_of_eq rfl) (hb hby at_74) (by decide) (by decide) (by decide) (by decide)
    obtain ⟨rfl, rfl, e16⟩ := hQ16
    rw [List.append_nil] at X16
    refine GoOn.step st16 ?_
    show GoOn p e below _ (T16.setTop (mkF m 77 #[.val (.int q0), .val (.int q1), .val (.int q2), .val (.long q3), .second, .val (.int o), .val (.int fl), .val (.ref a), .val (.int u), .val (.int v9), .unset, .unset, .unset, .unset, .unset] [(.int (lesz (((q0.toInt8.toInt32).toInt8.toInt32) &&& (255 : Int32))))]))
    refine GoOn.step (fun t₀ k₀ => XS.iload X16.here hx rfl (hb hby at_77) rfl k₀) ?_
    show GoOn p e below _ (T16.setTop (mkF m 79 #[.val (.int q0), .val (.int q1), .val (.int q2), .val (.long q3), .second, .val (.int o), .val (.int fl), .val (.ref a), .val (.int u), .val (.int v9), .unset, .unset, .unset, .unset, .unset] [(.int v9), (.int (lesz (((q0.toInt8.toInt32).toInt8.toInt32) &&& (255 : Int32))))]))
    have hf17 : (lesz (((q0.toInt8.toInt32).toInt8.toInt32) &&& (255 : Int32))) = v9 := (by rw [h9, ← hu, pl_byte])
    refine GoOn.step (fun t₀ k₀ => XS.icmpNo X16.here hx rfl (hb hby at_79) rfl (teq hf17).2 k₀) ?_
    show GoOn p e below _ (T16.setTop (mkF m 82 #[.val (.int q0), .val (.int q1), .val (.int q2), .val (.long q3), .second, .val (.int o), .val (.int fl), .val (.ref a), .val (.int u), .val (.int v9), .unset, .unset, .unset, .unset, .unset] []))
    refine GoOn.step (fun t₀ k₀ => XS.iconst X16.here hx rfl (hb hby at_82) k₀) ?_
    show GoOn p e below _ (T16.setTop (mkF m 83 #[.val (.int q0), .val (.int q1), .val (.int q2), .val (.long q3), .second, .val (.int o), .val (.int fl), .val (.ref a), .val (.int u), .val (.int v9), .unset, .unset, .unset, .unset, .unset] [(.int (1 : Int32))]))
    refine GoOn.step (fun t₀ k₀ => XS.goto X16.here hx rfl (pc0 := 83) (pc' := 87) rfl (hb hby at_83) (by decide) (by decide) k₀) ?_
    show GoOn p e below _ (T16.setTop (mkF m 87 #[.val (.int q0), .val (.int q1), .val (.int q2), .val (.long q3), .second, .val (.int o), .val (.int fl), .val (.ref a), .val (.int u), .val (.int v9), .unset, .unset, .unset, .unset, .unset] [(.int (1 : Int32))]))
    refine GoOn.step (fun t₀ k₀ => XS.istore X16.here hx rfl (hb hby at_87) rfl (l' := #[.val (.int q0), .val (.int q1), .val (.int q2), .val (.long q3), .second, .val (.int o), .val (.int fl), .val (.ref a), .val (.int u), .val (.int v9), .val (.int (1 : Int32)), .unset, .unset, .unset, .unset]) rfl k₀) ?_
    show GoOn p e below _ (T16.setTop (mkF m 89 #[.val (.int q0), .val (.int q1), .val (.int q2), .val (.long q3), .second, .val (.int o), .val (.int fl), .val (.ref a), .val (.int u), .val (.int v9), .val (.int (1 : Int32)), .unset, .unset, .unset, .unset] []))
    refine GoOn.step (fun t₀ k₀ => XS.iload X16.here hx rfl (hb hby at_89) rfl k₀) ?_
    show GoOn p e below _ (T16.setTop (mkF m 91 #[.val (.int q0), .val (.int q1), .val (.int q2), .val (.long q3), .second, .val (.int o), .val (.int fl), .val (.ref a), .val (.int u), .val (.int v9), .val (.int (1 : Int32)), .unset, .unset, .unset, .unset] [(.int fl)]))
    obtain ⟨_, T18, L18, X18, hQ18, st18⟩ := kCallS X16 hx hZ (argsL := [(.int fl)]) (rest := []) (c_fill l Z a0 hw fl h15 n0 Z0) hown (hw _ (List.mem_of_getElem? (i := 0) rfl)) (hw _ (List.mem_of_getElem? (i := 1) rfl)) (hw _ (List.mem_of_getElem? (i := 2) rfl)) (hw _ (List.mem_of_getElem? (i := 3) rfl)) (by decide) e16 (g := (mkF m 91 #[.val (.int q0), .val (.int q1), .val (.int q2), .val (.long q3), .second, .val (.int o), .val (.int fl), .val (.ref a), .val (.int u), .val (.int v9), .val (.int (1 : Int32)), .unset, .unset, .unset, .unset] [(.int fl)])) rfl (by rw [hml]; rfl) (lenOf pd_0 rfl) rfl (W := 0) (by show 2 * 0 + _ ≤ _; exact Nat.le_of_eq rfl) (hb hby at_91) (by decide) (by decide) (by decide) (by decide)
    obtain ⟨b, f_b, rfl, N18, E18, l_b, s_b, J_b⟩ := hQ18
    replace N0 := Fr.app N0 N18
    have ne_a_b : a ≠ b := Nat.ne_of_lt (Nat.lt_of_lt_of_le J_a.lt s_b)
    replace J_a := J_a.ext E18
    replace Z0 := Nat.le_trans Z0 E18.1
    refine GoOn.step st18 ?_
    show GoOn p e below _ (T18.setTop (mkF m 94 #[.val (.int q0), .val (.int q1), .val (.int q2), .val (.long q3), .second, .val (.int o), .val (.int fl), .val (.ref a), .val (.int u), .val (.int v9), .val (.int (1 : Int32)), .unset, .unset, .unset, .unset] [(.ref b)]))
    refine GoOn.step (fun t₀ k₀ => XS.astore X18.here hx rfl (hb hby at_94) rfl rfl (l' := #[.val (.int q0), .val (.int q1), .val (.int q2), .val (.long q3), .second, .val (.int o), .val (.int fl), .val (.ref a), .val (.int u), .val (.int v9), .val (.int (1 : Int32)), .val (.ref b), .unset, .unset, .unset]) rfl k₀) ?_
    show GoOn p e below _ (T18.setTop (mkF m 96 #[.val (.int q0), .val (.int q1), .val (.int q2), .val (.long q3), .second, .val (.int o), .val (.int fl), .val (.ref a), .val (.int u), .val (.int v9), .val (.int (1 : Int32)), .val (.ref b), .unset, .unset, .unset] []))
    refine GoOn.step (fun t₀ k₀ => XS.lloadN X18.here hx rfl (hb hby at_96) rfl k₀) ?_
    show GoOn p e below _ (T18.setTop (mkF m 97 #[.val (.int q0), .val (.int q1), .val (.int q2), .val (.long q3), .second, .val (.int o), .val (.int fl), .val (.ref a), .val (.int u), .val (.int v9), .val (.int (1 : Int32)), .val (.ref b), .unset, .unset, .unset] [(.long q3)]))
    refine GoOn.step (fun t₀ k₀ => XS.lconst X18.here hx rfl (hb hby at_97) k₀) ?_
    show GoOn p e below _ (T18.setTop (mkF m 98 #[.val (.int q0), .val (.int q1), .val (.int q2), .val (.long q3), .second, .val (.int o), .val (.int fl), .val (.ref a), .val (.int u), .val (.int v9), .val (.int (1 : Int32)), .val (.ref b), .unset, .unset, .unset] [(.long (0 : Int64)), (.long q3)]))
    refine GoOn.step (fun t₀ k₀ => XS.lcmp X18.here hx rfl (hb hby at_98) rfl k₀) ?_
    show GoOn p e below _ (T18.setTop (mkF m 99 #[.val (.int q0), .val (.int q1), .val (.int q2), .val (.long q3), .second, .val (.int o), .val (.int fl), .val (.ref a), .val (.int u), .val (.int v9), .val (.int (1 : Int32)), .val (.ref b), .unset, .unset, .unset] [(.int (lcmpW q3 (0 : Int64)))]))
    by_cases v0 : q3 < (0 : Int64)
    · refine GoOn.step (fun t₀ k₀ => XS.ifYes X18.here hx rfl (pc0 := 99) (pc' := 120) rfl (hb hby at_99) rfl ((if0 _ _).trans (tlt ((lw_lt _ _).mpr v0)).1) (by decide) (by decide) k₀) ?_
      show GoOn p e below _ (T18.setTop (mkF m 120 #[.val (.int q0), .val (.int q1), .val (.int q2), .val (.long q3), .second, .val (.int o), .val (.int fl), .val (.ref a), .val (.int u), .val (.int v9), .val (.int (1 : Int32)), .val (.ref b), .unset, .unset, .unset] []))
      refine GoOn.step (fun t₀ k₀ => XS.lloadN X18.here hx rfl (hb hby at_120) rfl k₀) ?_
      show GoOn p e below _ (T18.setTop (mkF m 121 #[.val (.int q0), .val (.int q1), .val (.int q2), .val (.long q3), .second, .val (.int o), .val (.int fl), .val (.ref a), .val (.int u), .val (.int v9), .val (.int (1 : Int32)), .val (.ref b), .unset, .unset, .unset] [(.long q3)]))
      refine GoOn.step (fun t₀ k₀ => XS.lconst X18.here hx rfl (hb hby at_121) k₀) ?_
      show GoOn p e below _ (T18.setTop (mkF m 122 #[.val (.int q0), .val (.int q1), .val (.int q2), .val (.long q3), .second, .val (.int o), .val (.int fl), .val (.ref a), .val (.int u), .val (.int v9), .val (.int (1 : Int32)), .val (.ref b), .unset, .unset, .unset] [(.long (0 : Int64)), (.long q3)]))
      refine GoOn.step (fun t₀ k₀ => XS.lcmp X18.here hx rfl (hb hby at_122) rfl k₀) ?_
      show GoOn p e below _ (T18.setTop (mkF m 123 #[.val (.int q0), .val (.int q1), .val (.int q2), .val (.long q3), .second, .val (.int o), .val (.int fl), .val (.ref a), .val (.int u), .val (.int v9), .val (.int (1 : Int32)), .val (.ref b), .unset, .unset, .unset] [(.int (lcmpW q3 (0 : Int64)))]))
      have hf19 : q3 < (0 : Int64) := v0
      refine GoOn.step (fun t₀ k₀ => XS.ifYes X18.here hx rfl (pc0 := 123) (pc' := 145) rfl (hb hby at_123) rfl ((if0 _ _).trans (tlt ((lw_lt _ _).mpr hf19)).1) (by decide) (by decide) k₀) ?_
      show GoOn p e below _ (T18.setTop (mkF m 145 #[.val (.int q0), .val (.int q1), .val (.int q2), .val (.long q3), .second, .val (.int o), .val (.int fl), .val (.ref a), .val (.int u), .val (.int v9), .val (.int (1 : Int32)), .val (.ref b), .unset, .unset, .unset] []))
      refine GoOn.step (fun t₀ k₀ => XS.lloadN X18.here hx rfl (hb hby at_145) rfl k₀) ?_
      show GoOn p e below _ (T18.setTop (mkF m 146 #[.val (.int q0), .val (.int q1), .val (.int q2), .val (.long q3), .second, .val (.int o), .val (.int fl), .val (.ref a), .val (.int u), .val (.int v9), .val (.int (1 : Int32)), .val (.ref b), .unset, .unset, .unset] [(.long q3)]))
      refine GoOn.step (fun t₀ k₀ => XS.lconst X18.here hx rfl (hb hby at_146) k₀) ?_
      show GoOn p e below _ (T18.setTop (mkF m 147 #[.val (.int q0), .val (.int q1), .val (.int q2), .val (.long q3), .second, .val (.int o), .val (.int fl), .val (.ref a), .val (.int u), .val (.int v9), .val (.int (1 : Int32)), .val (.ref b), .unset, .unset, .unset] [(.long (0 : Int64)), (.long q3)]))
      refine GoOn.step (fun t₀ k₀ => XS.lcmp X18.here hx rfl (hb hby at_147) rfl k₀) ?_
      show GoOn p e below _ (T18.setTop (mkF m 148 #[.val (.int q0), .val (.int q1), .val (.int q2), .val (.long q3), .second, .val (.int o), .val (.int fl), .val (.ref a), .val (.int u), .val (.int v9), .val (.int (1 : Int32)), .val (.ref b), .unset, .unset, .unset] [(.int (lcmpW q3 (0 : Int64)))]))
      have hf20 : q3 < (0 : Int64) := v0
      refine GoOn.step (fun t₀ k₀ => XS.ifYes X18.here hx rfl (pc0 := 148) (pc' := 170) rfl (hb hby at_148) rfl ((if0 _ _).trans (tlt ((lw_lt _ _).mpr hf20)).1) (by decide) (by decide) k₀) ?_
      show GoOn p e below _ (T18.setTop (mkF m 170 #[.val (.int q0), .val (.int q1), .val (.int q2), .val (.long q3), .second, .val (.int o), .val (.int fl), .val (.ref a), .val (.int u), .val (.int v9), .val (.int (1 : Int32)), .val (.ref b), .unset, .unset, .unset] []))
      refine GoOn.step (fun t₀ k₀ => XS.bipush X18.here hx rfl (hb hby at_170) k₀) ?_
      show GoOn p e below _ (T18.setTop (mkF m 172 #[.val (.int q0), .val (.int q1), .val (.int q2), .val (.long q3), .second, .val (.int o), .val (.int fl), .val (.ref a), .val (.int u), .val (.int v9), .val (.int (1 : Int32)), .val (.ref b), .unset, .unset, .unset] [(.int (9 : Int32))]))
      refine GoOn.step (fun t₀ k₀ => XS.istore X18.here hx rfl (hb hby at_172) rfl (l' := #[.val (.int q0), .val (.int q1), .val (.int q2), .val (.long q3), .second, .val (.int o), .val (.int fl), .val (.ref a), .val (.int u), .val (.int v9), .val (.int (1 : Int32)), .val (.ref b), .val (.int (9 : Int32)), .unset, .unset]) rfl k₀) ?_
      show GoOn p e below _ (T18.setTop (mkF m 174 #[.val (.int q0), .val (.int q1), .val (.int q2), .val (.long q3), .second, .val (.int o), .val (.int fl), .val (.ref a), .val (.int u), .val (.int v9), .val (.int (1 : Int32)), .val (.ref b), .val (.int (9 : Int32)), .unset, .unset] []))
      refine GoOn.step (fun t₀ k₀ => XS.sipush X18.here hx rfl (hb hby at_174) k₀) ?_
      show GoOn p e below _ (T18.setTop (mkF m 177 #[.val (.int q0), .val (.int q1), .val (.int q2), .val (.long q3), .second, .val (.int o), .val (.int fl), .val (.ref a), .val (.int u), .val (.int v9), .val (.int (1 : Int32)), .val (.ref b), .val (.int (9 : Int32)), .unset, .unset] [(.int (254 : Int32))]))
      refine GoOn.step (fun t₀ k₀ => XS.istore X18.here hx rfl (hb hby at_177) rfl (l' := #[.val (.int q0), .val (.int q1), .val (.int q2), .val (.long q3), .second, .val (.int o), .val (.int fl), .val (.ref a), .val (.int u), .val (.int v9), .val (.int (1 : Int32)), .val (.ref b), .val (.int (9 : Int32)), .val (.int (254 : Int32)), .unset]) rfl k₀) ?_
      show GoOn p e below _ (T18.setTop (mkF m 179 #[.val (.int q0), .val (.int q1), .val (.int q2), .val (.long q3), .second, .val (.int o), .val (.int fl), .val (.ref a), .val (.int u), .val (.int v9), .val (.int (1 : Int32)), .val (.ref b), .val (.int (9 : Int32)), .val (.int (254 : Int32)), .unset] []))
      refine GoOn.step (fun t₀ k₀ => XS.aload X18.here hx rfl (hb hby at_179) rfl rfl k₀) ?_
      show GoOn p e below _ (T18.setTop (mkF m 181 #[.val (.int q0), .val (.int q1), .val (.int q2), .val (.long q3), .second, .val (.int o), .val (.int fl), .val (.ref a), .val (.int u), .val (.int v9), .val (.int (1 : Int32)), .val (.ref b), .val (.int (9 : Int32)), .val (.int (254 : Int32)), .unset] [(.ref b)]))
      refine GoOn.step (fun t₀ k₀ => XS.iload X18.here hx rfl (hb hby at_181) rfl k₀) ?_
      show GoOn p e below _ (T18.setTop (mkF m 183 #[.val (.int q0), .val (.int q1), .val (.int q2), .val (.long q3), .second, .val (.int o), .val (.int fl), .val (.ref a), .val (.int u), .val (.int v9), .val (.int (1 : Int32)), .val (.ref b), .val (.int (9 : Int32)), .val (.int (254 : Int32)), .unset] [(.int o), (.ref b)]))
      refine GoOn.step (fun t₀ k₀ => XS.iload X18.here hx rfl (hb hby at_183) rfl k₀) ?_
      show GoOn p e below _ (T18.setTop (mkF m 185 #[.val (.int q0), .val (.int q1), .val (.int q2), .val (.long q3), .second, .val (.int o), .val (.int fl), .val (.ref a), .val (.int u), .val (.int v9), .val (.int (1 : Int32)), .val (.ref b), .val (.int (9 : Int32)), .val (.int (254 : Int32)), .unset] [(.int (254 : Int32)), (.int o), (.ref b)]))
      refine GoOn.step (fun t₀ k₀ => XS.i2b X18.here hx rfl (hb hby at_185) rfl k₀) ?_
      show GoOn p e below _ (T18.setTop (mkF m 186 #[.val (.int q0), .val (.int q1), .val (.int q2), .val (.long q3), .second, .val (.int o), .val (.int fl), .val (.ref a), .val (.int u), .val (.int v9), .val (.int (1 : Int32)), .val (.ref b), .val (.int (9 : Int32)), .val (.int (254 : Int32)), .unset] [(.int ((254 : Int32).toInt8.toInt32)), (.int o), (.ref b)]))
      obtain ⟨T21, h21, X21, e21, W21, st21⟩ := kStB X18 hx hZ rfl J_b (j := o) ho' (g := (mkF m 186 #[.val (.int q0), .val (.int q1), .val (.int q2), .val (.long q3), .second, .val (.int o), .val (.int fl), .val (.ref a), .val (.int u), .val (.int v9), .val (.int (1 : Int32)), .val (.ref b), .val (.int (9 : Int32)), .val (.int (254 : Int32)), .unset] [(.int ((254 : Int32).toInt8.toInt32)), (.int o), (.ref b)])) rfl rfl (hb hby at_186)
      replace N0 := Fr.snoc X21 N0 l_b
      replace J_a := J_a.other W21 ne_a_b
      replace J_b := J_b.set W21
      replace Z0 := Nat.le_trans Z0 (Nat.le_of_eq W21.size.symm)
      refine GoOn.step st21 ?_
      show GoOn p e below _ (T21.setTop (mkF m 187 #[.val (.int q0), .val (.int q1), .val (.int q2), .val (.long q3), .second, .val (.int o), .val (.int fl), .val (.ref a), .val (.int u), .val (.int v9), .val (.int (1 : Int32)), .val (.ref b), .val (.int (9 : Int32)), .val (.int (254 : Int32)), .unset] []))
      obtain ⟨f_b, J_b, hf_b⟩ : ∃ f, Jar Z h21 b .byte 12 f ∧ f o.toNatClampNeg = .int (((254 : Int32).toInt8.toInt32).toInt8.toInt32) := ⟨_, J_b, if_pos rfl⟩
      refine GoOn.step (fun t₀ k₀ => XS.iload X21.here hx rfl (hb hby at_187) rfl k₀) ?_
      show GoOn p e below _ (T21.setTop (mkF m 189 #[.val (.int q0), .val (.int q1), .val (.int q2), .val (.long q3), .second, .val (.int o), .val (.int fl), .val (.ref a), .val (.int u), .val (.int v9), .val (.int (1 : Int32)), .val (.ref b), .val (.int (9 : Int32)), .val (.int (254 : Int32)), .unset] [(.int (9 : Int32))]))
      refine GoOn.step (fun t₀ k₀ => XS.iconst X21.here hx rfl (hb hby at_189) k₀) ?_
      show GoOn p e below _ (T21.setTop (mkF m 190 #[.val (.int q0), .val (.int q1), .val (.int q2), .val (.long q3), .second, .val (.int o), .val (.int fl), .val (.ref a), .val (.int u), .val (.int v9), .val (.int (1 : Int32)), .val (.ref b), .val (.int (9 : Int32)), .val (.int (254 : Int32)), .unset] [(.int (3 : Int32)), (.int (9 : Int32))]))
      have hf22 : ¬ ((9 : Int32) < (3 : Int32)) := (by decide)
      refine GoOn.step (fun t₀ k₀ => XS.icmpNo X21.here hx rfl (hb hby at_190) rfl (flt hf22).1 k₀) ?_
      show GoOn p e below _ (T21.setTop (mkF m 193 #[.val (.int q0), .val (.int q1), .val (.int q2), .val (.long q3), .second, .val (.int o), .val (.int fl), .val (.ref a), .val (.int u), .val (.int v9), .val (.int (1 : Int32)), .val (.ref b), .val (.int (9 : Int32)), .val (.int (254 : Int32)), .unset] []))
      refine GoOn.step (fun t₀ k₀ => XS.aload X21.here hx rfl (hb hby at_193) rfl rfl k₀) ?_
      show GoOn p e below _ (T21.setTop (mkF m 195 #[.val (.int q0), .val (.int q1), .val (.int q2), .val (.long q3), .second, .val (.int o), .val (.int fl), .val (.ref a), .val (.int u), .val (.int v9), .val (.int (1 : Int32)), .val (.ref b), .val (.int (9 : Int32)), .val (.int (254 : Int32)), .unset] [(.ref b)]))
      refine GoOn.step (fun t₀ k₀ => XS.iload X21.here hx rfl (hb hby at_195) rfl k₀) ?_
      show GoOn p e below _ (T21.setTop (mkF m 197 #[.val (.int q0), .val (.int q1), .val (.int q2), .val (.long q3), .second, .val (.int o), .val (.int fl), .val (.ref a), .val (.int u), .val (.int v9), .val (.int (1 : Int32)), .val (.ref b), .val (.int (9 : Int32)), .val (.int (254 : Int32)), .unset] [(.int o), (.ref b)]))
      refine GoOn.step (fun t₀ k₀ => XS.iconst X21.here hx rfl (hb hby at_197) k₀) ?_
      show GoOn p e below _ (T21.setTop (mkF m 198 #[.val (.int q0), .val (.int q1), .val (.int q2), .val (.long q3), .second, .val (.int o), .val (.int fl), .val (.ref a), .val (.int u), .val (.int v9), .val (.int (1 : Int32)), .val (.ref b), .val (.int (9 : Int32)), .val (.int (254 : Int32)), .unset] [(.int (1 : Int32)), (.int o), (.ref b)]))
      refine GoOn.step (fun t₀ k₀ => XS.iadd X21.here hx rfl (hb hby at_198) rfl k₀) ?_
      show GoOn p e below _ (T21.setTop (mkF m 199 #[.val (.int q0), .val (.int q1), .val (.int q2), .val (.long q3), .second, .val (.int o), .val (.int fl), .val (.ref a), .val (.int u), .val (.int v9), .val (.int (1 : Int32)), .val (.ref b), .val (.int (9 : Int32)), .val (.int (254 : Int32)), .unset] [(.int (o + (1 : Int32))), (.ref b)]))
      refine GoOn.step (fun t₀ k₀ => XS.lloadN X21.here hx rfl (hb hby at_199) rfl k₀) ?_
      show GoOn p e below _ (T21.setTop (mkF m 200 #[.val (.int q0), .val (.int q1), .val (.int q2), .val (.long q3), .second, .val (.int o), .val (.int fl), .val (.ref a), .val (.int u), .val (.int v9), .val (.int (1 : Int32)), .val (.ref b), .val (.int (9 : Int32)), .val (.int (254 : Int32)), .unset] [(.long q3), (.int (o + (1 : Int32))), (.ref b)]))
      refine GoOn.step (fun t₀ k₀ => XS.l2i X21.here hx rfl (hb hby at_200) rfl k₀) ?_
      show GoOn p e below _ (T21.setTop (mkF m 201 #[.val (.int q0), .val (.int q1), .val (.int q2), .val (.long q3), .second, .val (.int o), .val (.int fl), .val (.ref a), .val (.int u), .val (.int v9), .val (.int (1 : Int32)), .val (.ref b), .val (.int (9 : Int32)), .val (.int (254 : Int32)), .unset] [(.int (q3.toInt32)), (.int (o + (1 : Int32))), (.ref b)]))
      refine GoOn.step (fun t₀ k₀ => XS.i2b X21.here hx rfl (hb hby at_201) rfl k₀) ?_
      show GoOn p e below _ (T21.setTop (mkF m 202 #[.val (.int q0), .val (.int q1), .val (.int q2), .val (.long q3), .second, .val (.int o), .val (.int fl), .val (.ref a), .val (.int u), .val (.int v9), .val (.int (1 : Int32)), .val (.ref b), .val (.int (9 : Int32)), .val (.int (254 : Int32)), .unset] [(.int ((q3.toInt32).toInt8.toInt32)), (.int (o + (1 : Int32))), (.ref b)]))
      obtain ⟨T23, h23, X23, e23, W23, st23⟩ := kStB X21 hx hZ e21 J_b (j := (o + (1 : Int32))) (ix ho ⟨by decide, by decide⟩) (g := (mkF m 202 #[.val (.int q0), .val (.int q1), .val (.int q2), .val (.long q3), .second, .val (.int o), .val (.int fl), .val (.ref a), .val (.int u), .val (.int v9), .val (.int (1 : Int32)), .val (.ref b), .val (.int (9 : Int32)), .val (.int (254 : Int32)), .unset] [(.int ((q3.toInt32).toInt8.toInt32)), (.int (o + (1 : Int32))), (.ref b)])) rfl rfl (hb hby at_202)
      replace N0 := Fr.snoc X23 N0 l_b
      replace J_a := J_a.other W23 ne_a_b
      replace J_b := J_b.set W23
      replace Z0 := Nat.le_trans Z0 (Nat.le_of_eq W23.size.symm)
      refine GoOn.step st23 ?_
      show GoOn p e below _ (T23.setTop (mkF m 203 #[.val (.int q0), .val (.int q1), .val (.int q2), .val (.long q3), .second, .val (.int o), .val (.int fl), .val (.ref a), .val (.int u), .val (.int v9), .val (.int (1 : Int32)), .val (.ref b), .val (.int (9 : Int32)), .val (.int (254 : Int32)), .unset] []))
      obtain ⟨f_b, J_b, hf_b⟩ : ∃ f, Jar Z h23 b .byte 12 f ∧ f o.toNatClampNeg = .int (((254 : Int32).toInt8.toInt32).toInt8.toInt32) := ⟨_, J_b, (if_neg (ixne ho ⟨by decide, by decide⟩)).trans hf_b⟩
      refine GoOn.step (fun t₀ k₀ => XS.aload X23.here hx rfl (hb hby at_203) rfl rfl k₀) ?_
      show GoOn p e below _ (T23.setTop (mkF m 205 #[.val (.int q0), .val (.int q1), .val (.int q2), .val (.long q3), .second, .val (.int o), .val (.int fl), .val (.ref a), .val (.int u), .val (.int v9), .val (.int (1 : Int32)), .val (.ref b), .val (.int (9 : Int32)), .val (.int (254 : Int32)), .unset] [(.ref b)]))
      refine GoOn.step (fun t₀ k₀ => XS.iload X23.here hx rfl (hb hby at_205) rfl k₀) ?_
      show GoOn p e below _ (T23.setTop (mkF m 207 #[.val (.int q0), .val (.int q1), .val (.int q2), .val (.long q3), .second, .val (.int o), .val (.int fl), .val (.ref a), .val (.int u), .val (.int v9), .val (.int (1 : Int32)), .val (.ref b), .val (.int (9 : Int32)), .val (.int (254 : Int32)), .unset] [(.int o), (.ref b)]))
      refine GoOn.step (fun t₀ k₀ => XS.iconst X23.here hx rfl (hb hby at_207) k₀) ?_
      show GoOn p e below _ (T23.setTop (mkF m 208 #[.val (.int q0), .val (.int q1), .val (.int q2), .val (.long q3), .second, .val (.int o), .val (.int fl), .val (.ref a), .val (.int u), .val (.int v9), .val (.int (1 : Int32)), .val (.ref b), .val (.int (9 : Int32)), .val (.int (254 : Int32)), .unset] [(.int (2 : Int32)), (.int o), (.ref b)]))
      refine GoOn.step (fun t₀ k₀ => XS.iadd X23.here hx rfl (hb hby at_208) rfl k₀) ?_
      show GoOn p e below _ (T23.setTop (mkF m 209 #[.val (.int q0), .val (.int q1), .val (.int q2), .val (.long q3), .second, .val (.int o), .val (.int fl), .val (.ref a), .val (.int u), .val (.int v9), .val (.int (1 : Int32)), .val (.ref b), .val (.int (9 : Int32)), .val (.int (254 : Int32)), .unset] [(.int (o + (2 : Int32))), (.ref b)]))
      refine GoOn.step (fun t₀ k₀ => XS.lloadN X23.here hx rfl (hb hby at_209) rfl k₀) ?_
      show GoOn p e below _ (T23.setTop (mkF m 210 #[.val (.int q0), .val (.int q1), .val (.int q2), .val (.long q3), .second, .val (.int o), .val (.int fl), .val (.ref a), .val (.int u), .val (.int v9), .val (.int (1 : Int32)), .val (.ref b), .val (.int (9 : Int32)), .val (.int (254 : Int32)), .unset] [(.long q3), (.int (o + (2 : Int32))), (.ref b)]))
      refine GoOn.step (fun t₀ k₀ => XS.bipush X23.here hx rfl (hb hby at_210) k₀) ?_
      show GoOn p e below _ (T23.setTop (mkF m 212 #[.val (.int q0), .val (.int q1), .val (.int q2), .val (.long q3), .second, .val (.int o), .val (.int fl), .val (.ref a), .val (.int u), .val (.int v9), .val (.int (1 : Int32)), .val (.ref b), .val (.int (9 : Int32)), .val (.int (254 : Int32)), .unset] [(.int (8 : Int32)), (.long q3), (.int (o + (2 : Int32))), (.ref b)]))
      refine GoOn.step (fun t₀ k₀ => XS.lushr X23.here hx rfl (hb hby at_212) rfl k₀) ?_
      show GoOn p e below _ (T23.setTop (mkF m 213 #[.val (.int q0), .val (.int q1), .val (.int q2), .val (.long q3), .second, .val (.int o), .val (.int fl), .val (.ref a), .val (.int u), .val (.int v9), .val (.int (1 : Int32)), .val (.ref b), .val (.int (9 : Int32)), .val (.int (254 : Int32)), .unset] [(.long ((q3.toUInt64 >>> ((8 : Int32) &&& 0x3f).toInt64.toUInt64).toInt64)), (.int (o + (2 : Int32))), (.ref b)]))
      refine GoOn.step (fun t₀ k₀ => XS.l2i X23.here hx rfl (hb hby at_213) rfl k₀) ?_
      show GoOn p e below _ (T23.setTop (mkF m 214 #[.val (.int q0), .val (.int q1), .val (.int q2), .val (.long q3), .second, .val (.int o), .val (.int fl), .val (.ref a), .val (.int u), .val (.int v9), .val (.int (1 : Int32)), .val (.ref b), .val (.int (9 : Int32)), .val (.int (254 : Int32)), .unset] [(.int (((q3.toUInt64 >>> ((8 : Int32) &&& 0x3f).toInt64.toUInt64).toInt64).toInt32)), (.int (o + (2 : Int32))), (.ref b)]))
      refine GoOn.step (fun t₀ k₀ => XS.i2b X23.here hx rfl (hb hby at_214) rfl k₀) ?_
      show GoOn p e below _ (T23.setTop (mkF m 215 #[.val (.int q0), .val (.int q1), .val (.int q2), .val (.long q3), .second, .val (.int o), .val (.int fl), .val (.ref a), .val (.int u), .val (.int v9), .val (.int (1 : Int32)), .val (.ref b), .val (.int (9 : Int32)), .val (.int (254 : Int32)), .unset] [(.int ((((q3.toUInt64 >>> ((8 : Int32) &&& 0x3f).toInt64.toUInt64).toInt64).toInt32).toInt8.toInt32)), (.int (o + (2 : Int32))), (.ref b)]))
      obtain ⟨T24, h24, X24, e24, W24, st24⟩ := kStB X23 hx hZ e23 J_b (j := (o + (2 : Int32))) (ix ho ⟨by decide, by decide⟩) (g := (mkF m 215 #[.val (.int q0), .val (.int q1), .val (.int q2), .val (.long q3), .second, .val (.int o), .val (.int fl), .val (.ref a), .val (.int u), .val (.int v9), .val (.int (1 : Int32)), .val (.ref b), .val (.int (9 : Int32)), .val (.int (254 : Int32)), .unset] [(.int ((((q3.toUInt64 >>> ((8 : Int32) &&& 0x3f).toInt64.toUInt64).toInt64).toInt32).toInt8.toInt32)), (.int (o + (2 : Int32))), (.ref b)])) rfl rfl (hb hby at_215)
      replace N0 := Fr.snoc X24 N0 l_b
      replace J_a := J_a.other W24 ne_a_b
      replace J_b := J_b.set W24
      replace Z0 := Nat.le_trans Z0 (Nat.le_of_eq W24.size.symm)
      refine GoOn.step st24 ?_
      show GoOn p e below _ (T24.setTop (mkF m 216 #[.val (.int q0), .val (.int q1), .val (.int q2), .val (.long q3), .second, .val (.int o), .val (.int fl), .val (.ref a), .val (.int u), .val (.int v9), .val (.int (1 : Int32)), .val (.ref b), .val (.int (9 : Int32)), .val (.int (254 : Int32)), .unset] []))
      obtain ⟨f_b, J_b, hf_b⟩ : ∃ f, Jar Z h24 b .byte 12 f ∧ f o.toNatClampNeg = .int (((254 : Int32).toInt8.toInt32).toInt8.toInt32) := ⟨_, J_b, (if_neg (ixne ho ⟨by decide, by decide⟩)).trans hf_b⟩
      refine GoOn.step (fun t₀ k₀ => XS.iload X24.here hx rfl (hb hby at_216) rfl k₀) ?_
      show GoOn p e below _ (T24.setTop (mkF m 218 #[.val (.int q0), .val (.int q1), .val (.int q2), .val (.long q3), .second, .val (.int o), .val (.int fl), .val (.ref a), .val (.int u), .val (.int v9), .val (.int (1 : Int32)), .val (.ref b), .val (.int (9 : Int32)), .val (.int (254 : Int32)), .unset] [(.int (9 : Int32))]))
      refine GoOn.step (fun t₀ k₀ => XS.iconst X24.here hx rfl (hb hby at_218) k₀) ?_
      show GoOn p e below _ (T24.setTop (mkF m 219 #[.val (.int q0), .val (.int q1), .val (.int q2), .val (.long q3), .second, .val (.int o), .val (.int fl), .val (.ref a), .val (.int u), .val (.int v9), .val (.int (1 : Int32)), .val (.ref b), .val (.int (9 : Int32)), .val (.int (254 : Int32)), .unset] [(.int (4 : Int32)), (.int (9 : Int32))]))
      have hf25 : ¬ ((9 : Int32) < (4 : Int32)) := (by decide)
      refine GoOn.step (fun t₀ k₀ => XS.icmpNo X24.here hx rfl (hb hby at_219) rfl (flt hf25).1 k₀) ?_
      show GoOn p e below _ (T24.setTop (mkF m 222 #[.val (.int q0), .val (.int q1), .val (.int q2), .val (.long q3), .second, .val (.int o), .val (.int fl), .val (.ref a), .val (.int u), .val (.int v9), .val (.int (1 : Int32)), .val (.ref b), .val (.int (9 : Int32)), .val (.int (254 : Int32)), .unset] []))
      refine GoOn.step (fun t₀ k₀ => XS.aload X24.here hx rfl (hb hby at_222) rfl rfl k₀) ?_
      show GoOn p e below _ (T24.setTop (mkF m 224 #[.val (.int q0), .val (.int q1), .val (.int q2), .val (.long q3), .second, .val (.int o), .val (.int fl), .val (.ref a), .val (.int u), .val (.int v9), .val (.int (1 : Int32)), .val (.ref b), .val (.int (9 : Int32)), .val (.int (254 : Int32)), .unset] [(.ref b)]))
      refine GoOn.step (fun t₀ k₀ => XS.iload X24.here hx rfl (hb hby at_224) rfl k₀) ?_
      show GoOn p e below _ (T24.setTop (mkF m 226 #[.val (.int q0), .val (.int q1), .val (.int q2), .val (.long q3), .second, .val (.int o), .val (.int fl), .val (.ref a), .val (.int u), .val (.int v9), .val (.int (1 : Int32)), .val (.ref b), .val (.int (9 : Int32)), .val (.int (254 : Int32)), .unset] [(.int o), (.ref b)]))
      refine GoOn.step (fun t₀ k₀ => XS.iconst X24.here hx rfl (hb hby at_226) k₀) ?_
      show GoOn p e below _ (T24.setTop (mkF m 227 #[.val (.int q0), .val (.int q1), .val (.int q2), .val (.long q3), .second, .val (.int o), .val (.int fl), .val (.ref a), .val (.int u), .val (.int v9), .val (.int (1 : Int32)), .val (.ref b), .val (.int (9 : Int32)), .val (.int (254 : Int32)), .unset] [(.int (3 : Int32)), (.int o), (.ref b)]))
      refine GoOn.step (fun t₀ k₀ => XS.iadd X24.here hx rfl (hb hby at_227) rfl k₀) ?_
      show GoOn p e below _ (T24.setTop (mkF m 228 #[.val (.int q0), .val (.int q1), .val (.int q2), .val (.long q3), .second, .val (.int o), .val (.int fl), .val (.ref a), .val (.int u), .val (.int v9), .val (.int (1 : Int32)), .val (.ref b), .val (.int (9 : Int32)), .val (.int (254 : Int32)), .unset] [(.int (o + (3 : Int32))), (.ref b)]))
      refine GoOn.step (fun t₀ k₀ => XS.lloadN X24.here hx rfl (hb hby at_228) rfl k₀) ?_
      show GoOn p e below _ (T24.setTop (mkF m 229 #[.val (.int q0), .val (.int q1), .val (.int q2), .val (.long q3), .second, .val (.int o), .val (.int fl), .val (.ref a), .val (.int u), .val (.int v9), .val (.int (1 : Int32)), .val (.ref b), .val (.int (9 : Int32)), .val (.int (254 : Int32)), .unset] [(.long q3), (.int (o + (3 : Int32))), (.ref b)]))
      refine GoOn.step (fun t₀ k₀ => XS.bipush X24.here hx rfl (hb hby at_229) k₀) ?_
      show GoOn p e below _ (T24.setTop (mkF m 231 #[.val (.int q0), .val (.int q1), .val (.int q2), .val (.long q3), .second, .val (.int o), .val (.int fl), .val (.ref a), .val (.int u), .val (.int v9), .val (.int (1 : Int32)), .val (.ref b), .val (.int (9 : Int32)), .val (.int (254 : Int32)), .unset] [(.int (16 : Int32)), (.long q3), (.int (o + (3 : Int32))), (.ref b)]))
      refine GoOn.step (fun t₀ k₀ => XS.lushr X24.here hx rfl (hb hby at_231) rfl k₀) ?_
      show GoOn p e below _ (T24.setTop (mkF m 232 #[.val (.int q0), .val (.int q1), .val (.int q2), .val (.long q3), .second, .val (.int o), .val (.int fl), .val (.ref a), .val (.int u), .val (.int v9), .val (.int (1 : Int32)), .val (.ref b), .val (.int (9 : Int32)), .val (.int (254 : Int32)), .unset] [(.long ((q3.toUInt64 >>> ((16 : Int32) &&& 0x3f).toInt64.toUInt64).toInt64)), (.int (o + (3 : Int32))), (.ref b)]))
      refine GoOn.step (fun t₀ k₀ => XS.l2i X24.here hx rfl (hb hby at_232) rfl k₀) ?_
      show GoOn p e below _ (T24.setTop (mkF m 233 #[.val (.int q0), .val (.int q1), .val (.int q2), .val (.long q3), .second, .val (.int o), .val (.int fl), .val (.ref a), .val (.int u), .val (.int v9), .val (.int (1 : Int32)), .val (.ref b), .val (.int (9 : Int32)), .val (.int (254 : Int32)), .unset] [(.int (((q3.toUInt64 >>> ((16 : Int32) &&& 0x3f).toInt64.toUInt64).toInt64).toInt32)), (.int (o + (3 : Int32))), (.ref b)]))
      refine GoOn.step (fun t₀ k₀ => XS.i2b X24.here hx rfl (hb hby at_233) rfl k₀) ?_
      show GoOn p e below _ (T24.setTop (mkF m 234 #[.val (.int q0), .val (.int q1), .val (.int q2), .val (.long q3), .second, .val (.int o), .val (.int fl), .val (.ref a), .val (.int u), .val (.int v9), .val (.int (1 : Int32)), .val (.ref b), .val (.int (9 : Int32)), .val (.int (254 : Int32)), .unset] [(.int ((((q3.toUInt64 >>> ((16 : Int32) &&& 0x3f).toInt64.toUInt64).toInt64).toInt32).toInt8.toInt32)), (.int (o + (3 : Int32))), (.ref b)]))
      obtain ⟨T26, h26, X26, e26, W26, st26⟩ := kStB X24 hx hZ e24 J_b (j := (o + (3 : Int32))) (ix ho ⟨by decide, by decide⟩) (g := (mkF m 234 #[.val (.int q0), .val (.int q1), .val (.int q2), .val (.long q3), .second, .val (.int o), .val (.int fl), .val (.ref a), .val (.int u), .val (.int v9), .val (.int (1 : Int32)), .val (.ref b), .val (.int (9 : Int32)), .val (.int (254 : Int32)), .unset] [(.int ((((q3.toUInt64 >>> ((16 : Int32) &&& 0x3f).toInt64.toUInt64).toInt64).toInt32).toInt8.toInt32)), (.int (o + (3 : Int32))), (.ref b)])) rfl rfl (hb hby at_234)
      replace N0 := Fr.snoc X26 N0 l_b
      replace J_a := J_a.other W26 ne_a_b
      replace J_b := J_b.set W26
      replace Z0 := Nat.le_trans Z0 (Nat.le_of_eq W26.size.symm)
      refine GoOn.step st26 ?_
      show GoOn p e below _ (T26.setTop (mkF m 235 #[.val (.int q0), .val (.int q1), .val (.int q2), .val (.long q3), .second, .val (.int o), .val (.int fl), .val (.ref a), .val (.int u), .val (.int v9), .val (.int (1 : Int32)), .val (.ref b), .val (.int (9 : Int32)), .val (.int (254 : Int32)), .unset] []))
      obtain ⟨f_b, J_b, hf_b⟩ : ∃ f, Jar Z h26 b .byte 12 f ∧ f o.toNatClampNeg = .int (((254 : Int32).toInt8.toInt32).toInt8.toInt32) := ⟨_, J_b, (if_neg (ixne ho ⟨by decide, by decide⟩)).trans hf_b⟩
      refine GoOn.step (fun t₀ k₀ => XS.iload X26.here hx rfl (hb hby at_235) rfl k₀) ?_
      show GoOn p e below _ (T26.setTop (mkF m 237 #[.val (.int q0), .val (.int q1), .val (.int q2), .val (.long q3), .second, .val (.int o), .val (.int fl), .val (.ref a), .val (.int u), .val (.int v9), .val (.int (1 : Int32)), .val (.ref b), .val (.int (9 : Int32)), .val (.int (254 : Int32)), .unset] [(.int (9 : Int32))]))
      refine GoOn.step (fun t₀ k₀ => XS.bipush X26.here hx rfl (hb hby at_237) k₀) ?_
      show GoOn p e below _ (T26.setTop (mkF m 239 #[.val (.int q0), .val (.int q1), .val (.int q2), .val (.long q3), .second, .val (.int o), .val (.int fl), .val (.ref a), .val (.int u), .val (.int v9), .val (.int (1 : Int32)), .val (.ref b), .val (.int (9 : Int32)), .val (.int (254 : Int32)), .unset] [(.int (9 : Int32)), (.int (9 : Int32))]))
      have hf27 : (9 : Int32) = (9 : Int32) := (by decide)
      refine GoOn.step (fun t₀ k₀ => XS.icmpNo X26.here hx rfl (hb hby at_239) rfl (teq hf27).2 k₀) ?_
      show GoOn p e below _ (T26.setTop (mkF m 242 #[.val (.int q0), .val (.int q1), .val (.int q2), .val (.long q3), .second, .val (.int o), .val (.int fl), .val (.ref a), .val (.int u), .val (.int v9), .val (.int (1 : Int32)), .val (.ref b), .val (.int (9 : Int32)), .val (.int (254 : Int32)), .unset] []))
      refine GoOn.step (fun t₀ k₀ => XS.aload X26.here hx rfl (hb hby at_242) rfl rfl k₀) ?_
      show GoOn p e below _ (T26.setTop (mkF m 244 #[.val (.int q0), .val (.int q1), .val (.int q2), .val (.long q3), .second, .val (.int o), .val (.int fl), .val (.ref a), .val (.int u), .val (.int v9), .val (.int (1 : Int32)), .val (.ref b), .val (.int (9 : Int32)), .val (.int (254 : Int32)), .unset] [(.ref b)]))
      refine GoOn.step (fun t₀ k₀ => XS.iload X26.here hx rfl (hb hby at_244) rfl k₀) ?_
      show GoOn p e below _ (T26.setTop (mkF m 246 #[.val (.int q0), .val (.int q1), .val (.int q2), .val (.long q3), .second, .val (.int o), .val (.int fl), .val (.ref a), .val (.int u), .val (.int v9), .val (.int (1 : Int32)), .val (.ref b), .val (.int (9 : Int32)), .val (.int (254 : Int32)), .unset] [(.int o), (.ref b)]))
      refine GoOn.step (fun t₀ k₀ => XS.iconst X26.here hx rfl (hb hby at_246) k₀) ?_
      show GoOn p e below _ (T26.setTop (mkF m 247 #[.val (.int q0), .val (.int q1), .val (.int q2), .val (.long q3), .second, .val (.int o), .val (.int fl), .val (.ref a), .val (.int u), .val (.int v9), .val (.int (1 : Int32)), .val (.ref b), .val (.int (9 : Int32)), .val (.int (254 : Int32)), .unset] [(.int (4 : Int32)), (.int o), (.ref b)]))
      refine GoOn.step (fun t₀ k₀ => XS.iadd X26.here hx rfl (hb hby at_247) rfl k₀) ?_
      show GoOn p e below _ (T26.setTop (mkF m 248 #[.val (.int q0), .val (.int q1), .val (.int q2), .val (.long q3), .second, .val (.int o), .val (.int fl), .val (.ref a), .val (.int u), .val (.int v9), .val (.int (1 : Int32)), .val (.ref b), .val (.int (9 : Int32)), .val (.int (254 : Int32)), .unset] [(.int (o + (4 : Int32))), (.ref b)]))
      refine GoOn.step (fun t₀ k₀ => XS.lloadN X26.here hx rfl (hb hby at_248) rfl k₀) ?_
      show GoOn p e below _ (T26.setTop (mkF m 249 #[.val (.int q0), .val (.int q1), .val (.int q2), .val (.long q3), .second, .val (.int o), .val (.int fl), .val (.ref a), .val (.int u), .val (.int v9), .val (.int (1 : Int32)), .val (.ref b), .val (.int (9 : Int32)), .val (.int (254 : Int32)), .unset] [(.long q3), (.int (o + (4 : Int32))), (.ref b)]))
      refine GoOn.step (fun t₀ k₀ => XS.bipush X26.here hx rfl (hb hby at_249) k₀) ?_
      show GoOn p e below _ (T26.setTop (mkF m 251 #[.val (.int q0), .val (.int q1), .val (.int q2), .val (.long q3), .second, .val (.int o), .val (.int fl), .val (.ref a), .val (.int u), .val (.int v9), .val (.int (1 : Int32)), .val (.ref b), .val (.int (9 : Int32)), .val (.int (254 : Int32)), .unset] [(.int (24 : Int32)), (.long q3), (.int (o + (4 : Int32))), (.ref b)]))
      refine GoOn.step (fun t₀ k₀ => XS.lushr X26.here hx rfl (hb hby at_251) rfl k₀) ?_
      show GoOn p e below _ (T26.setTop (mkF m 252 #[.val (.int q0), .val (.int q1), .val (.int q2), .val (.long q3), .second, .val (.int o), .val (.int fl), .val (.ref a), .val (.int u), .val (.int v9), .val (.int (1 : Int32)), .val (.ref b), .val (.int (9 : Int32)), .val (.int (254 : Int32)), .unset] [(.long ((q3.toUInt64 >>> ((24 : Int32) &&& 0x3f).toInt64.toUInt64).toInt64)), (.int (o + (4 : Int32))), (.ref b)]))
      refine GoOn.step (fun t₀ k₀ => XS.l2i X26.here hx rfl (hb hby at_252) rfl k₀) ?_
      show GoOn p e below _ (T26.setTop (mkF m 253 #[.val (.int q0), .val (.int q1), .val (.int q2), .val (.long q3), .second, .val (.int o), .val (.int fl), .val (.ref a), .val (.int u), .val (.int v9), .val (.int (1 : Int32)), .val (.ref b), .val (.int (9 : Int32)), .val (.int (254 : Int32)), .unset] [(.int (((q3.toUInt64 >>> ((24 : Int32) &&& 0x3f).toInt64.toUInt64).toInt64).toInt32)), (.int (o + (4 : Int32))), (.ref b)]))
      refine GoOn.step (fun t₀ k₀ => XS.i2b X26.here hx rfl (hb hby at_253) rfl k₀) ?_
      show GoOn p e below _ (T26.setTop (mkF m 254 #[.val (.int q0), .val (.int q1), .val (.int q2), .val (.long q3), .second, .val (.int o), .val (.int fl), .val (.ref a), .val (.int u), .val (.int v9), .val (.int (1 : Int32)), .val (.ref b), .val (.int (9 : Int32)), .val (.int (254 : Int32)), .unset] [(.int ((((q3.toUInt64 >>> ((24 : Int32) &&& 0x3f).toInt64.toUInt64).toInt64).toInt32).toInt8.toInt32)), (.int (o + (4 : Int32))), (.ref b)]))
      obtain ⟨T28, h28, X28, e28, W28, st28⟩ := kStB X26 hx hZ e26 J_b (j := (o + (4 : Int32))) (ix ho ⟨by decide, by decide⟩) (g := (mkF m 254 #[.val (.int q0), .val (.int q1), .val (.int q2), .val (.long q3), .second, .val (.int o), .val (.int fl), .val (.ref a), .val (.int u), .val (.int v9), .val (.int (1 : Int32)), .val (.ref b), .val (.int (9 : Int32)), .val (.int (254 : Int32)), .unset] [(.int ((((q3.toUInt64 >>> ((24 : Int32) &&& 0x3f).toInt64.toUInt64).toInt64).toInt32).toInt8.toInt32)), (.int (o + (4 : Int32))), (.ref b)])) rfl rfl (hb hby at_254)
      replace N0 := Fr.snoc X28 N0 l_b
      replace J_a := J_a.other W28 ne_a_b
      replace J_b := J_b.set W28
      replace Z0 := Nat.le_trans Z0 (Nat.le_of_eq W28.size.symm)
      refine GoOn.step st28 ?_
      show GoOn p e below _ (T28.setTop (mkF m 255 #[.val (.int q0), .val (.int q1), .val (.int q2), .val (.long q3), .second, .val (.int o), .val (.int fl), .val (.ref a), .val (.int u), .val (.int v9), .val (.int (1 : Int32)), .val (.ref b), .val (.int (9 : Int32)), .val (.int (254 : Int32)), .unset] []))
      obtain ⟨f_b, J_b, hf_b⟩ : ∃ f, Jar Z h28 b .byte 12 f ∧ f o.toNatClampNeg = .int (((254 : Int32).toInt8.toInt32).toInt8.toInt32) := ⟨_, J_b, (if_neg (ixne ho ⟨by decide, by decide⟩)).trans hf_b⟩
      refine GoOn.step (fun t₀ k₀ => XS.aload X28.here hx rfl (hb hby at_255) rfl rfl k₀) ?_
      show GoOn p e below _ (T28.setTop (mkF m 257 #[.val (.int q0), .val (.int q1), .val (.int q2), .val (.long q3), .second, .val (.int o), .val (.int fl), .val (.ref a), .val (.int u), .val (.int v9), .val (.int (1 : Int32)), .val (.ref b), .val (.int (9 : Int32)), .val (.int (254 : Int32)), .unset] [(.ref b)]))
      refine GoOn.step (fun t₀ k₀ => XS.iload X28.here hx rfl (hb hby at_257) rfl k₀) ?_
      show GoOn p e below _ (T28.setTop (mkF m 259 #[.val (.int q0), .val (.int q1), .val (.int q2), .val (.long q3), .second, .val (.int o), .val (.int fl), .val (.ref a), .val (.int u), .val (.int v9), .val (.int (1 : Int32)), .val (.ref b), .val (.int (9 : Int32)), .val (.int (254 : Int32)), .unset] [(.int o), (.ref b)]))
      refine GoOn.step (fun t₀ k₀ => XS.iconst X28.here hx rfl (hb hby at_259) k₀) ?_
      show GoOn p e below _ (T28.setTop (mkF m 260 #[.val (.int q0), .val (.int q1), .val (.int q2), .val (.long q3), .second, .val (.int o), .val (.int fl), .val (.ref a), .val (.int u), .val (.int v9), .val (.int (1 : Int32)), .val (.ref b), .val (.int (9 : Int32)), .val (.int (254 : Int32)), .unset] [(.int (5 : Int32)), (.int o), (.ref b)]))
      refine GoOn.step (fun t₀ k₀ => XS.iadd X28.here hx rfl (hb hby at_260) rfl k₀) ?_
      show GoOn p e below _ (T28.setTop (mkF m 261 #[.val (.int q0), .val (.int q1), .val (.int q2), .val (.long q3), .second, .val (.int o), .val (.int fl), .val (.ref a), .val (.int u), .val (.int v9), .val (.int (1 : Int32)), .val (.ref b), .val (.int (9 : Int32)), .val (.int (254 : Int32)), .unset] [(.int (o + (5 : Int32))), (.ref b)]))
      refine GoOn.step (fun t₀ k₀ => XS.lloadN X28.here hx rfl (hb hby at_261) rfl k₀) ?_
      show GoOn p e below _ (T28.setTop (mkF m 262 #[.val (.int q0), .val (.int q1), .val (.int q2), .val (.long q3), .second, .val (.int o), .val (.int fl), .val (.ref a), .val (.int u), .val (.int v9), .val (.int (1 : Int32)), .val (.ref b), .val (.int (9 : Int32)), .val (.int (254 : Int32)), .unset] [(.long q3), (.int (o + (5 : Int32))), (.ref b)]))
      refine GoOn.step (fun t₀ k₀ => XS.bipush X28.here hx rfl (hb hby at_262) k₀) ?_
      show GoOn p e below _ (T28.setTop (mkF m 264 #[.val (.int q0), .val (.int q1), .val (.int q2), .val (.long q3), .second, .val (.int o), .val (.int fl), .val (.ref a), .val (.int u), .val (.int v9), .val (.int (1 : Int32)), .val (.ref b), .val (.int (9 : Int32)), .val (.int (254 : Int32)), .unset] [(.int (32 : Int32)), (.long q3), (.int (o + (5 : Int32))), (.ref b)]))
      refine GoOn.step (fun t₀ k₀ => XS.lushr X28.here hx rfl (hb hby at_264) rfl k₀) ?_
      show GoOn p e below _ (T28.setTop (mkF m 265 #[.val (.int q0), .val (.int q1), .val (.int q2), .val (.long q3), .second, .val (.int o), .val (.int fl), .val (.ref a), .val (.int u), .val (.int v9), .val (.int (1 : Int32)), .val (.ref b), .val (.int (9 : Int32)), .val (.int (254 : Int32)), .unset] [(.long ((q3.toUInt64 >>> ((32 : Int32) &&& 0x3f).toInt64.toUInt64).toInt64)), (.int (o + (5 : Int32))), (.ref b)]))
      refine GoOn.step (fun t₀ k₀ => XS.l2i X28.here hx rfl (hb hby at_265) rfl k₀) ?_
      show GoOn p e below _ (T28.setTop (mkF m 266 #[.val (.int q0), .val (.int q1), .val (.int q2), .val (.long q3), .second, .val (.int o), .val (.int fl), .val (.ref a), .val (.int u), .val (.int v9), .val (.int (1 : Int32)), .val (.ref b), .val (.int (9 : Int32)), .val (.int (254 : Int32)), .unset] [(.int (((q3.toUInt64 >>> ((32 : Int32) &&& 0x3f).toInt64.toUInt64).toInt64).toInt32)), (.int (o + (5 : Int32))), (.ref b)]))
      refine GoOn.step (fun t₀ k₀ => XS.i2b X28.here hx rfl (hb hby at_266) rfl k₀) ?_
      show GoOn p e below _ (T28.setTop (mkF m 267 #[.val (.int q0), .val (.int q1), .val (.int q2), .val (.long q3), .second, .val (.int o), .val (.int fl), .val (.ref a), .val (.int u), .val (.int v9), .val (.int (1 : Int32)), .val (.ref b), .val (.int (9 : Int32)), .val (.int (254 : Int32)), .unset] [(.int ((((q3.toUInt64 >>> ((32 : Int32) &&& 0x3f).toInt64.toUInt64).toInt64).toInt32).toInt8.toInt32)), (.int (o + (5 : Int32))), (.ref b)]))
      obtain ⟨T29, h29, X29, e29, W29, st29⟩ := kStB X28 hx hZ e28 J_b (j := (o + (5 : Int32))) (ix ho ⟨by decide, by decide⟩) (g := (mkF m 267 #[.val (.int q0), .val (.int q1), .val (.int q2), .val (.long q3), .second, .val (.int o), .val (.int fl), .val (.ref a), .val (.int u), .val (.int v9), .val (.int (1 : Int32)), .val (.ref b), .val (.int (9 : Int32)), .val (.int (254 : Int32)), .unset] [(.int ((((q3.toUInt64 >>> ((32 : Int32) &&& 0x3f).toInt64.toUInt64).toInt64).toInt32).toInt8.toInt32)), (.int (o + (5 : Int32))), (.ref b)])) rfl rfl (hb hby at_267)
      replace N0 := Fr.snoc X29 N0 l_b
      replace J_a := J_a.other W29 ne_a_b
      replace J_b := J_b.set W29
      replace Z0 := Nat.le_trans Z0 (Nat.le_of_eq W29.size.symm)
      refine GoOn.step st29 ?_
      show GoOn p e below _ (T29.setTop (mkF m 268 #[.val (.int q0), .val (.int q1), .val (.int q2), .val (.long q3), .second, .val (.int o), .val (.int fl), .val (.ref a), .val (.int u), .val (.int v9), .val (.int (1 : Int32)), .val (.ref b), .val (.int (9 : Int32)), .val (.int (254 : Int32)), .unset] []))
      obtain ⟨f_b, J_b, hf_b⟩ : ∃ f, Jar Z h29 b .byte 12 f ∧ f o.toNatClampNeg = .int (((254 : Int32).toInt8.toInt32).toInt8.toInt32) := ⟨_, J_b, (if_neg (ixne ho ⟨by decide, by decide⟩)).trans hf_b⟩
      refine GoOn.step (fun t₀ k₀ => XS.aload X29.here hx rfl (hb hby at_268) rfl rfl k₀) ?_
      show GoOn p e below _ (T29.setTop (mkF m 270 #[.val (.int q0), .val (.int q1), .val (.int q2), .val (.long q3), .second, .val (.int o), .val (.int fl), .val (.ref a), .val (.int u), .val (.int v9), .val (.int (1 : Int32)), .val (.ref b), .val (.int (9 : Int32)), .val (.int (254 : Int32)), .unset] [(.ref b)]))
      refine GoOn.step (fun t₀ k₀ => XS.iload X29.here hx rfl (hb hby at_270) rfl k₀) ?_
      show GoOn p e below _ (T29.setTop (mkF m 272 #[.val (.int q0), .val (.int q1), .val (.int q2), .val (.long q3), .second, .val (.int o), .val (.int fl), .val (.ref a), .val (.int u), .val (.int v9), .val (.int (1 : Int32)), .val (.ref b), .val (.int (9 : Int32)), .val (.int (254 : Int32)), .unset] [(.int o), (.ref b)]))
      refine GoOn.step (fun t₀ k₀ => XS.bipush X29.here hx rfl (hb hby at_272) k₀) ?_
      show GoOn p e below _ (T29.setTop (mkF m 274 #[.val (.int q0), .val (.int q1), .val (.int q2), .val (.long q3), .second, .val (.int o), .val (.int fl), .val (.ref a), .val (.int u), .val (.int v9), .val (.int (1 : Int32)), .val (.ref b), .val (.int (9 : Int32)), .val (.int (254 : Int32)), .unset] [(.int (6 : Int32)), (.int o), (.ref b)]))
      refine GoOn.step (fun t₀ k₀ => XS.iadd X29.here hx rfl (hb hby at_274) rfl k₀) ?_
      show GoOn p e below _ (T29.setTop (mkF m 275 #[.val (.int q0), .val (.int q1), .val (.int q2), .val (.long q3), .second, .val (.int o), .val (.int fl), .val (.ref a), .val (.int u), .val (.int v9), .val (.int (1 : Int32)), .val (.ref b), .val (.int (9 : Int32)), .val (.int (254 : Int32)), .unset] [(.int (o + (6 : Int32))), (.ref b)]))
      refine GoOn.step (fun t₀ k₀ => XS.lloadN X29.here hx rfl (hb hby at_275) rfl k₀) ?_
      show GoOn p e below _ (T29.setTop (mkF m 276 #[.val (.int q0), .val (.int q1), .val (.int q2), .val (.long q3), .second, .val (.int o), .val (.int fl), .val (.ref a), .val (.int u), .val (.int v9), .val (.int (1 : Int32)), .val (.ref b), .val (.int (9 : Int32)), .val (.int (254 : Int32)), .unset] [(.long q3), (.int (o + (6 : Int32))), (.ref b)]))
      refine GoOn.step (fun t₀ k₀ => XS.bipush X29.here hx rfl (hb hby at_276) k₀) ?_
      show GoOn p e below _ (T29.setTop (mkF m 278 #[.val (.int q0), .val (.int q1), .val (.int q2), .val (.long q3), .second, .val (.int o), .val (.int fl), .val (.ref a), .val (.int u), .val (.int v9), .val (.int (1 : Int32)), .val (.ref b), .val (.int (9 : Int32)), .val (.int (254 : Int32)), .unset] [(.int (40 : Int32)), (.long q3), (.int (o + (6 : Int32))), (.ref b)]))
      refine GoOn.step (fun t₀ k₀ => XS.lushr X29.here hx rfl (hb hby at_278) rfl k₀) ?_
      show GoOn p e below _ (T29.setTop (mkF m 279 #[.val (.int q0), .val (.int q1), .val (.int q2), .val (.long q3), .second, .val (.int o), .val (.int fl), .val (.ref a), .val (.int u), .val (.int v9), .val (.int (1 : Int32)), .val (.ref b), .val (.int (9 : Int32)), .val (.int (254 : Int32)), .unset] [(.long ((q3.toUInt64 >>> ((40 : Int32) &&& 0x3f).toInt64.toUInt64).toInt64)), (.int (o + (6 : Int32))), (.ref b)]))
      refine GoOn.step (fun t₀ k₀ => XS.l2i X29.here hx rfl (hb hby at_279) rfl k₀) ?_
      show GoOn p e below _ (T29.setTop (mkF m 280 #[.val (.int q0), .val (.int q1), .val (.int q2), .val (.long q3), .second, .val (.int o), .val (.int fl), .val (.ref a), .val (.int u), .val (.int v9), .val (.int (1 : Int32)), .val (.ref b), .val (.int (9 : Int32)), .val (.int (254 : Int32)), .unset] [(.int (((q3.toUInt64 >>> ((40 : Int32) &&& 0x3f).toInt64.toUInt64).toInt64).toInt32)), (.int (o + (6 : Int32))), (.ref b)]))
      refine GoOn.step (fun t₀ k₀ => XS.i2b X29.here hx rfl (hb hby at_280) rfl k₀) ?_
      show GoOn p e below _ (T29.setTop (mkF m 281 #[.val (.int q0), .val (.int q1), .val (.int q2), .val (.long q3), .second, .val (.int o), .val (.int fl), .val (.ref a), .val (.int u), .val (.int v9), .val (.int (1 : Int32)), .val (.ref b), .val (.int (9 : Int32)), .val (.int (254 : Int32)), .unset] [(.int ((((q3.toUInt64 >>> ((40 : Int32) &&& 0x3f).toInt64.toUInt64).toInt64).toInt32).toInt8.toInt32)), (.int (o + (6 : Int32))), (.ref b)]))
      obtain ⟨T30, h30, X30, e30, W30, st30⟩ := kStB X29 hx hZ e29 J_b (j := (o + (6 : Int32))) (ix ho ⟨by decide, by decide⟩) (g := (mkF m 281 #[.val (.int q0), .val (.int q1), .val (.int q2), .val (.long q3), .second, .val (.int o), .val (.int fl), .val (.ref a), .val (.int u), .val (.int v9), .val (.int (1 : Int32)), .val (.ref b), .val (.int (9 : Int32)), .val (.int (254 : Int32)), .unset] [(.int ((((q3.toUInt64 >>> ((40 : Int32) &&& 0x3f).toInt64.toUInt64).toInt64).toInt32).toInt8.toInt32)), (.int (o + (6 : Int32))), (.ref b)])) rfl rfl (hb hby at_281)
      replace N0 := Fr.snoc X30 N0 l_b
      replace J_a := J_a.other W30 ne_a_b
      replace J_b := J_b.set W30
      replace Z0 := Nat.le_trans Z0 (Nat.le_of_eq W30.size.symm)
      refine GoOn.step st30 ?_
      show GoOn p e below _ (T30.setTop (mkF m 282 #[.val (.int q0), .val (.int q1), .val (.int q2), .val (.long q3), .second, .val (.int o), .val (.int fl), .val (.ref a), .val (.int u), .val (.int v9), .val (.int (1 : Int32)), .val (.ref b), .val (.int (9 : Int32)), .val (.int (254 : Int32)), .unset] []))
      obtain ⟨f_b, J_b, hf_b⟩ : ∃ f, Jar Z h30 b .byte 12 f ∧ f o.toNatClampNeg = .int (((254 : Int32).toInt8.toInt32).toInt8.toInt32) := ⟨_, J_b, (if_neg (ixne ho ⟨by decide, by decide⟩)).trans hf_b⟩
      refine GoOn.step (fun t₀ k₀ => XS.aload X30.here hx rfl (hb hby at_282) rfl rfl k₀) ?_
      show GoOn p e below _ (T30.setTop (mkF m 284 #[.val (.int q0), .val (.int q1), .val (.int q2), .val (.long q3), .second, .val (.int o), .val (.int fl), .val (.ref a), .val (.int u), .val (.int v9), .val (.int (1 : Int32)), .val (.ref b), .val (.int (9 : Int32)), .val (.int (254 : Int32)), .unset] [(.ref b)]))
      refine GoOn.step (fun t₀ k₀ => XS.iload X30.here hx rfl (hb hby at_284) rfl k₀) ?_
      show GoOn p e below _ (T30.setTop (mkF m 286 #[.val (.int q0), .val (.int q1), .val (.int q2), .val (.long q3), .second, .val (.int o), .val (.int fl), .val (.ref a), .val (.int u), .val (.int v9), .val (.int (1 : Int32)), .val (.ref b), .val (.int (9 : Int32)), .val (.int (254 : Int32)), .unset] [(.int o), (.ref b)]))
      refine GoOn.step (fun t₀ k₀ => XS.bipush X30.here hx rfl (hb hby at_286) k₀) ?_
      show GoOn p e below _ (T30.setTop (mkF m 288 #[.val (.int q0), .val (.int q1), .val (.int q2), .val (.long q3), .second, .val (.int o), .val (.int fl), .val (.ref a), .val (.int u), .val (.int v9), .val (.int (1 : Int32)), .val (.ref b), .val (.int (9 : Int32)), .val (.int (254 : Int32)), .unset] [(.int (7 : Int32)), (.int o), (.ref b)]))
      refine GoOn.step (fun t₀ k₀ => XS.iadd X30.here hx rfl (hb hby at_288) rfl k₀) ?_
      show GoOn p e below _ (T30.setTop (mkF m 289 #[.val (.int q0), .val (.int q1), .val (.int q2), .val (.long q3), .second, .val (.int o), .val (.int fl), .val (.ref a), .val (.int u), .val (.int v9), .val (.int (1 : Int32)), .val (.ref b), .val (.int (9 : Int32)), .val (.int (254 : Int32)), .unset] [(.int (o + (7 : Int32))), (.ref b)]))
      refine GoOn.step (fun t₀ k₀ => XS.lloadN X30.here hx rfl (hb hby at_289) rfl k₀) ?_
      show GoOn p e below _ (T30.setTop (mkF m 290 #[.val (.int q0), .val (.int q1), .val (.int q2), .val (.long q3), .second, .val (.int o), .val (.int fl), .val (.ref a), .val (.int u), .val (.int v9), .val (.int (1 : Int32)), .val (.ref b), .val (.int (9 : Int32)), .val (.int (254 : Int32)), .unset] [(.long q3), (.int (o + (7 : Int32))), (.ref b)]))
      refine GoOn.step (fun t₀ k₀ => XS.bipush X30.here hx rfl (hb hby at_290) k₀) ?_
      show GoOn p e below _ (T30.setTop (mkF m 292 #[.val (.int q0), .val (.int q1), .val (.int q2), .val (.long q3), .second, .val (.int o), .val (.int fl), .val (.ref a), .val (.int u), .val (.int v9), .val (.int (1 : Int32)), .val (.ref b), .val (.int (9 : Int32)), .val (.int (254 : Int32)), .unset] [(.int (48 : Int32)), (.long q3), (.int (o + (7 : Int32))), (.ref b)]))
      refine GoOn.step (fun t₀ k₀ => XS.lushr X30.here hx rfl (hb hby at_292) rfl k₀) ?_
      show GoOn p e below _ (T30.setTop (mkF m 293 #[.val (.int q0), .val (.int q1), .val (.int q2), .val (.long q3), .second, .val (.int o), .val (.int fl), .val (.ref a), .val (.int u), .val (.int v9), .val (.int (1 : Int32)), .val (.ref b), .val (.int (9 : Int32)), .val (.int (254 : Int32)), .unset] [(.long ((q3.toUInt64 >>> ((48 : Int32) &&& 0x3f).toInt64.toUInt64).toInt64)), (.int (o + (7 : Int32))), (.ref b)]))
      refine GoOn.step (fun t₀ k₀ => XS.l2i X30.here hx rfl (hb hby at_293) rfl k₀) ?_
      show GoOn p e below _ (T30.setTop (mkF m 294 #[.val (.int q0), .val (.int q1), .val (.int q2), .val (.long q3), .second, .val (.int o), .val (.int fl), .val (.ref a), .val (.int u), .val (.int v9), .val (.int (1 : Int32)), .val (.ref b), .val (.int (9 : Int32)), .val (.int (254 : Int32)), .unset] [(.int (((q3.toUInt64 >>> ((48 : Int32) &&& 0x3f).toInt64.toUInt64).toInt64).toInt32)), (.int (o + (7 : Int32))), (.ref b)]))
      refine GoOn.step (fun t₀ k₀ => XS.i2b X30.here hx rfl (hb hby at_294) rfl k₀) ?_
      show GoOn p e below _ (T30.setTop (mkF m 295 #[.val (.int q0), .val (.int q1), .val (.int q2), .val (.long q3), .second, .val (.int o), .val (.int fl), .val (.ref a), .val (.int u), .val (.int v9), .val (.int (1 : Int32)), .val (.ref b), .val (.int (9 : Int32)), .val (.int (254 : Int32)), .unset] [(.int ((((q3.toUInt64 >>> ((48 : Int32) &&& 0x3f).toInt64.toUInt64).toInt64).toInt32).toInt8.toInt32)), (.int (o + (7 : Int32))), (.ref b)]))
      obtain ⟨T31, h31, X31, e31, W31, st31⟩ := kStB X30 hx hZ e30 J_b (j := (o + (7 : Int32))) (ix ho ⟨by decide, by decide⟩) (g := (mkF m 295 #[.val (.int q0), .val (.int q1), .val (.int q2), .val (.long q3), .second, .val (.int o), .val (.int fl), .val (.ref a), .val (.int u), .val (.int v9), .val (.int (1 : Int32)), .val (.ref b), .val (.int (9 : Int32)), .val (.int (254 : Int32)), .unset] [(.int ((((q3.toUInt64 >>> ((48 : Int32) &&& 0x3f).toInt64.toUInt64).toInt64).toInt32).toInt8.toInt32)), (.int (o + (7 : Int32))), (.ref b)])) rfl rfl (hb hby at_295)
      replace N0 := Fr.snoc X31 N0 l_b
      replace J_a := J_a.other W31 ne_a_b
      replace J_b := J_b.set W31
      replace Z0 := Nat.le_trans Z0 (Nat.le_of_eq W31.size.symm)
      refine GoOn.step st31 ?_
      show GoOn p e below _ (T31.setTop (mkF m 296 #[.val (.int q0), .val (.int q1), .val (.int q2), .val (.long q3), .second, .val (.int o), .val (.int fl), .val (.ref a), .val (.int u), .val (.int v9), .val (.int (1 : Int32)), .val (.ref b), .val (.int (9 : Int32)), .val (.int (254 : Int32)), .unset] []))
      obtain ⟨f_b, J_b, hf_b⟩ : ∃ f, Jar Z h31 b .byte 12 f ∧ f o.toNatClampNeg = .int (((254 : Int32).toInt8.toInt32).toInt8.toInt32) := ⟨_, J_b, (if_neg (ixne ho ⟨by decide, by decide⟩)).trans hf_b⟩
      refine GoOn.step (fun t₀ k₀ => XS.aload X31.here hx rfl (hb hby at_296) rfl rfl k₀) ?_
      show GoOn p e below _ (T31.setTop (mkF m 298 #[.val (.int q0), .val (.int q1), .val (.int q2), .val (.long q3), .second, .val (.int o), .val (.int fl), .val (.ref a), .val (.int u), .val (.int v9), .val (.int (1 : Int32)), .val (.ref b), .val (.int (9 : Int32)), .val (.int (254 : Int32)), .unset] [(.ref b)]))
      refine GoOn.step (fun t₀ k₀ => XS.iload X31.here hx rfl (hb hby at_298) rfl k₀) ?_
      show GoOn p e below _ (T31.setTop (mkF m 300 #[.val (.int q0), .val (.int q1), .val (.int q2), .val (.long q3), .second, .val (.int o), .val (.int fl), .val (.ref a), .val (.int u), .val (.int v9), .val (.int (1 : Int32)), .val (.ref b), .val (.int (9 : Int32)), .val (.int (254 : Int32)), .unset] [(.int o), (.ref b)]))
      refine GoOn.step (fun t₀ k₀ => XS.bipush X31.here hx rfl (hb hby at_300) k₀) ?_
      show GoOn p e below _ (T31.setTop (mkF m 302 #[.val (.int q0), .val (.int q1), .val (.int q2), .val (.long q3), .second, .val (.int o), .val (.int fl), .val (.ref a), .val (.int u), .val (.int v9), .val (.int (1 : Int32)), .val (.ref b), .val (.int (9 : Int32)), .val (.int (254 : Int32)), .unset] [(.int (8 : Int32)), (.int o), (.ref b)]))
      refine GoOn.step (fun t₀ k₀ => XS.iadd X31.here hx rfl (hb hby at_302) rfl k₀) ?_
      show GoOn p e below _ (T31.setTop (mkF m 303 #[.val (.int q0), .val (.int q1), .val (.int q2), .val (.long q3), .second, .val (.int o), .val (.int fl), .val (.ref a), .val (.int u), .val (.int v9), .val (.int (1 : Int32)), .val (.ref b), .val (.int (9 : Int32)), .val (.int (254 : Int32)), .unset] [(.int (o + (8 : Int32))), (.ref b)]))
      refine GoOn.step (fun t₀ k₀ => XS.lloadN X31.here hx rfl (hb hby at_303) rfl k₀) ?_
      show GoOn p e below _ (T31.setTop (mkF m 304 #[.val (.int q0), .val (.int q1), .val (.int q2), .val (.long q3), .second, .val (.int o), .val (.int fl), .val (.ref a), .val (.int u), .val (.int v9), .val (.int (1 : Int32)), .val (.ref b), .val (.int (9 : Int32)), .val (.int (254 : Int32)), .unset] [(.long q3), (.int (o + (8 : Int32))), (.ref b)]))
      refine GoOn.step (fun t₀ k₀ => XS.bipush X31.here hx rfl (hb hby at_304) k₀) ?_
      show GoOn p e below _ (T31.setTop (mkF m 306 #[.val (.int q0), .val (.int q1), .val (.int q2), .val (.long q3), .second, .val (.int o), .val (.int fl), .val (.ref a), .val (.int u), .val (.int v9), .val (.int (1 : Int32)), .val (.ref b), .val (.int (9 : Int32)), .val (.int (254 : Int32)), .unset] [(.int (56 : Int32)), (.long q3), (.int (o + (8 : Int32))), (.ref b)]))
      refine GoOn.step (fun t₀ k₀ => XS.lushr X31.here hx rfl (hb hby at_306) rfl k₀) ?_
      show GoOn p e below _ (T31.setTop (mkF m 307 #[.val (.int q0), .val (.int q1), .val (.int q2), .val (.long q3), .second, .val (.int o), .val (.int fl), .val (.ref a), .val (.int u), .val (.int v9), .val (.int (1 : Int32)), .val (.ref b), .val (.int (9 : Int32)), .val (.int (254 : Int32)), .unset] [(.long ((q3.toUInt64 >>> ((56 : Int32) &&& 0x3f).toInt64.toUInt64).toInt64)), (.int (o + (8 : Int32))), (.ref b)]))
      refine GoOn.step (fun t₀ k₀ => XS.l2i X31.here hx rfl (hb hby at_307) rfl k₀) ?_
      show GoOn p e below _ (T31.setTop (mkF m 308 #[.val (.int q0), .val (.int q1), .val (.int q2), .val (.long q3), .second, .val (.int o), .val (.int fl), .val (.ref a), .val (.int u), .val (.int v9), .val (.int (1 : Int32)), .val (.ref b), .val (.int (9 : Int32)), .val (.int (254 : Int32)), .unset] [(.int (((q3.toUInt64 >>> ((56 : Int32) &&& 0x3f).toInt64.toUInt64).toInt64).toInt32)), (.int (o + (8 : Int32))), (.ref b)]))
      refine GoOn.step (fun t₀ k₀ => XS.i2b X31.here hx rfl (hb hby at_308) rfl k₀) ?_
      show GoOn p e below _ (T31.setTop (mkF m 309 #[.val (.int q0), .val (.int q1), .val (.int q2), .val (.long q3), .second, .val (.int o), .val (.int fl), .val (.ref a), .val (.int u), .val (.int v9), .val (.int (1 : Int32)), .val (.ref b), .val (.int (9 : Int32)), .val (.int (254 : Int32)), .unset] [(.int ((((q3.toUInt64 >>> ((56 : Int32) &&& 0x3f).toInt64.toUInt64).toInt64).toInt32).toInt8.toInt32)), (.int (o + (8 : Int32))), (.ref b)]))
      obtain ⟨T32, h32, X32, e32, W32, st32⟩ := kStB X31 hx hZ e31 J_b (j := (o + (8 : Int32))) (ix ho ⟨by decide, by decide⟩) (g := (mkF m 309 #[.val (.int q0), .val (.int q1), .val (.int q2), .val (.long q3), .second, .val (.int o), .val (.int fl), .val (.ref a), .val (.int u), .val (.int v9), .val (.int (1 : Int32)), .val (.ref b), .val (.int (9 : Int32)), .val (.int (254 : Int32)), .unset] [(.int ((((q3.toUInt64 >>> ((56 : Int32) &&& 0x3f).toInt64.toUInt64).toInt64).toInt32).toInt8.toInt32)), (.int (o + (8 : Int32))), (.ref b)])) rfl rfl (hb hby at_309)
      replace N0 := Fr.snoc X32 N0 l_b
      replace J_a := J_a.other W32 ne_a_b
      replace J_b := J_b.set W32
      replace Z0 := Nat.le_trans Z0 (Nat.le_of_eq W32.size.symm)
      refine GoOn.step st32 ?_
      show GoOn p e below _ (T32.setTop (mkF m 310 #[.val (.int q0), .val (.int q1), .val (.int q2), .val (.long q3), .second, .val (.int o), .val (.int fl), .val (.ref a), .val (.int u), .val (.int v9), .val (.int (1 : Int32)), .val (.ref b), .val (.int (9 : Int32)), .val (.int (254 : Int32)), .unset] []))
      obtain ⟨f_b, J_b, hf_b⟩ : ∃ f, Jar Z h32 b .byte 12 f ∧ f o.toNatClampNeg = .int (((254 : Int32).toInt8.toInt32).toInt8.toInt32) := ⟨_, J_b, (if_neg (ixne ho ⟨by decide, by decide⟩)).trans hf_b⟩
      refine GoOn.step (fun t₀ k₀ => XS.aload X32.here hx rfl (hb hby at_310) rfl rfl k₀) ?_
      show GoOn p e below _ (T32.setTop (mkF m 312 #[.val (.int q0), .val (.int q1), .val (.int q2), .val (.long q3), .second, .val (.int o), .val (.int fl), .val (.ref a), .val (.int u), .val (.int v9), .val (.int (1 : Int32)), .val (.ref b), .val (.int (9 : Int32)), .val (.int (254 : Int32)), .unset] [(.ref b)]))
      refine GoOn.step (fun t₀ k₀ => XS.iload X32.here hx rfl (hb hby at_312) rfl k₀) ?_
      show GoOn p e below _ (T32.setTop (mkF m 314 #[.val (.int q0), .val (.int q1), .val (.int q2), .val (.long q3), .second, .val (.int o), .val (.int fl), .val (.ref a), .val (.int u), .val (.int v9), .val (.int (1 : Int32)), .val (.ref b), .val (.int (9 : Int32)), .val (.int (254 : Int32)), .unset] [(.int o), (.ref b)]))
      obtain ⟨_, T33, L33, X33, hQ33, st33⟩ := kCallS X32 hx hZ (argsL := [(.ref b), (.int o)]) (rest := []) (c_les l Z a0 hw b o _ f_b _ J_b ho' hf_b) hown (hw _ (List.mem_of_getElem? (i := 5) rfl)) (hw _ (List.mem_of_getElem? (i := 6) rfl)) (hw _ (List.mem_of_getElem? (i := 7) rfl)) (hw _ (List.mem_of_getElem? (i := 8) rfl)) (by decide) e32 (g := (mkF m 314 #[.val (.int q0), .val (.int q1), .val (.int q2), .val (.long q3), .second, .val (.int o), .val (.int fl), .val (.ref a), .val (.int u), .val (.int v9), .val (.int (1 : Int32)), .val (.ref b), .val (.int (9 : Int32)), .val (.int (254 : Int32)), .unset] [(.int o), (.ref b)])) rfl (by rw [hml]; rfl) (lenOf pd_1 rfl) rfl (W := 0) (by show 2 * 0 + _ ≤ _; exact Nat.le_of_eq rfl) (hb hby at_314) (by decide) (by decide) (by decide) (by decide)
      obtain ⟨rfl, rfl, e33⟩ := hQ33
      rw [List.append_nil] at X33
      refine GoOn.step st33 ?_
      show GoOn p e below _ (T33.setTop (mkF m 317 #[.val (.int q0), .val (.int q1), .val (.int q2), .val (.long q3), .second, .val (.int o), .val (.int fl), .val (.ref a), .val (.int u), .val (.int v9), .val (.int (1 : Int32)), .val (.ref b), .val (.int (9 : Int32)), .val (.int (254 : Int32)), .unset] [(.int (lesz ((((254 : Int32).toInt8.toInt32).toInt8.toInt32) &&& (255 : Int32))))]))
      refine GoOn.step (fun t₀ k₀ => XS.iload X33.here hx rfl (hb hby at_317) rfl k₀) ?_
      show GoOn p e below _ (T33.setTop (mkF m 319 #[.val (.int q0), .val (.int q1), .val (.int q2), .val (.long q3), .second, .val (.int o), .val (.int fl), .val (.ref a), .val (.int u), .val (.int v9), .val (.int (1 : Int32)), .val (.ref b), .val (.int (9 : Int32)), .val (.int (254 : Int32)), .unset] [(.int (9 : Int32)), (.int (lesz ((((254 : Int32).toInt8.toInt32).toInt8.toInt32) &&& (255 : Int32))))]))
      have hf34 : (lesz ((((254 : Int32).toInt8.toInt32).toInt8.toInt32) &&& (255 : Int32))) = (9 : Int32) := (by rw [pl_byte]; exact (by decide))
      refine GoOn.step (fun t₀ k₀ => XS.icmpNo X33.here hx rfl (hb hby at_319) rfl (teq hf34).2 k₀) ?_
      show GoOn p e below _ (T33.setTop (mkF m 322 #[.val (.int q0), .val (.int q1), .val (.int q2), .val (.long q3), .second, .val (.int o), .val (.int fl), .val (.ref a), .val (.int u), .val (.int v9), .val (.int (1 : Int32)), .val (.ref b), .val (.int (9 : Int32)), .val (.int (254 : Int32)), .unset] []))
      refine GoOn.step (fun t₀ k₀ => XS.iconst X33.here hx rfl (hb hby at_322) k₀) ?_
      show GoOn p e below _ (T33.setTop (mkF m 323 #[.val (.int q0), .val (.int q1), .val (.int q2), .val (.long q3), .second, .val (.int o), .val (.int fl), .val (.ref a), .val (.int u), .val (.int v9), .val (.int (1 : Int32)), .val (.ref b), .val (.int (9 : Int32)), .val (.int (254 : Int32)), .unset] [(.int (1 : Int32))]))
      refine GoOn.step (fun t₀ k₀ => XS.goto X33.here hx rfl (pc0 := 323) (pc' := 327) rfl (hb hby at_323) (by decide) (by decide) k₀) ?_
      show GoOn p e below _ (T33.setTop (mkF m 327 #[.val (.int q0), .val (.int q1), .val (.int q2), .val (.long q3), .second, .val (.int o), .val (.int fl), .val (.ref a), .val (.int u), .val (.int v9), .val (.int (1 : Int32)), .val (.ref b), .val (.int (9 : Int32)), .val (.int (254 : Int32)), .unset] [(.int (1 : Int32))]))
      refine GoOn.step (fun t₀ k₀ => XS.istore X33.here hx rfl (hb hby at_327) rfl (l' := #[.val (.int q0), .val (.int q1), .val (.int q2), .val (.long q3), .second, .val (.int o), .val (.int fl), .val (.ref a), .val (.int u), .val (.int v9), .val (.int (1 : Int32)), .val (.ref b), .val (.int (9 : Int32)), .val (.int (254 : Int32)), .val (.int (1 : Int32))]) rfl k₀) ?_
      show GoOn p e below _ (T33.setTop (mkF m 329 #[.val (.int q0), .val (.int q1), .val (.int q2), .val (.long q3), .second, .val (.int o), .val (.int fl), .val (.ref a), .val (.int u), .val (.int v9), .val (.int (1 : Int32)), .val (.ref b), .val (.int (9 : Int32)), .val (.int (254 : Int32)), .val (.int (1 : Int32))] []))
      refine GoOn.step (fun t₀ k₀ => XS.iload X33.here hx rfl (hb hby at_329) rfl k₀) ?_
      show GoOn p e below _ (T33.setTop (mkF m 331 #[.val (.int q0), .val (.int q1), .val (.int q2), .val (.long q3), .second, .val (.int o), .val (.int fl), .val (.ref a), .val (.int u), .val (.int v9), .val (.int (1 : Int32)), .val (.ref b), .val (.int (9 : Int32)), .val (.int (254 : Int32)), .val (.int (1 : Int32))] [(.int (1 : Int32))]))
      have hf35 : ¬ ((1 : Int32) = (0 : Int32)) := (by decide)
      refine GoOn.step (fun t₀ k₀ => XS.ifNo X33.here hx rfl (hb hby at_331) rfl ((if0 _ _).trans (feq hf35).1) k₀) ?_
      show GoOn p e below _ (T33.setTop (mkF m 334 #[.val (.int q0), .val (.int q1), .val (.int q2), .val (.long q3), .second, .val (.int o), .val (.int fl), .val (.ref a), .val (.int u), .val (.int v9), .val (.int (1 : Int32)), .val (.ref b), .val (.int (9 : Int32)), .val (.int (254 : Int32)), .val (.int (1 : Int32))] []))
      refine GoOn.step (fun t₀ k₀ => XS.iload X33.here hx rfl (hb hby at_334) rfl k₀) ?_
      show GoOn p e below _ (T33.setTop (mkF m 336 #[.val (.int q0), .val (.int q1), .val (.int q2), .val (.long q3), .second, .val (.int o), .val (.int fl), .val (.ref a), .val (.int u), .val (.int v9), .val (.int (1 : Int32)), .val (.ref b), .val (.int (9 : Int32)), .val (.int (254 : Int32)), .val (.int (1 : Int32))] [(.int (1 : Int32))]))
      have hf36 : ¬ ((1 : Int32) = (0 : Int32)) := (by decide)
      refine GoOn.step (fun t₀ k₀ => XS.ifNo X33.here hx rfl (hb hby at_336) rfl ((if0 _ _).trans (feq hf36).1) k₀) ?_
      show GoOn p e below _ (T33.setTop (mkF m 339 #[.val (.int q0), .val (.int q1), .val (.int q2), .val (.long q3), .second, .val (.int o), .val (.int fl), .val (.ref a), .val (.int u), .val (.int v9), .val (.int (1 : Int32)), .val (.ref b), .val (.int (9 : Int32)), .val (.int (254 : Int32)), .val (.int (1 : Int32))] []))
      refine GoOn.step (fun t₀ k₀ => XS.iconst X33.here hx rfl (hb hby at_339) k₀) ?_
      show GoOn p e below _ (T33.setTop (mkF m 340 #[.val (.int q0), .val (.int q1), .val (.int q2), .val (.long q3), .second, .val (.int o), .val (.int fl), .val (.ref a), .val (.int u), .val (.int v9), .val (.int (1 : Int32)), .val (.ref b), .val (.int (9 : Int32)), .val (.int (254 : Int32)), .val (.int (1 : Int32))] [(.int (1 : Int32))]))
      refine GoOn.step (fun t₀ k₀ => XS.goto X33.here hx rfl (pc0 := 340) (pc' := 344) rfl (hb hby at_340) (by decide) (by decide) k₀) ?_
      show GoOn p e below _ (T33.setTop (mkF m 344 #[.val (.int q0), .val (.int q1), .val (.int q2), .val (.long q3), .second, .val (.int o), .val (.int fl), .val (.ref a), .val (.int u), .val (.int v9), .val (.int (1 : Int32)), .val (.ref b), .val (.int (9 : Int32)), .val (.int (254 : Int32)), .val (.int (1 : Int32))] [(.int (1 : Int32))]))
      exact GoOn.retN X33 hx hrt hlk (by simp) (hb hby at_344) (by decide) (by decide) (by first | exact ⟨rfl, N0⟩ | (rw [e33]; exact ⟨rfl, N0⟩))
    · refine GoOn.step (fun t₀ k₀ => XS.ifNo X18.here hx rfl (hb hby at_99) rfl ((if0 _ _).trans (flt (mt (lw_lt _ _).mp v0)).1) k₀) ?_
      show GoOn p e below _ (T18.setTop (mkF m 102 #[.val (.int q0), .val (.int q1), .val (.int q2), .val (.long q3), .second, .val (.int o), .val (.int fl), .val (.ref a), .val (.int u), .val (.int v9), .val (.int (1 : Int32)), .val (.ref b), .unset, .unset, .unset] []))
      refine GoOn.step (fun t₀ k₀ => XS.lloadN X18.here hx rfl (hb hby at_102) rfl k₀) ?_
      show GoOn p e below _ (T18.setTop (mkF m 103 #[.val (.int q0), .val (.int q1), .val (.int q2), .val (.long q3), .second, .val (.int o), .val (.int fl), .val (.ref a), .val (.int u), .val (.int v9), .val (.int (1 : Int32)), .val (.ref b), .unset, .unset, .unset] [(.long q3)]))
      refine GoOn.step (fun t₀ k₀ => X18.ldc2Long hx hown (mvT hZ (hw _ (List.mem_of_getElem? (i := 9) rfl))) (g := (mkF m 103 #[.val (.int q0), .val (.int q1), .val (.int q2), .val (.long q3), .second, .val (.int o), .val (.int fl), .val (.ref a), .val (.int u), .val (.int v9), .val (.int (1 : Int32)), .val (.ref b), .unset, .unset, .unset] [(.long q3)])) rfl (hb hby at_103) t₀ k₀) ?_
      show GoOn p e below _ (T18.setTop (mkF m 106 #[.val (.int q0), .val (.int q1), .val (.int q2), .val (.long q3), .second, .val (.int o), .val (.int fl), .val (.ref a), .val (.int u), .val (.int v9), .val (.int (1 : Int32)), .val (.ref b), .unset, .unset, .unset] [(.long (251 : Int64)), (.long q3)]))
      refine GoOn.step (fun t₀ k₀ => XS.lcmp X18.here hx rfl (hb hby at_106) rfl k₀) ?_
      show GoOn p e below _ (T18.setTop (mkF m 107 #[.val (.int q0), .val (.int q1), .val (.int q2), .val (.long q3), .second, .val (.int o), .val (.int fl), .val (.ref a), .val (.int u), .val (.int v9), .val (.int (1 : Int32)), .val (.ref b), .unset, .unset, .unset] [(.int (lcmpW q3 (251 : Int64)))]))
      by_cases v1 : q3 < (251 : Int64)
      · refine GoOn.step (fun t₀ k₀ => XS.ifNo X18.here hx rfl (hb hby at_107) rfl ((if0 _ _).trans (tlt ((lw_lt _ _).mpr v1)).2.1) k₀) ?_
        show GoOn p e below _ (T18.setTop (mkF m 110 #[.val (.int q0), .val (.int q1), .val (.int q2), .val (.long q3), .second, .val (.int o), .val (.int fl), .val (.ref a), .val (.int u), .val (.int v9), .val (.int (1 : Int32)), .val (.ref b), .unset, .unset, .unset] []))
        refine GoOn.step (fun t₀ k₀ => XS.iconst X18.here hx rfl (hb hby at_110) k₀) ?_
        show GoOn p e below _ (T18.setTop (mkF m 111 #[.val (.int q0), .val (.int q1), .val (.int q2), .val (.long q3), .second, .val (.int o), .val (.int fl), .val (.ref a), .val (.int u), .val (.int v9), .val (.int (1 : Int32)), .val (.ref b), .unset, .unset, .unset] [(.int (1 : Int32))]))
        refine GoOn.step (fun t₀ k₀ => XS.istore X18.here hx rfl (hb hby at_111) rfl (l' := #[.val (.int q0), .val (.int q1), .val (.int q2), .val (.long q3), .second, .val (.int o), .val (.int fl), .val (.ref a), .val (.int u), .val (.int v9), .val (.int (1 : Int32)), .val (.ref b), .val (.int (1 : Int32)), .unset, .unset]) rfl k₀) ?_
        show GoOn p e below _ (T18.setTop (mkF m 113 #[.val (.int q0), .val (.int q1), .val (.int q2), .val (.long q3), .second, .val (.int o), .val (.int fl), .val (.ref a), .val (.int u), .val (.int v9), .val (.int (1 : Int32)), .val (.ref b), .val (.int (1 : Int32)), .unset, .unset] []))
        refine GoOn.step (fun t₀ k₀ => XS.lloadN X18.here hx rfl (hb hby at_113) rfl k₀) ?_
        show GoOn p e below _ (T18.setTop (mkF m 114 #[.val (.int q0), .val (.int q1), .val (.int q2), .val (.long q3), .second, .val (.int o), .val (.int fl), .val (.ref a), .val (.int u), .val (.int v9), .val (.int (1 : Int32)), .val (.ref b), .val (.int (1 : Int32)), .unset, .unset] [(.long q3)]))
        refine GoOn.step (fun t₀ k₀ => XS.l2i X18.here hx rfl (hb hby at_114) rfl k₀) ?_
        show GoOn p e below _ (T18.setTop (mkF m 115 #[.val (.int q0), .val (.int q1), .val (.int q2), .val (.long q3), .second, .val (.int o), .val (.int fl), .val (.ref a), .val (.int u), .val (.int v9), .val (.int (1 : Int32)), .val (.ref b), .val (.int (1 : Int32)), .unset, .unset] [(.int (q3.toInt32))]))
        refine GoOn.step (fun t₀ k₀ => XS.istore X18.here hx rfl (hb hby at_115) rfl (l' := #[.val (.int q0), .val (.int q1), .val (.int q2), .val (.long q3), .second, .val (.int o), .val (.int fl), .val (.ref a), .val (.int u), .val (.int v9), .val (.int (1 : Int32)), .val (.ref b), .val (.int (1 : Int32)), .val (.int (q3.toInt32)), .unset]) rfl k₀) ?_
        show GoOn p e below _ (T18.setTop (mkF m 117 #[.val (.int q0), .val (.int q1), .val (.int q2), .val (.long q3), .second, .val (.int o), .val (.int fl), .val (.ref a), .val (.int u), .val (.int v9), .val (.int (1 : Int32)), .val (.ref b), .val (.int (1 : Int32)), .val (.int (q3.toInt32)), .unset] []))
        refine GoOn.step (fun t₀ k₀ => XS.goto X18.here hx rfl (pc0 := 117) (pc' := 179) rfl (hb hby at_117) (by decide) (by decide) k₀) ?_
        show GoOn p e below _ (T18.setTop (mkF m 179 #[.val (.int q0), .val (.int q1), .val (.int q2), .val (.long q3), .second, .val (.int o), .val (.int fl), .val (.ref a), .val (.int u), .val (.int v9), .val (.int (1 : Int32)), .val (.ref b), .val (.int (1 : Int32)), .val (.int (q3.toInt32)), .unset] []))
        refine GoOn.step (fun t₀ k₀ => XS.aload X18.here hx rfl (hb hby at_179) rfl rfl k₀) ?_
        show GoOn p e below _ (T18.setTop (mkF m 181 #[.val (.int q0), .val (.int q1), .val (.int q2), .val (.long q3), .second, .val (.int o), .val (.int fl), .val (.ref a), .val (.int u), .val (.int v9), .val (.int (1 : Int32)), .val (.ref b), .val (.int (1 : Int32)), .val (.int (q3.toInt32)), .unset] [(.ref b)]))
        refine GoOn.step (fun t₀ k₀ => XS.iload X18.here hx rfl (hb hby at_181) rfl k₀) ?_
        show GoOn p e below _ (T18.setTop (mkF m 183 #[.val (.int q0), .val (.int q1), .val (.int q2), .val (.long q3), .second, .val (.int o), .val (.int fl), .val (.ref a), .val (.int u), .val (.int v9), .val (.int (1 : Int32)), .val (.ref b), .val (.int (1 : Int32)), .val (.int (q3.toInt32)), .unset] [(.int o), (.ref b)]))
        refine GoOn.step (fun t₀ k₀ => XS.iload X18.here hx rfl (hb hby at_183) rfl k₀) ?_
        show GoOn p e below _ (T18.setTop (mkF m 185 #[.val (.int q0), .val (.int q1), .val (.int q2), .val (.long q3), .second, .val (.int o), .val (.int fl), .val (.ref a), .val (.int u), .val (.int v9), .val (.int (1 : Int32)), .val (.ref b), .val (.int (1 : Int32)), .val (.int (q3.toInt32)), .unset] [(.int (q3.toInt32)), (.int o), (.ref b)]))
        refine GoOn.step (fun t₀ k₀ => XS.i2b X18.here hx rfl (hb hby at_185) rfl k₀) ?_
        show GoOn p e below _ (T18.setTop (mkF m 186 #[.val (.int q0), .val (.int q1), .val (.int q2), .val (.long q3), .second, .val (.int o), .val (.int fl), .val (.ref a), .val (.int u), .val (.int v9), .val (.int (1 : Int32)), .val (.ref b), .val (.int (1 : Int32)), .val (.int (q3.toInt32)), .unset] [(.int ((q3.toInt32).toInt8.toInt32)), (.int o), (.ref b)]))
        obtain ⟨T37, h37, X37, e37, W37, st37⟩ := kStB X18 hx hZ rfl J_b (j := o) ho' (g := (mkF m 186 #[.val (.int q0), .val (.int q1), .val (.int q2), .val (.long q3), .second, .val (.int o), .val (.int fl), .val (.ref a), .val (.int u), .val (.int v9), .val (.int (1 : Int32)), .val (.ref b), .val (.int (1 : Int32)), .val (.int (q3.toInt32)), .unset] [(.int ((q3.toInt32).toInt8.toInt32)), (.int o), (.ref b)])) rfl rfl (hb hby at_186)
        replace N0 := Fr.snoc X37 N0 l_b
        replace J_a := J_a.other W37 ne_a_b
        replace J_b := J_b.set W37
        replace Z0 := Nat.le_trans Z0 (Nat.le_of_eq W37.size.symm)
        refine GoOn.step st37 ?_
        show GoOn p e below _ (T37.setTop (mkF m 187 #[.val (.int q0), .val (.int q1), .val (.int q2), .val (.long q3), .second, .val (.int o), .val (.int fl), .val (.ref a), .val (.int u), .val (.int v9), .val (.int (1 : Int32)), .val (.ref b), .val (.int (1 : Int32)), .val (.int (q3.toInt32)), .unset] []))
        obtain ⟨f_b, J_b, hf_b⟩ : ∃ f, Jar Z h37 b .byte 12 f ∧ f o.toNatClampNeg = .int (((q3.toInt32).toInt8.toInt32).toInt8.toInt32) := ⟨_, J_b, if_pos rfl⟩
        refine GoOn.step (fun t₀ k₀ => XS.iload X37.here hx rfl (hb hby at_187) rfl k₀) ?_
        show GoOn p e below _ (T37.setTop (mkF m 189 #[.val (.int q0), .val (.int q1), .val (.int q2), .val (.long q3), .second, .val (.int o), .val (.int fl), .val (.ref a), .val (.int u), .val (.int v9), .val (.int (1 : Int32)), .val (.ref b), .val (.int (1 : Int32)), .val (.int (q3.toInt32)), .unset] [(.int (1 : Int32))]))
        refine GoOn.step (fun t₀ k₀ => XS.iconst X37.here hx rfl (hb hby at_189) k₀) ?_
        show GoOn p e below _ (T37.setTop (mkF m 190 #[.val (.int q0), .val (.int q1), .val (.int q2), .val (.long q3), .second, .val (.int o), .val (.int fl), .val (.ref a), .val (.int u), .val (.int v9), .val (.int (1 : Int32)), .val (.ref b), .val (.int (1 : Int32)), .val (.int (q3.toInt32)), .unset] [(.int (3 : Int32)), (.int (1 : Int32))]))
        have hf38 : (1 : Int32) < (3 : Int32) := (by decide)
        refine GoOn.step (fun t₀ k₀ => XS.icmpYes X37.here hx rfl (pc0 := 190) (pc' := 216) rfl (hb hby at_190) rfl (tlt hf38).1 (by decide) (by decide) k₀) ?_
        show GoOn p e below _ (T37.setTop (mkF m 216 #[.val (.int q0), .val (.int q1), .val (.int q2), .val (.long q3), .second, .val (.int o), .val (.int fl), .val (.ref a), .val (.int u), .val (.int v9), .val (.int (1 : Int32)), .val (.ref b), .val (.int (1 : Int32)), .val (.int (q3.toInt32)), .unset] []))
        refine GoOn.step (fun t₀ k₀ => XS.iload X37.here hx rfl (hb hby at_216) rfl k₀) ?_
        show GoOn p e below _ (T37.setTop (mkF m 218 #[.val (.int q0), .val (.int q1), .val (.int q2), .val (.long q3), .second, .val (.int o), .val (.int fl), .val (.ref a), .val (.int u), .val (.int v9), .val (.int (1 : Int32)), .val (.ref b), .val (.int (1 : Int32)), .val (.int (q3.toInt32)), .unset] [(.int (1 : Int32))]))
        refine GoOn.step (fun t₀ k₀ => XS.iconst X37.here hx rfl (hb hby at_218) k₀) ?_
        show GoOn p e below _ (T37.setTop (mkF m 219 #[.val (.int q0), .val (.int q1), .val (.int q2), .val (.long q3), .second, .val (.int o), .val (.int fl), .val (.ref a), .val (.int u), .val (.int v9), .val (.int (1 : Int32)), .val (.ref b), .val (.int (1 : Int32)), .val (.int (q3.toInt32)), .unset] [(.int (4 : Int32)), (.int (1 : Int32))]))
        have hf39 : (1 : Int32) < (4 : Int32) := (by decide)
        refine GoOn.step (fun t₀ k₀ => XS.icmpYes X37.here hx rfl (pc0 := 219) (pc' := 235) rfl (hb hby at_219) rfl (tlt hf39).1 (by decide) (by decide) k₀) ?_
        show GoOn p e below _ (T37.setTop (mkF m 235 #[.val (.int q0), .val (.int q1), .val (.int q2), .val (.long q3), .second, .val (.int o), .val (.int fl), .val (.ref a), .val (.int u), .val (.int v9), .val (.int (1 : Int32)), .val (.ref b), .val (.int (1 : Int32)), .val (.int (q3.toInt32)), .unset] []))
        refine GoOn.step (fun t₀ k₀ => XS.iload X37.here hx rfl (hb hby at_235) rfl k₀) ?_
        show GoOn p e below _ (T37.setTop (mkF m 237 #[.val (.int q0), .val (.int q1), .val (.int q2), .val (.long q3), .second, .val (.int o), .val (.int fl), .val (.ref a), .val (.int u), .val (.int v9), .val (.int (1 : Int32)), .val (.ref b), .val (.int (1 : Int32)), .val (.int (q3.toInt32)), .unset] [(.int (1 : Int32))]))
        refine GoOn.step (fun t₀ k₀ => XS.bipush X37.here hx rfl (hb hby at_237) k₀) ?_
        show GoOn p e below _ (T37.setTop (mkF m 239 #[.val (.int q0), .val (.int q1), .val (.int q2), .val (.long q3), .second, .val (.int o), .val (.int fl), .val (.ref a), .val (.int u), .val (.int v9), .val (.int (1 : Int32)), .val (.ref b), .val (.int (1 : Int32)), .val (.int (q3.toInt32)), .unset] [(.int (9 : Int32)), (.int (1 : Int32))]))
        have hf40 : ¬ ((1 : Int32) = (9 : Int32)) := (by decide)
        refine GoOn.step (fun t₀ k₀ => XS.icmpYes X37.here hx rfl (pc0 := 239) (pc' := 310) rfl (hb hby at_239) rfl (feq hf40).2 (by decide) (by decide) k₀) ?_
        show GoOn p e below _ (T37.setTop (mkF m 310 #[.val (.int q0), .val (.int q1), .val (.int q2), .val (.long q3), .second, .val (.int o), .val (.int fl), .val (.ref a), .val (.int u), .val (.int v9), .val (.int (1 : Int32)), .val (.ref b), .val (.int (1 : Int32)), .val (.int (q3.toInt32)), .unset] []))
        refine GoOn.step (fun t₀ k₀ => XS.aload X37.here hx rfl (hb hby at_310) rfl rfl k₀) ?_
        show GoOn p e below _ (T37.setTop (mkF m 312 #[.val (.int q0), .val (.int q1), .val (.int q2), .val (.long q3), .second, .val (.int o), .val (.int fl), .val (.ref a), .val (.int u), .val (.int v9), .val (.int (1 : Int32)), .val (.ref b), .val (.int (1 : Int32)), .val (.int (q3.toInt32)), .unset] [(.ref b)]))
        refine GoOn.step (fun t₀ k₀ => XS.iload X37.here hx rfl (hb hby at_312) rfl k₀) ?_
        show GoOn p e below _ (T37.setTop (mkF m 314 #[.val (.int q0), .val (.int q1), .val (.int q2), .val (.long q3), .second, .val (.int o), .val (.int fl), .val (.ref a), .val (.int u), .val (.int v9), .val (.int (1 : Int32)), .val (.ref b), .val (.int (1 : Int32)), .val (.int (q3.toInt32)), .unset] [(.int o), (.ref b)]))
        obtain ⟨_, T41, L41, X41, hQ41, st41⟩ := kCallS X37 hx hZ (argsL := [(.ref b), (.int o)]) (rest := []) (c_les l Z a0 hw b o _ f_b _ J_b ho' hf_b) hown (hw _ (List.mem_of_getElem? (i := 5) rfl)) (hw _ (List.mem_of_getElem? (i := 6) rfl)) (hw _ (List.mem_of_getElem? (i := 7) rfl)) (hw _ (List.mem_of_getElem? (i := 8) rfl)) (by decide) e37 (g := (mkF m 314 #[.val (.int q0), .val (.int q1), .val (.int q2), .val (.long q3), .second, .val (.int o), .val (.int fl), .val (.ref a), .val (.int u), .val (.int v9), .val (.int (1 : Int32)), .val (.ref b), .val (.int (1 : Int32)), .val (.int (q3.toInt32)), .unset] [(.int o), (.ref b)])) rfl (by rw [hml]; rfl) (lenOf pd_1 rfl) rfl (W := 0) (by show 2 * 0 + _ ≤ _; exact Nat.le_of_eq rfl) (hb hby at_314) (by decide) (by decide) (by decide) (by decide)
        obtain ⟨rfl, rfl, e41⟩ := hQ41
        rw [List.append_nil] at X41
        refine GoOn.step st41 ?_
        show GoOn p e below _ (T41.setTop (mkF m 317 #[.val (.int q0), .val (.int q1), .val (.int q2), .val (.long q3), .second, .val (.int o), .val (.int fl), .val (.ref a), .val (.int u), .val (.int v9), .val (.int (1 : Int32)), .val (.ref b), .val (.int (1 : Int32)), .val (.int (q3.toInt32)), .unset] [(.int (lesz ((((q3.toInt32).toInt8.toInt32).toInt8.toInt32) &&& (255 : Int32))))]))
        refine GoOn.step (fun t₀ k₀ => XS.iload X41.here hx rfl (hb hby at_317) rfl k₀) ?_
        show GoOn p e below _ (T41.setTop (mkF m 319 #[.val (.int q0), .val (.int q1), .val (.int q2), .val (.long q3), .second, .val (.int o), .val (.int fl), .val (.ref a), .val (.int u), .val (.int v9), .val (.int (1 : Int32)), .val (.ref b), .val (.int (1 : Int32)), .val (.int (q3.toInt32)), .unset] [(.int (1 : Int32)), (.int (lesz ((((q3.toInt32).toInt8.toInt32).toInt8.toInt32) &&& (255 : Int32))))]))
        have hf42 : (lesz ((((q3.toInt32).toInt8.toInt32).toInt8.toInt32) &&& (255 : Int32))) = (1 : Int32) := (by rw [pl_byte]; exact (pl_small q3 v0 v1))
        refine GoOn.step (fun t₀ k₀ => XS.icmpNo X41.here hx rfl (hb hby at_319) rfl (teq hf42).2 k₀) ?_
        show GoOn p e below _ (T41.setTop (mkF m 322 #[.val (.int q0), .val (.int q1), .val (.int q2), .val (.long q3), .second, .val (.int o), .val (.int fl), .val (.ref a), .val (.int u), .val (.int v9), .val (.int (1 : Int32)), .val (.ref b), .val (.int (1 : Int32)), .val (.int (q3.toInt32)), .unset] []))
        refine GoOn.step (fun t₀ k₀ => XS.iconst X41.here hx rfl (hb hby at_322) k₀) ?_
        show GoOn p e below _ (T41.setTop (mkF m 323 #[.val (.int q0), .val (.int q1), .val (.int q2), .val (.long q3), .second, .val (.int o), .val (.int fl), .val (.ref a), .val (.int u), .val (.int v9), .val (.int (1 : Int32)), .val (.ref b), .val (.int (1 : Int32)), .val (.int (q3.toInt32)), .unset] [(.int (1 : Int32))]))
        refine GoOn.step (fun t₀ k₀ => XS.goto X41.here hx rfl (pc0 := 323) (pc' := 327) rfl (hb hby at_323) (by decide) (by decide) k₀) ?_
        show GoOn p e below _ (T41.setTop (mkF m 327 #[.val (.int q0), .val (.int q1), .val (.int q2), .val (.long q3), .second, .val (.int o), .val (.int fl), .val (.ref a), .val (.int u), .val (.int v9), .val (.int (1 : Int32)), .val (.ref b), .val (.int (1 : Int32)), .val (.int (q3.toInt32)), .unset] [(.int (1 : Int32))]))
        refine GoOn.step (fun t₀ k₀ => XS.istore X41.here hx rfl (hb hby at_327) rfl (l' := #[.val (.int q0), .val (.int q1), .val (.int q2), .val (.long q3), .second, .val (.int o), .val (.int fl), .val (.ref a), .val (.int u), .val (.int v9), .val (.int (1 : Int32)), .val (.ref b), .val (.int (1 : Int32)), .val (.int (q3.toInt32)), .val (.int (1 : Int32))]) rfl k₀) ?_
        show GoOn p e below _ (T41.setTop (mkF m 329 #[.val (.int q0), .val (.int q1), .val (.int q2), .val (.long q3), .second, .val (.int o), .val (.int fl), .val (.ref a), .val (.int u), .val (.int v9), .val (.int (1 : Int32)), .val (.ref b), .val (.int (1 : Int32)), .val (.int (q3.toInt32)), .val (.int (1 : Int32))] []))
        refine GoOn.step (fun t₀ k₀ => XS.iload X41.here hx rfl (hb hby at_329) rfl k₀) ?_
        show GoOn p e below _ (T41.setTop (mkF m 331 #[.val (.int q0), .val (.int q1), .val (.int q2), .val (.long q3), .second, .val (.int o), .val (.int fl), .val (.ref a), .val (.int u), .val (.int v9), .val (.int (1 : Int32)), .val (.ref b), .val (.int (1 : Int32)), .val (.int (q3.toInt32)), .val (.int (1 : Int32))] [(.int (1 : Int32))]))
        have hf43 : ¬ ((1 : Int32) = (0 : Int32)) := (by decide)
        refine GoOn.step (fun t₀ k₀ => XS.ifNo X41.here hx rfl (hb hby at_331) rfl ((if0 _ _).trans (feq hf43).1) k₀) ?_
        show GoOn p e below _ (T41.setTop (mkF m 334 #[.val (.int q0), .val (.int q1), .val (.int q2), .val (.long q3), .second, .val (.int o), .val (.int fl), .val (.ref a), .val (.int u), .val (.int v9), .val (.int (1 : Int32)), .val (.ref b), .val (.int (1 : Int32)), .val (.int (q3.toInt32)), .val (.int (1 : Int32))] []))
        refine GoOn.step (fun t₀ k₀ => XS.iload X41.here hx rfl (hb hby at_334) rfl k₀) ?_
        show GoOn p e below _ (T41.setTop (mkF m 336 #[.val (.int q0), .val (.int q1), .val (.int q2), .val (.long q3), .second, .val (.int o), .val (.int fl), .val (.ref a), .val (.int u), .val (.int v9), .val (.int (1 : Int32)), .val (.ref b), .val (.int (1 : Int32)), .val (.int (q3.toInt32)), .val (.int (1 : Int32))] [(.int (1 : Int32))]))
        have hf44 : ¬ ((1 : Int32) = (0 : Int32)) := (by decide)
        refine GoOn.step (fun t₀ k₀ => XS.ifNo X41.here hx rfl (hb hby at_336) rfl ((if0 _ _).trans (feq hf44).1) k₀) ?_
        show GoOn p e below _ (T41.setTop (mkF m 339 #[.val (.int q0), .val (.int q1), .val (.int q2), .val (.long q3), .second, .val (.int o), .val (.int fl), .val (.ref a), .val (.int u), .val (.int v9), .val (.int (1 : Int32)), .val (.ref b), .val (.int (1 : Int32)), .val (.int (q3.toInt32)), .val (.int (1 : Int32))] []))
        refine GoOn.step (fun t₀ k₀ => XS.iconst X41.here hx rfl (hb hby at_339) k₀) ?_
        show GoOn p e below _ (T41.setTop (mkF m 340 #[.val (.int q0), .val (.int q1), .val (.int q2), .val (.long q3), .second, .val (.int o), .val (.int fl), .val (.ref a), .val (.int u), .val (.int v9), .val (.int (1 : Int32)), .val (.ref b), .val (.int (1 : Int32)), .val (.int (q3.toInt32)), .val (.int (1 : Int32))] [(.int (1 : Int32))]))
        refine GoOn.step (fun t₀ k₀ => XS.goto X41.here hx rfl (pc0 := 340) (pc' := 344) rfl (hb hby at_340) (by decide) (by decide) k₀) ?_
        show GoOn p e below _ (T41.setTop (mkF m 344 #[.val (.int q0), .val (.int q1), .val (.int q2), .val (.long q3), .second, .val (.int o), .val (.int fl), .val (.ref a), .val (.int u), .val (.int v9), .val (.int (1 : Int32)), .val (.ref b), .val (.int (1 : Int32)), .val (.int (q3.toInt32)), .val (.int (1 : Int32))] [(.int (1 : Int32))]))
        exact GoOn.retN X41 hx hrt hlk (by simp) (hb hby at_344) (by decide) (by decide) (by first | exact ⟨rfl, N0⟩ | (rw [e41]; exact ⟨rfl, N0⟩))
      · refine GoOn.step (fun t₀ k₀ => XS.ifYes X18.here hx rfl (pc0 := 107) (pc' := 120) rfl (hb hby at_107) rfl ((if0 _ _).trans (flt (mt (lw_lt _ _).mp v1)).2.1) (by decide) (by decide) k₀) ?_
        show GoOn p e below _ (T18.setTop (mkF m 120 #[.val (.int q0), .val (.int q1), .val (.int q2), .val (.long q3), .second, .val (.int o), .val (.int fl), .val (.ref a), .val (.int u), .val (.int v9), .val (.int (1 : Int32)), .val (.ref b), .unset, .unset, .unset] []))
        refine GoOn.step (fun t₀ k₀ => XS.lloadN X18.here hx rfl (hb hby at_120) rfl k₀) ?_
        show GoOn p e below _ (T18.setTop (mkF m 121 #[.val (.int q0), .val (.int q1), .val (.int q2), .val (.long q3), .second, .val (.int o), .val (.int fl), .val (.ref a), .val (.int u), .val (.int v9), .val (.int (1 : Int32)), .val (.ref b), .unset, .unset, .unset] [(.long q3)]))
        refine GoOn.step (fun t₀ k₀ => XS.lconst X18.here hx rfl (hb hby at_121) k₀) ?_
        show GoOn p e below _ (T18.setTop (mkF m 122 #[.val (.int q0), .val (.int q1), .val (.int q2), .val (.long q3), .second, .val (.int o), .val (.int fl), .val (.ref a), .val (.int u), .val (.int v9), .val (.int (1 : Int32)), .val (.ref b), .unset, .unset, .unset] [(.long (0 : Int64)), (.long q3)]))
        refine GoOn.step (fun t₀ k₀ => XS.lcmp X18.here hx rfl (hb hby at_122) rfl k₀) ?_
        show GoOn p e below _ (T18.setTop (mkF m 123 #[.val (.int q0), .val (.int q1), .val (.int q2), .val (.long q3), .second, .val (.int o), .val (.int fl), .val (.ref a), .val (.int u), .val (.int v9), .val (.int (1 : Int32)), .val (.ref b), .unset, .unset, .unset] [(.int (lcmpW q3 (0 : Int64)))]))
        have hf45 : ¬ (q3 < (0 : Int64)) := v0
        refine GoOn.step (fun t₀ k₀ => XS.ifNo X18.here hx rfl (hb hby at_123) rfl ((if0 _ _).trans (flt (mt (lw_lt _ _).mp hf45)).1) k₀) ?_
        show GoOn p e below _ (T18.setTop (mkF m 126 #[.val (.int q0), .val (.int q1), .val (.int q2), .val (.long q3), .second, .val (.int o), .val (.int fl), .val (.ref a), .val (.int u), .val (.int v9), .val (.int (1 : Int32)), .val (.ref b), .unset, .unset, .unset] []))
        refine GoOn.step (fun t₀ k₀ => XS.lloadN X18.here hx rfl (hb hby at_126) rfl k₀) ?_
        show GoOn p e below _ (T18.setTop (mkF m 127 #[.val (.int q0), .val (.int q1), .val (.int q2), .val (.long q3), .second, .val (.int o), .val (.int fl), .val (.ref a), .val (.int u), .val (.int v9), .val (.int (1 : Int32)), .val (.ref b), .unset, .unset, .unset] [(.long q3)]))
        refine GoOn.step (fun t₀ k₀ => X18.ldc2Long hx hown (mvT hZ (hw _ (List.mem_of_getElem? (i := 10) rfl))) (g := (mkF m 127 #[.val (.int q0), .val (.int q1), .val (.int q2), .val (.long q3), .second, .val (.int o), .val (.int fl), .val (.ref a), .val (.int u), .val (.int v9), .val (.int (1 : Int32)), .val (.ref b), .unset, .unset, .unset] [(.long q3)])) rfl (hb hby at_127) t₀ k₀) ?_
        show GoOn p e below _ (T18.setTop (mkF m 130 #[.val (.int q0), .val (.int q1), .val (.int q2), .val (.long q3), .second, .val (.int o), .val (.int fl), .val (.ref a), .val (.int u), .val (.int v9), .val (.int (1 : Int32)), .val (.ref b), .unset, .unset, .unset] [(.long (65536 : Int64)), (.long q3)]))
        refine GoOn.step (fun t₀ k₀ => XS.lcmp X18.here hx rfl (hb hby at_130) rfl k₀) ?_
        show GoOn p e below _ (T18.setTop (mkF m 131 #[.val (.int q0), .val (.int q1), .val (.int q2), .val (.long q3), .second, .val (.int o), .val (.int fl), .val (.ref a), .val (.int u), .val (.int v9), .val (.int (1 : Int32)), .val (.ref b), .unset, .unset, .unset] [(.int (lcmpW q3 (65536 : Int64)))]))
        by_cases v2 : q3 < (65536 : Int64)
        · refine GoOn.step (fun t₀ k₀ => XS.ifNo X18.here hx rfl (hb hby at_131) rfl ((if0 _ _).trans (tlt ((lw_lt _ _).mpr v2)).2.1) k₀) ?_
          show GoOn p e below _ (T18.setTop (mkF m 134 #[.val (.int q0), .val (.int q1), .val (.int q2), .val (.long q3), .second, .val (.int o), .val (.int fl), .val (.ref a), .val (.int u), .val (.int v9), .val (.int (1 : Int32)), .val (.ref b), .unset, .unset, .unset] []))
          refine GoOn.step (fun t₀ k₀ => XS.iconst X18.here hx rfl (hb hby at_134) k₀) ?_
          show GoOn p e below _ (T18.setTop (mkF m 135 #[.val (.int q0), .val (.int q1), .val (.int q2), .val (.long q3), .second, .val (.int o), .val (.int fl), .val (.ref a), .val (.int u), .val (.int v9), .val (.int (1 : Int32)), .val (.ref b), .unset, .unset, .unset] [(.int (3 : Int32))]))
          refine GoOn.step (fun t₀ k₀ => XS.istore X18.here hx rfl (hb hby at_135) rfl (l' := #[.val (.int q0), .val (.int q1), .val (.int q2), .val (.long q3), .second, .val (.int o), .val (.int fl), .val (.ref a), .val (.int u), .val (.int v9), .val (.int (1 : Int32)), .val (.ref b), .val (.int (3 : Int32)), .unset, .unset]) rfl k₀) ?_
          show GoOn p e below _ (T18.setTop (mkF m 137 #[.val (.int q0), .val (.int q1), .val (.int q2), .val (.long q3), .second, .val (.int o), .val (.int fl), .val (.ref a), .val (.int u), .val (.int v9), .val (.int (1 : Int32)), .val (.ref b), .val (.int (3 : Int32)), .unset, .unset] []))
          refine GoOn.step (fun t₀ k₀ => XS.sipush X18.here hx rfl (hb hby at_137) k₀) ?_
          show GoOn p e below _ (T18.setTop (mkF m 140 #[.val (.int q0), .val (.int q1), .val (.int q2), .val (.long q3), .second, .val (.int o), .val (.int fl), .val (.ref a), .val (.int u), .val (.int v9), .val (.int (1 : Int32)), .val (.ref b), .val (.int (3 : Int32)), .unset, .unset] [(.int (252 : Int32))]))
          refine GoOn.step (fun t₀ k₀ => XS.istore X18.here hx rfl (hb hby at_140) rfl (l' := #[.val (.int q0), .val (.int q1), .val (.int q2), .val (.long q3), .second, .val (.int o), .val (.int fl), .val (.ref a), .val (.int u), .val (.int v9), .val (.int (1 : Int32)), .val (.ref b), .val (.int (3 : Int32)), .val (.int (252 : Int32)), .unset]) rfl k₀) ?_
          show GoOn p e below _ (T18.setTop (mkF m 142 #[.val (.int q0), .val (.int q1), .val (.int q2), .val (.long q3), .second, .val (.int o), .val (.int fl), .val (.ref a), .val (.int u), .val (.int v9), .val (.int (1 : Int32)), .val (.ref b), .val (.int (3 : Int32)), .val (.int (252 : Int32)), .unset] []))
          refine GoOn.step (fun t₀ k₀ => XS.goto X18.here hx rfl (pc0 := 142) (pc' := 179) rfl (hb hby at_142) (by decide) (by decide) k₀) ?_
          show GoOn p e below _ (T18.setTop (mkF m 179 #[.val (.int q0), .val (.int q1), .val (.int q2), .val (.long q3), .second, .val (.int o), .val (.int fl), .val (.ref a), .val (.int u), .val (.int v9), .val (.int (1 : Int32)), .val (.ref b), .val (.int (3 : Int32)), .val (.int (252 : Int32)), .unset] []))
          refine GoOn.step (fun t₀ k₀ => XS.aload X18.here hx rfl (hb hby at_179) rfl rfl k₀) ?_
          show GoOn p e below _ (T18.setTop (mkF m 181 #[.val (.int q0), .val (.int q1), .val (.int q2), .val (.long q3), .second, .val (.int o), .val (.int fl), .val (.ref a), .val (.int u), .val (.int v9), .val (.int (1 : Int32)), .val (.ref b), .val (.int (3 : Int32)), .val (.int (252 : Int32)), .unset] [(.ref b)]))
          refine GoOn.step (fun t₀ k₀ => XS.iload X18.here hx rfl (hb hby at_181) rfl k₀) ?_
          show GoOn p e below _ (T18.setTop (mkF m 183 #[.val (.int q0), .val (.int q1), .val (.int q2), .val (.long q3), .second, .val (.int o), .val (.int fl), .val (.ref a), .val (.int u), .val (.int v9), .val (.int (1 : Int32)), .val (.ref b), .val (.int (3 : Int32)), .val (.int (252 : Int32)), .unset] [(.int o), (.ref b)]))
          refine GoOn.step (fun t₀ k₀ => XS.iload X18.here hx rfl (hb hby at_183) rfl k₀) ?_
          show GoOn p e below _ (T18.setTop (mkF m 185 #[.val (.int q0), .val (.int q1), .val (.int q2), .val (.long q3), .second, .val (.int o), .val (.int fl), .val (.ref a), .val (.int u), .val (.int v9), .val (.int (1 : Int32)), .val (.ref b), .val (.int (3 : Int32)), .val (.int (252 : Int32)), .unset] [(.int (252 : Int32)), (.int o), (.ref b)]))
          refine GoOn.step (fun t₀ k₀ => XS.i2b X18.here hx rfl (hb hby at_185) rfl k₀) ?_
          show GoOn p e below _ (T18.setTop (mkF m 186 #[.val (.int q0), .val (.int q1), .val (.int q2), .val (.long q3), .second, .val (.int o), .val (.int fl), .val (.ref a), .val (.int u), .val (.int v9), .val (.int (1 : Int32)), .val (.ref b), .val (.int (3 : Int32)), .val (.int (252 : Int32)), .unset] [(.int ((252 : Int32).toInt8.toInt32)), (.int o), (.ref b)]))
          obtain ⟨T46, h46, X46, e46, W46, st46⟩ := kStB X18 hx hZ rfl J_b (j := o) ho' (g := (mkF m 186 #[.val (.int q0), .val (.int q1), .val (.int q2), .val (.long q3), .second, .val (.int o), .val (.int fl), .val (.ref a), .val (.int u), .val (.int v9), .val (.int (1 : Int32)), .val (.ref b), .val (.int (3 : Int32)), .val (.int (252 : Int32)), .unset] [(.int ((252 : Int32).toInt8.toInt32)), (.int o), (.ref b)])) rfl rfl (hb hby at_186)
          replace N0 := Fr.snoc X46 N0 l_b
          replace J_a := J_a.other W46 ne_a_b
          replace J_b := J_b.set W46
          replace Z0 := Nat.le_trans Z0 (Nat.le_of_eq W46.size.symm)
          refine GoOn.step st46 ?_
          show GoOn p e below _ (T46.setTop (mkF m 187 #[.val (.int q0), .val (.int q1), .val (.int q2), .val (.long q3), .second, .val (.int o), .val (.int fl), .val (.ref a), .val (.int u), .val (.int v9), .val (.int (1 : Int32)), .val (.ref b), .val (.int (3 : Int32)), .val (.int (252 : Int32)), .unset] []))
          obtain ⟨f_b, J_b, hf_b⟩ : ∃ f, Jar Z h46 b .byte 12 f ∧ f o.toNatClampNeg = .int (((252 : Int32).toInt8.toInt32).toInt8.toInt32) := ⟨_, J_b, if_pos rfl⟩
          refine GoOn.step (fun t₀ k₀ => XS.iload X46.here hx rfl (hb hby at_187) rfl k₀) ?_
          show GoOn p e below _ (T46.setTop (mkF m 189 #[.val (.int q0), .val (.int q1), .val (.int q2), .val (.long q3), .second, .val (.int o), .val (.int fl), .val (.ref a), .val (.int u), .val (.int v9), .val (.int (1 : Int32)), .val (.ref b), .val (.int (3 : Int32)), .val (.int (252 : Int32)), .unset] [(.int (3 : Int32))]))
          refine GoOn.step (fun t₀ k₀ => XS.iconst X46.here hx rfl (hb hby at_189) k₀) ?_
          show GoOn p e below _ (T46.setTop (mkF m 190 #[.val (.int q0), .val (.int q1), .val (.int q2), .val (.long q3), .second, .val (.int o), .val (.int fl), .val (.ref a), .val (.int u), .val (.int v9), .val (.int (1 : Int32)), .val (.ref b), .val (.int (3 : Int32)), .val (.int (252 : Int32)), .unset] [(.int (3 : Int32)), (.int (3 : Int32))]))
          have hf47 : ¬ ((3 : Int32) < (3 : Int32)) := (by decide)
          refine GoOn.step (fun t₀ k₀ => XS.icmpNo X46.here hx rfl (hb hby at_190) rfl (flt hf47).1 k₀) ?_
          show GoOn p e below _ (T46.setTop (mkF m 193 #[.val (.int q0), .val (.int q1), .val (.int q2), .val (.long q3), .second, .val (.int o), .val (.int fl), .val (.ref a), .val (.int u), .val (.int v9), .val (.int (1 : Int32)), .val (.ref b), .val (.int (3 : Int32)), .val (.int (252 : Int32)), .unset] []))
          refine GoOn.step (fun t₀ k₀ => XS.aload X46.here hx rfl (hb hby at_193) rfl rfl k₀) ?_
          show GoOn p e below _ (T46.setTop (mkF m 195 #[.val (.int q0), .val (.int q1), .val (.int q2), .val (.long q3), .second, .val (.int o), .val (.int fl), .val (.ref a), .val (.int u), .val (.int v9), .val (.int (1 : Int32)), .val (.ref b), .val (.int (3 : Int32)), .val (.int (252 : Int32)), .unset] [(.ref b)]))
          refine GoOn.step (fun t₀ k₀ => XS.iload X46.here hx rfl (hb hby at_195) rfl k₀) ?_
          show GoOn p e below _ (T46.setTop (mkF m 197 #[.val (.int q0), .val (.int q1), .val (.int q2), .val (.long q3), .second, .val (.int o), .val (.int fl), .val (.ref a), .val (.int u), .val (.int v9), .val (.int (1 : Int32)), .val (.ref b), .val (.int (3 : Int32)), .val (.int (252 : Int32)), .unset] [(.int o), (.ref b)]))
          refine GoOn.step (fun t₀ k₀ => XS.iconst X46.here hx rfl (hb hby at_197) k₀) ?_
          show GoOn p e below _ (T46.setTop (mkF m 198 #[.val (.int q0), .val (.int q1), .val (.int q2), .val (.long q3), .second, .val (.int o), .val (.int fl), .val (.ref a), .val (.int u), .val (.int v9), .val (.int (1 : Int32)), .val (.ref b), .val (.int (3 : Int32)), .val (.int (252 : Int32)), .unset] [(.int (1 : Int32)), (.int o), (.ref b)]))
          refine GoOn.step (fun t₀ k₀ => XS.iadd X46.here hx rfl (hb hby at_198) rfl k₀) ?_
          show GoOn p e below _ (T46.setTop (mkF m 199 #[.val (.int q0), .val (.int q1), .val (.int q2), .val (.long q3), .second, .val (.int o), .val (.int fl), .val (.ref a), .val (.int u), .val (.int v9), .val (.int (1 : Int32)), .val (.ref b), .val (.int (3 : Int32)), .val (.int (252 : Int32)), .unset] [(.int (o + (1 : Int32))), (.ref b)]))
          refine GoOn.step (fun t₀ k₀ => XS.lloadN X46.here hx rfl (hb hby at_199) rfl k₀) ?_
          show GoOn p e below _ (T46.setTop (mkF m 200 #[.val (.int q0), .val (.int q1), .val (.int q2), .val (.long q3), .second, .val (.int o), .val (.int fl), .val (.ref a), .val (.int u), .val (.int v9), .val (.int (1 : Int32)), .val (.ref b), .val (.int (3 : Int32)), .val (.int (252 : Int32)), .unset] [(.long q3), (.int (o + (1 : Int32))), (.ref b)]))
          refine GoOn.step (fun t₀ k₀ => XS.l2i X46.here hx rfl (hb hby at_200) rfl k₀) ?_
          show GoOn p e below _ (T46.setTop (mkF m 201 #[.val (.int q0), .val (.int q1), .val (.int q2), .val (.long q3), .second, .val (.int o), .val (.int fl), .val (.ref a), .val (.int u), .val (.int v9), .val (.int (1 : Int32)), .val (.ref b), .val (.int (3 : Int32)), .val (.int (252 : Int32)), .unset] [(.int (q3.toInt32)), (.int (o + (1 : Int32))), (.ref b)]))
          refine GoOn.step (fun t₀ k₀ => XS.i2b X46.here hx rfl (hb hby at_201) rfl k₀) ?_
          show GoOn p e below _ (T46.setTop (mkF m 202 #[.val (.int q0), .val (.int q1), .val (.int q2), .val (.long q3), .second, .val (.int o), .val (.int fl), .val (.ref a), .val (.int u), .val (.int v9), .val (.int (1 : Int32)), .val (.ref b), .val (.int (3 : Int32)), .val (.int (252 : Int32)), .unset] [(.int ((q3.toInt32).toInt8.toInt32)), (.int (o + (1 : Int32))), (.ref b)]))
          obtain ⟨T48, h48, X48, e48, W48, st48⟩ := kStB X46 hx hZ e46 J_b (j := (o + (1 : Int32))) (ix ho ⟨by decide, by decide⟩) (g := (mkF m 202 #[.val (.int q0), .val (.int q1), .val (.int q2), .val (.long q3), .second, .val (.int o), .val (.int fl), .val (.ref a), .val (.int u), .val (.int v9), .val (.int (1 : Int32)), .val (.ref b), .val (.int (3 : Int32)), .val (.int (252 : Int32)), .unset] [(.int ((q3.toInt32).toInt8.toInt32)), (.int (o + (1 : Int32))), (.ref b)])) rfl rfl (hb hby at_202)
          replace N0 := Fr.snoc X48 N0 l_b
          replace J_a := J_a.other W48 ne_a_b
          replace J_b := J_b.set W48
          replace Z0 := Nat.le_trans Z0 (Nat.le_of_eq W48.size.symm)
          refine GoOn.step st48 ?_
          show GoOn p e below _ (T48.setTop (mkF m 203 #[.val (.int q0), .val (.int q1), .val (.int q2), .val (.long q3), .second, .val (.int o), .val (.int fl), .val (.ref a), .val (.int u), .val (.int v9), .val (.int (1 : Int32)), .val (.ref b), .val (.int (3 : Int32)), .val (.int (252 : Int32)), .unset] []))
          obtain ⟨f_b, J_b, hf_b⟩ : ∃ f, Jar Z h48 b .byte 12 f ∧ f o.toNatClampNeg = .int (((252 : Int32).toInt8.toInt32).toInt8.toInt32) := ⟨_, J_b, (if_neg (ixne ho ⟨by decide, by decide⟩)).trans hf_b⟩
          refine GoOn.step (fun t₀ k₀ => XS.aload X48.here hx rfl (hb hby at_203) rfl rfl k₀) ?_
          show GoOn p e below _ (T48.setTop (mkF m 205 #[.val (.int q0), .val (.int q1), .val (.int q2), .val (.long q3), .second, .val (.int o), .val (.int fl), .val (.ref a), .val (.int u), .val (.int v9), .val (.int (1 : Int32)), .val (.ref b), .val (.int (3 : Int32)), .val (.int (252 : Int32)), .unset] [(.ref b)]))
          refine GoOn.step (fun t₀ k₀ => XS.iload X48.here hx rfl (hb hby at_205) rfl k₀) ?_
          show GoOn p e below _ (T48.setTop (mkF m 207 #[.val (.int q0), .val (.int q1), .val (.int q2), .val (.long q3), .second, .val (.int o), .val (.int fl), .val (.ref a), .val (.int u), .val (.int v9), .val (.int (1 : Int32)), .val (.ref b), .val (.int (3 : Int32)), .val (.int (252 : Int32)), .unset] [(.int o), (.ref b)]))
          refine GoOn.step (fun t₀ k₀ => XS.iconst X48.here hx rfl (hb hby at_207) k₀) ?_
          show GoOn p e below _ (T48.setTop (mkF m 208 #[.val (.int q0), .val (.int q1), .val (.int q2), .val (.long q3), .second, .val (.int o), .val (.int fl), .val (.ref a), .val (.int u), .val (.int v9), .val (.int (1 : Int32)), .val (.ref b), .val (.int (3 : Int32)), .val (.int (252 : Int32)), .unset] [(.int (2 : Int32)), (.int o), (.ref b)]))
          refine GoOn.step (fun t₀ k₀ => XS.iadd X48.here hx rfl (hb hby at_208) rfl k₀) ?_
          show GoOn p e below _ (T48.setTop (mkF m 209 #[.val (.int q0), .val (.int q1), .val (.int q2), .val (.long q3), .second, .val (.int o), .val (.int fl), .val (.ref a), .val (.int u), .val (.int v9), .val (.int (1 : Int32)), .val (.ref b), .val (.int (3 : Int32)), .val (.int (252 : Int32)), .unset] [(.int (o + (2 : Int32))), (.ref b)]))
          refine GoOn.step (fun t₀ k₀ => XS.lloadN X48.here hx rfl (hb hby at_209) rfl k₀) ?_
          show GoOn p e below _ (T48.setTop (mkF m 210 #[.val (.int q0), .val (.int q1), .val (.int q2), .val (.long q3), .second, .val (.int o), .val (.int fl), .val (.ref a), .val (.int u), .val (.int v9), .val (.int (1 : Int32)), .val (.ref b), .val (.int (3 : Int32)), .val (.int (252 : Int32)), .unset] [(.long q3), (.int (o + (2 : Int32))), (.ref b)]))
          refine GoOn.step (fun t₀ k₀ => XS.bipush X48.here hx rfl (hb hby at_210) k₀) ?_
          show GoOn p e below _ (T48.setTop (mkF m 212 #[.val (.int q0), .val (.int q1), .val (.int q2), .val (.long q3), .second, .val (.int o), .val (.int fl), .val (.ref a), .val (.int u), .val (.int v9), .val (.int (1 : Int32)), .val (.ref b), .val (.int (3 : Int32)), .val (.int (252 : Int32)), .unset] [(.int (8 : Int32)), (.long q3), (.int (o + (2 : Int32))), (.ref b)]))
          refine GoOn.step (fun t₀ k₀ => XS.lushr X48.here hx rfl (hb hby at_212) rfl k₀) ?_
          show GoOn p e below _ (T48.setTop (mkF m 213 #[.val (.int q0), .val (.int q1), .val (.int q2), .val (.long q3), .second, .val (.int o), .val (.int fl), .val (.ref a), .val (.int u), .val (.int v9), .val (.int (1 : Int32)), .val (.ref b), .val (.int (3 : Int32)), .val (.int (252 : Int32)), .unset] [(.long ((q3.toUInt64 >>> ((8 : Int32) &&& 0x3f).toInt64.toUInt64).toInt64)), (.int (o + (2 : Int32))), (.ref b)]))
          refine GoOn.step (fun t₀ k₀ => XS.l2i X48.here hx rfl (hb hby at_213) rfl k₀) ?_
          show GoOn p e below _ (T48.setTop (mkF m 214 #[.val (.int q0), .val (.int q1), .val (.int q2), .val (.long q3), .second, .val (.int o), .val (.int fl), .val (.ref a), .val (.int u), .val (.int v9), .val (.int (1 : Int32)), .val (.ref b), .val (.int (3 : Int32)), .val (.int (252 : Int32)), .unset] [(.int (((q3.toUInt64 >>> ((8 : Int32) &&& 0x3f).toInt64.toUInt64).toInt64).toInt32)), (.int (o + (2 : Int32))), (.ref b)]))
          refine GoOn.step (fun t₀ k₀ => XS.i2b X48.here hx rfl (hb hby at_214) rfl k₀) ?_
          show GoOn p e below _ (T48.setTop (mkF m 215 #[.val (.int q0), .val (.int q1), .val (.int q2), .val (.long q3), .second, .val (.int o), .val (.int fl), .val (.ref a), .val (.int u), .val (.int v9), .val (.int (1 : Int32)), .val (.ref b), .val (.int (3 : Int32)), .val (.int (252 : Int32)), .unset] [(.int ((((q3.toUInt64 >>> ((8 : Int32) &&& 0x3f).toInt64.toUInt64).toInt64).toInt32).toInt8.toInt32)), (.int (o + (2 : Int32))), (.ref b)]))
          obtain ⟨T49, h49, X49, e49, W49, st49⟩ := kStB X48 hx hZ e48 J_b (j := (o + (2 : Int32))) (ix ho ⟨by decide, by decide⟩) (g := (mkF m 215 #[.val (.int q0), .val (.int q1), .val (.int q2), .val (.long q3), .second, .val (.int o), .val (.int fl), .val (.ref a), .val (.int u), .val (.int v9), .val (.int (1 : Int32)), .val (.ref b), .val (.int (3 : Int32)), .val (.int (252 : Int32)), .unset] [(.int ((((q3.toUInt64 >>> ((8 : Int32) &&& 0x3f).toInt64.toUInt64).toInt64).toInt32).toInt8.toInt32)), (.int (o + (2 : Int32))), (.ref b)])) rfl rfl (hb hby at_215)
          replace N0 := Fr.snoc X49 N0 l_b
          replace J_a := J_a.other W49 ne_a_b
          replace J_b := J_b.set W49
          replace Z0 := Nat.le_trans Z0 (Nat.le_of_eq W49.size.symm)
          refine GoOn.step st49 ?_
          show GoOn p e below _ (T49.setTop (mkF m 216 #[.val (.int q0), .val (.int q1), .val (.int q2), .val (.long q3), .second, .val (.int o), .val (.int fl), .val (.ref a), .val (.int u), .val (.int v9), .val (.int (1 : Int32)), .val (.ref b), .val (.int (3 : Int32)), .val (.int (252 : Int32)), .unset] []))
          obtain ⟨f_b, J_b, hf_b⟩ : ∃ f, Jar Z h49 b .byte 12 f ∧ f o.toNatClampNeg = .int (((252 : Int32).toInt8.toInt32).toInt8.toInt32) := ⟨_, J_b, (if_neg (ixne ho ⟨by decide, by decide⟩)).trans hf_b⟩
          refine GoOn.step (fun t₀ k₀ => XS.iload X49.here hx rfl (hb hby at_216) rfl k₀) ?_
          show GoOn p e below _ (T49.setTop (mkF m 218 #[.val (.int q0), .val (.int q1), .val (.int q2), .val (.long q3), .second, .val (.int o), .val (.int fl), .val (.ref a), .val (.int u), .val (.int v9), .val (.int (1 : Int32)), .val (.ref b), .val (.int (3 : Int32)), .val (.int (252 : Int32)), .unset] [(.int (3 : Int32))]))
          refine GoOn.step (fun t₀ k₀ => XS.iconst X49.here hx rfl (hb hby at_218) k₀) ?_
          show GoOn p e below _ (T49.setTop (mkF m 219 #[.val (.int q0), .val (.int q1), .val (.int q2), .val (.long q3), .second, .val (.int o), .val (.int fl), .val (.ref a), .val (.int u), .val (.int v9), .val (.int (1 : Int32)), .val (.ref b), .val (.int (3 : Int32)), .val (.int (252 : Int32)), .unset] [(.int (4 : Int32)), (.int (3 : Int32))]))
          have hf50 : (3 : Int32) < (4 : Int32) := (by decide)
          refine GoOn.step (fun t₀ k₀ => XS.icmpYes X49.here hx rfl (pc0 := 219) (pc' := 235) rfl (hb hby at_219) rfl (tlt hf50).1 (by decide) (by decide) k₀) ?_
          show GoOn p e below _ (T49.setTop (mkF m 235 #[.val (.int q0), .val (.int q1), .val (.int q2), .val (.long q3), .second, .val (.int o), .val (.int fl), .val (.ref a), .val (.int u), .val (.int v9), .val (.int (1 : Int32)), .val (.ref b), .val (.int (3 : Int32)), .val (.int (252 : Int32)), .unset] []))
          refine GoOn.step (fun t₀ k₀ => XS.iload X49.here hx rfl (hb hby at_235) rfl k₀) ?_
          show GoOn p e below _ (T49.setTop (mkF m 237 #[.val (.int q0), .val (.int q1), .val (.int q2), .val (.long q3), .second, .val (.int o), .val (.int fl), .val (.ref a), .val (.int u), .val (.int v9), .val (.int (1 : Int32)), .val (.ref b), .val (.int (3 : Int32)), .val (.int (252 : Int32)), .unset] [(.int (3 : Int32))]))
          refine GoOn.step (fun t₀ k₀ => XS.bipush X49.here hx rfl (hb hby at_237) k₀) ?_
          show GoOn p e below _ (T49.setTop (mkF m 239 #[.val (.int q0), .val (.int q1), .val (.int q2), .val (.long q3), .second, .val (.int o), .val (.int fl), .val (.ref a), .val (.int u), .val (.int v9), .val (.int (1 : Int32)), .val (.ref b), .val (.int (3 : Int32)), .val (.int (252 : Int32)), .unset] [(.int (9 : Int32)), (.int (3 : Int32))]))
          have hf51 : ¬ ((3 : Int32) = (9 : Int32)) := (by decide)
          refine GoOn.step (fun t₀ k₀ => XS.icmpYes X49.here hx rfl (pc0 := 239) (pc' := 310) rfl (hb hby at_239) rfl (feq hf51).2 (by decide) (by decide) k₀) ?_
          show GoOn p e below _ (T49.setTop (mkF m 310 #[.val (.int q0), .val (.int q1), .val (.int q2), .val (.long q3), .second, .val (.int o), .val (.int fl), .val (.ref a), .val (.int u), .val (.int v9), .val (.int (1 : Int32)), .val (.ref b), .val (.int (3 : Int32)), .val (.int (252 : Int32)), .unset] []))
          refine GoOn.step (fun t₀ k₀ => XS.aload X49.here hx rfl (hb hby at_310) rfl rfl k₀) ?_
          show GoOn p e below _ (T49.setTop (mkF m 312 #[.val (.int q0), .val (.int q1), .val (.int q2), .val (.long q3), .second, .val (.int o), .val (.int fl), .val (.ref a), .val (.int u), .val (.int v9), .val (.int (1 : Int32)), .val (.ref b), .val (.int (3 : Int32)), .val (.int (252 : Int32)), .unset] [(.ref b)]))
          refine GoOn.step (fun t₀ k₀ => XS.iload X49.here hx rfl (hb hby at_312) rfl k₀) ?_
          show GoOn p e below _ (T49.setTop (mkF m 314 #[.val (.int q0), .val (.int q1), .val (.int q2), .val (.long q3), .second, .val (.int o), .val (.int fl), .val (.ref a), .val (.int u), .val (.int v9), .val (.int (1 : Int32)), .val (.ref b), .val (.int (3 : Int32)), .val (.int (252 : Int32)), .unset] [(.int o), (.ref b)]))
          obtain ⟨_, T52, L52, X52, hQ52, st52⟩ := kCallS X49 hx hZ (argsL := [(.ref b), (.int o)]) (rest := []) (c_les l Z a0 hw b o _ f_b _ J_b ho' hf_b) hown (hw _ (List.mem_of_getElem? (i := 5) rfl)) (hw _ (List.mem_of_getElem? (i := 6) rfl)) (hw _ (List.mem_of_getElem? (i := 7) rfl)) (hw _ (List.mem_of_getElem? (i := 8) rfl)) (by decide) e49 (g := (mkF m 314 #[.val (.int q0), .val (.int q1), .val (.int q2), .val (.long q3), .second, .val (.int o), .val (.int fl), .val (.ref a), .val (.int u), .val (.int v9), .val (.int (1 : Int32)), .val (.ref b), .val (.int (3 : Int32)), .val (.int (252 : Int32)), .unset] [(.int o), (.ref b)])) rfl (by rw [hml]; rfl) (lenOf pd_1 rfl) rfl (W := 0) (by show 2 * 0 + _ ≤ _; exact Nat.le_of_eq rfl) (hb hby at_314) (by decide) (by decide) (by decide) (by decide)
          obtain ⟨rfl, rfl, e52⟩ := hQ52
          rw [List.append_nil] at X52
          refine GoOn.step st52 ?_
          show GoOn p e below _ (T52.setTop (mkF m 317 #[.val (.int q0), .val (.int q1), .val (.int q2), .val (.long q3), .second, .val (.int o), .val (.int fl), .val (.ref a), .val (.int u), .val (.int v9), .val (.int (1 : Int32)), .val (.ref b), .val (.int (3 : Int32)), .val (.int (252 : Int32)), .unset] [(.int (lesz ((((252 : Int32).toInt8.toInt32).toInt8.toInt32) &&& (255 : Int32))))]))
          refine GoOn.step (fun t₀ k₀ => XS.iload X52.here hx rfl (hb hby at_317) rfl k₀) ?_
          show GoOn p e below _ (T52.setTop (mkF m 319 #[.val (.int q0), .val (.int q1), .val (.int q2), .val (.long q3), .second, .val (.int o), .val (.int fl), .val (.ref a), .val (.int u), .val (.int v9), .val (.int (1 : Int32)), .val (.ref b), .val (.int (3 : Int32)), .val (.int (252 : Int32)), .unset] [(.int (3 : Int32)), (.int (lesz ((((252 : Int32).toInt8.toInt32).toInt8.toInt32) &&& (255 : Int32))))]))
          have hf53 : (lesz ((((252 : Int32).toInt8.toInt32).toInt8.toInt32) &&& (255 : Int32))) = (3 : Int32) := (by rw [pl_byte]; exact (by decide))
          refine GoOn.step (fun t₀ k₀ => XS.icmpNo X52.here hx rfl (hb hby at_319) rfl (teq hf53).2 k₀) ?_
          show GoOn p e below _ (T52.setTop (mkF m 322 #[.val (.int q0), .val (.int q1), .val (.int q2), .val (.long q3), .second, .val (.int o), .val (.int fl), .val (.ref a), .val (.int u), .val (.int v9), .val (.int (1 : Int32)), .val (.ref b), .val (.int (3 : Int32)), .val (.int (252 : Int32)), .unset] []))
          refine GoOn.step (fun t₀ k₀ => XS.iconst X52.here hx rfl (hb hby at_322) k₀) ?_
          show GoOn p e below _ (T52.setTop (mkF m 323 #[.val (.int q0), .val (.int q1), .val (.int q2), .val (.long q3), .second, .val (.int o), .val (.int fl), .val (.ref a), .val (.int u), .val (.int v9), .val (.int (1 : Int32)), .val (.ref b), .val (.int (3 : Int32)), .val (.int (252 : Int32)), .unset] [(.int (1 : Int32))]))
          refine GoOn.step (fun t₀ k₀ => XS.goto X52.here hx rfl (pc0 := 323) (pc' := 327) rfl (hb hby at_323) (by decide) (by decide) k₀) ?_
          show GoOn p e below _ (T52.setTop (mkF m 327 #[.val (.int q0), .val (.int q1), .val (.int q2), .val (.long q3), .second, .val (.int o), .val (.int fl), .val (.ref a), .val (.int u), .val (.int v9), .val (.int (1 : Int32)), .val (.ref b), .val (.int (3 : Int32)), .val (.int (252 : Int32)), .unset] [(.int (1 : Int32))]))
          refine GoOn.step (fun t₀ k₀ => XS.istore X52.here hx rfl (hb hby at_327) rfl (l' := #[.val (.int q0), .val (.int q1), .val (.int q2), .val (.long q3), .second, .val (.int o), .val (.int fl), .val (.ref a), .val (.int u), .val (.int v9), .val (.int (1 : Int32)), .val (.ref b), .val (.int (3 : Int32)), .val (.int (252 : Int32)), .val (.int (1 : Int32))]) rfl k₀) ?_
          show GoOn p e below _ (T52.setTop (mkF m 329 #[.val (.int q0), .val (.int q1), .val (.int q2), .val (.long q3), .second, .val (.int o), .val (.int fl), .val (.ref a), .val (.int u), .val (.int v9), .val (.int (1 : Int32)), .val (.ref b), .val (.int (3 : Int32)), .val (.int (252 : Int32)), .val (.int (1 : Int32))] []))
          refine GoOn.step (fun t₀ k₀ => XS.iload X52.here hx rfl (hb hby at_329) rfl k₀) ?_
          show GoOn p e below _ (T52.setTop (mkF m 331 #[.val (.int q0), .val (.int q1), .val (.int q2), .val (.long q3), .second, .val (.int o), .val (.int fl), .val (.ref a), .val (.int u), .val (.int v9), .val (.int (1 : Int32)), .val (.ref b), .val (.int (3 : Int32)), .val (.int (252 : Int32)), .val (.int (1 : Int32))] [(.int (1 : Int32))]))
          have hf54 : ¬ ((1 : Int32) = (0 : Int32)) := (by decide)
          refine GoOn.step (fun t₀ k₀ => XS.ifNo X52.here hx rfl (hb hby at_331) rfl ((if0 _ _).trans (feq hf54).1) k₀) ?_
          show GoOn p e below _ (T52.setTop (mkF m 334 #[.val (.int q0), .val (.int q1), .val (.int q2), .val (.long q3), .second, .val (.int o), .val (.int fl), .val (.ref a), .val (.int u), .val (.int v9), .val (.int (1 : Int32)), .val (.ref b), .val (.int (3 : Int32)), .val (.int (252 : Int32)), .val (.int (1 : Int32))] []))
          refine GoOn.step (fun t₀ k₀ => XS.iload X52.here hx rfl (hb hby at_334) rfl k₀) ?_
          show GoOn p e below _ (T52.setTop (mkF m 336 #[.val (.int q0), .val (.int q1), .val (.int q2), .val (.long q3), .second, .val (.int o), .val (.int fl), .val (.ref a), .val (.int u), .val (.int v9), .val (.int (1 : Int32)), .val (.ref b), .val (.int (3 : Int32)), .val (.int (252 : Int32)), .val (.int (1 : Int32))] [(.int (1 : Int32))]))
          have hf55 : ¬ ((1 : Int32) = (0 : Int32)) := (by decide)
          refine GoOn.step (fun t₀ k₀ => XS.ifNo X52.here hx rfl (hb hby at_336) rfl ((if0 _ _).trans (feq hf55).1) k₀) ?_
          show GoOn p e below _ (T52.setTop (mkF m 339 #[.val (.int q0), .val (.int q1), .val (.int q2), .val (.long q3), .second, .val (.int o), .val (.int fl), .val (.ref a), .val (.int u), .val (.int v9), .val (.int (1 : Int32)), .val (.ref b), .val (.int (3 : Int32)), .val (.int (252 : Int32)), .val (.int (1 : Int32))] []))
          refine GoOn.step (fun t₀ k₀ => XS.iconst X52.here hx rfl (hb hby at_339) k₀) ?_
          show GoOn p e below _ (T52.setTop (mkF m 340 #[.val (.int q0), .val (.int q1), .val (.int q2), .val (.long q3), .second, .val (.int o), .val (.int fl), .val (.ref a), .val (.int u), .val (.int v9), .val (.int (1 : Int32)), .val (.ref b), .val (.int (3 : Int32)), .val (.int (252 : Int32)), .val (.int (1 : Int32))] [(.int (1 : Int32))]))
          refine GoOn.step (fun t₀ k₀ => XS.goto X52.here hx rfl (pc0 := 340) (pc' := 344) rfl (hb hby at_340) (by decide) (by decide) k₀) ?_
          show GoOn p e below _ (T52.setTop (mkF m 344 #[.val (.int q0), .val (.int q1), .val (.int q2), .val (.long q3), .second, .val (.int o), .val (.int fl), .val (.ref a), .val (.int u), .val (.int v9), .val (.int (1 : Int32)), .val (.ref b), .val (.int (3 : Int32)), .val (.int (252 : Int32)), .val (.int (1 : Int32))] [(.int (1 : Int32))]))
          exact GoOn.retN X52 hx hrt hlk (by simp) (hb hby at_344) (by decide) (by decide) (by first | exact ⟨rfl, N0⟩ | (rw [e52]; exact ⟨rfl, N0⟩))
        · refine GoOn.step (fun t₀ k₀ => XS.ifYes X18.here hx rfl (pc0 := 131) (pc' := 145) rfl (hb hby at_131) rfl ((if0 _ _).trans (flt (mt (lw_lt _ _).mp v2)).2.1) (by decide) (by decide) k₀) ?_
          show GoOn p e below _ (T18.setTop (mkF m 145 #[.val (.int q0), .val (.int q1), .val (.int q2), .val (.long q3), .second, .val (.int o), .val (.int fl), .val (.ref a), .val (.int u), .val (.int v9), .val (.int (1 : Int32)), .val (.ref b), .unset, .unset, .unset] []))
          refine GoOn.step (fun t₀ k₀ => XS.lloadN X18.here hx rfl (hb hby at_145) rfl k₀) ?_
          show GoOn p e below _ (T18.setTop (mkF m 146 #[.val (.int q0), .val (.int q1), .val (.int q2), .val (.long q3), .second, .val (.int o), .val (.int fl), .val (.ref a), .val (.int u), .val (.int v9), .val (.int (1 : Int32)), .val (.ref b), .unset, .unset, .unset] [(.long q3)]))
          refine GoOn.step (fun t₀ k₀ => XS.lconst X18.here hx rfl (hb hby at_146) k₀) ?_
          show GoOn p e below _ (T18.setTop (mkF m 147 #[.val (.int q0), .val (.int q1), .val (.int q2), .val (.long q3), .second, .val (.int o), .val (.int fl), .val (.ref a), .val (.int u), .val (.int v9), .val (.int (1 : Int32)), .val (.ref b), .unset, .unset, .unset] [(.long (0 : Int64)), (.long q3)]))
          refine GoOn.step (fun t₀ k₀ => XS.lcmp X18.here hx rfl (hb hby at_147) rfl k₀) ?_
          show GoOn p e below _ (T18.setTop (mkF m 148 #[.val (.int q0), .val (.int q1), .val (.int q2), .val (.long q3), .second, .val (.int o), .val (.int fl), .val (.ref a), .val (.int u), .val (.int v9), .val (.int (1 : Int32)), .val (.ref b), .unset, .unset, .unset] [(.int (lcmpW q3 (0 : Int64)))]))
          have hf56 : ¬ (q3 < (0 : Int64)) := v0
          refine GoOn.step (fun t₀ k₀ => XS.ifNo X18.here hx rfl (hb hby at_148) rfl ((if0 _ _).trans (flt (mt (lw_lt _ _).mp hf56)).1) k₀) ?_
          show GoOn p e below _ (T18.setTop (mkF m 151 #[.val (.int q0), .val (.int q1), .val (.int q2), .val (.long q3), .second, .val (.int o), .val (.int fl), .val (.ref a), .val (.int u), .val (.int v9), .val (.int (1 : Int32)), .val (.ref b), .unset, .unset, .unset] []))
          refine GoOn.step (fun t₀ k₀ => XS.lloadN X18.here hx rfl (hb hby at_151) rfl k₀) ?_
          show GoOn p e below _ (T18.setTop (mkF m 152 #[.val (.int q0), .val (.int q1), .val (.int q2), .val (.long q3), .second, .val (.int o), .val (.int fl), .val (.ref a), .val (.int u), .val (.int v9), .val (.int (1 : Int32)), .val (.ref b), .unset, .unset, .unset] [(.long q3)]))
          refine GoOn.step (fun t₀ k₀ => X18.ldc2Long hx hown (mvT hZ (hw _ (List.mem_of_getElem? (i := 11) rfl))) (g := (mkF m 152 #[.val (.int q0), .val (.int q1), .val (.int q2), .val (.long q3), .second, .val (.int o), .val (.int fl), .val (.ref a), .val (.int u), .val (.int v9), .val (.int (1 : Int32)), .val (.ref b), .unset, .unset, .unset] [(.long q3)])) rfl (hb hby at_152) t₀ k₀) ?_
          show GoOn p e below _ (T18.setTop (mkF m 155 #[.val (.int q0), .val (.int q1), .val (.int q2), .val (.long q3), .second, .val (.int o), .val (.int fl), .val (.ref a), .val (.int u), .val (.int v9), .val (.int (1 : Int32)), .val (.ref b), .unset, .unset, .unset] [(.long (16777216 : Int64)), (.long q3)]))
          refine GoOn.step (fun t₀ k₀ => XS.lcmp X18.here hx rfl (hb hby at_155) rfl k₀) ?_
          show GoOn p e below _ (T18.setTop (mkF m 156 #[.val (.int q0), .val (.int q1), .val (.int q2), .val (.long q3), .second, .val (.int o), .val (.int fl), .val (.ref a), .val (.int u), .val (.int v9), .val (.int (1 : Int32)), .val (.ref b), .unset, .unset, .unset] [(.int (lcmpW q3 (16777216 : Int64)))]))
          by_cases v3 : q3 < (16777216 : Int64)
          · refine GoOn.step (fun t₀ k₀ => XS.ifNo X18.here hx rfl (hb hby at_156) rfl ((if0 _ _).trans (tlt ((lw_lt _ _).mpr v3)).2.1) k₀) ?_
            show GoOn p e below _ (T18.setTop (mkF m 159 #[.val (.int q0), .val (.int q1), .val (.int q2), .val (.long q3), .second, .val (.int o), .val (.int fl), .val (.ref a), .val (.int u), .val (.int v9), .val (.int (1 : Int32)), .val (.ref b), .unset, .unset, .unset] []))
            refine GoOn.step (fun t₀ k₀ => XS.iconst X18.here hx rfl (hb hby at_159) k₀) ?_
            show GoOn p e below _ (T18.setTop (mkF m 160 #[.val (.int q0), .val (.int q1), .val (.int q2), .val (.long q3), .second, .val (.int o), .val (.int fl), .val (.ref a), .val (.int u), .val (.int v9), .val (.int (1 : Int32)), .val (.ref b), .unset, .unset, .unset] [(.int (4 : Int32))]))
            refine GoOn.step (fun t₀ k₀ => XS.istore X18.here hx rfl (hb hby at_160) rfl (l' := #[.val (.int q0), .val (.int q1), .val (.int q2), .val (.long q3), .second, .val (.int o), .val (.int fl), .val (.ref a), .val (.int u), .val (.int v9), .val (.int (1 : Int32)), .val (.ref b), .val (.int (4 : Int32)), .unset, .unset]) rfl k₀) ?_
            show GoOn p e below _ (T18.setTop (mkF m 162 #[.val (.int q0), .val (.int q1), .val (.int q2), .val (.long q3), .second, .val (.int o), .val (.int fl), .val (.ref a), .val (.int u), .val (.int v9), .val (.int (1 : Int32)), .val (.ref b), .val (.int (4 : Int32)), .unset, .unset] []))
            refine GoOn.step (fun t₀ k₀ => XS.sipush X18.here hx rfl (hb hby at_162) k₀) ?_
            show GoOn p e below _ (T18.setTop (mkF m 165 #[.val (.int q0), .val (.int q1), .val (.int q2), .val (.long q3), .second, .val (.int o), .val (.int fl), .val (.ref a), .val (.int u), .val (.int v9), .val (.int (1 : Int32)), .val (.ref b), .val (.int (4 : Int32)), .unset, .unset] [(.int (253 : Int32))]))
            refine GoOn.step (fun t₀ k₀ => XS.istore X18.here hx rfl (hb hby at_165) rfl (l' := #[.val (.int q0), .val (.int q1), .val (.int q2), .val (.long q3), .second, .val (.int o), .val (.int fl), .val (.ref a), .val (.int u), .val (.int v9), .val (.int (1 : Int32)), .val (.ref b), .val (.int (4 : Int32)), .val (.int (253 : Int32)), .unset]) rfl k₀) ?_
            show GoOn p e below _ (T18.setTop (mkF m 167 #[.val (.int q0), .val (.int q1), .val (.int q2), .val (.long q3), .second, .val (.int o), .val (.int fl), .val (.ref a), .val (.int u), .val (.int v9), .val (.int (1 : Int32)), .val (.ref b), .val (.int (4 : Int32)), .val (.int (253 : Int32)), .unset] []))
            refine GoOn.step (fun t₀ k₀ => XS.goto X18.here hx rfl (pc0 := 167) (pc' := 179) rfl (hb hby at_167) (by decide) (by decide) k₀) ?_
            show GoOn p e below _ (T18.setTop (mkF m 179 #[.val (.int q0), .val (.int q1), .val (.int q2), .val (.long q3), .second, .val (.int o), .val (.int fl), .val (.ref a), .val (.int u), .val (.int v9), .val (.int (1 : Int32)), .val (.ref b), .val (.int (4 : Int32)), .val (.int (253 : Int32)), .unset] []))
            refine GoOn.step (fun t₀ k₀ => XS.aload X18.here hx rfl (hb hby at_179) rfl rfl k₀) ?_
            show GoOn p e below _ (T18.setTop (mkF m 181 #[.val (.int q0), .val (.int q1), .val (.int q2), .val (.long q3), .second, .val (.int o), .val (.int fl), .val (.ref a), .val (.int u), .val (.int v9), .val (.int (1 : Int32)), .val (.ref b), .val (.int (4 : Int32)), .val (.int (253 : Int32)), .unset] [(.ref b)]))
            refine GoOn.step (fun t₀ k₀ => XS.iload X18.here hx rfl (hb hby at_181) rfl k₀) ?_
            show GoOn p e below _ (T18.setTop (mkF m 183 #[.val (.int q0), .val (.int q1), .val (.int q2), .val (.long q3), .second, .val (.int o), .val (.int fl), .val (.ref a), .val (.int u), .val (.int v9), .val (.int (1 : Int32)), .val (.ref b), .val (.int (4 : Int32)), .val (.int (253 : Int32)), .unset] [(.int o), (.ref b)]))
            refine GoOn.step (fun t₀ k₀ => XS.iload X18.here hx rfl (hb hby at_183) rfl k₀) ?_
            show GoOn p e below _ (T18.setTop (mkF m 185 #[.val (.int q0), .val (.int q1), .val (.int q2), .val (.long q3), .second, .val (.int o), .val (.int fl), .val (.ref a), .val (.int u), .val (.int v9), .val (.int (1 : Int32)), .val (.ref b), .val (.int (4 : Int32)), .val (.int (253 : Int32)), .unset] [(.int (253 : Int32)), (.int o), (.ref b)]))
            refine GoOn.step (fun t₀ k₀ => XS.i2b X18.here hx rfl (hb hby at_185) rfl k₀) ?_
            show GoOn p e below _ (T18.setTop (mkF m 186 #[.val (.int q0), .val (.int q1), .val (.int q2), .val (.long q3), .second, .val (.int o), .val (.int fl), .val (.ref a), .val (.int u), .val (.int v9), .val (.int (1 : Int32)), .val (.ref b), .val (.int (4 : Int32)), .val (.int (253 : Int32)), .unset] [(.int ((253 : Int32).toInt8.toInt32)), (.int o), (.ref b)]))
            obtain ⟨T57, h57, X57, e57, W57, st57⟩ := kStB X18 hx hZ rfl J_b (j := o) ho' (g := (mkF m 186 #[.val (.int q0), .val (.int q1), .val (.int q2), .val (.long q3), .second, .val (.int o), .val (.int fl), .val (.ref a), .val (.int u), .val (.int v9), .val (.int (1 : Int32)), .val (.ref b), .val (.int (4 : Int32)), .val (.int (253 : Int32)), .unset] [(.int ((253 : Int32).toInt8.toInt32)), (.int o), (.ref b)])) rfl rfl (hb hby at_186)
            replace N0 := Fr.snoc X57 N0 l_b
            replace J_a := J_a.other W57 ne_a_b
            replace J_b := J_b.set W57
            replace Z0 := Nat.le_trans Z0 (Nat.le_of_eq W57.size.symm)
            refine GoOn.step st57 ?_
            show GoOn p e below _ (T57.setTop (mkF m 187 #[.val (.int q0), .val (.int q1), .val (.int q2), .val (.long q3), .second, .val (.int o), .val (.int fl), .val (.ref a), .val (.int u), .val (.int v9), .val (.int (1 : Int32)), .val (.ref b), .val (.int (4 : Int32)), .val (.int (253 : Int32)), .unset] []))
            obtain ⟨f_b, J_b, hf_b⟩ : ∃ f, Jar Z h57 b .byte 12 f ∧ f o.toNatClampNeg = .int (((253 : Int32).toInt8.toInt32).toInt8.toInt32) := ⟨_, J_b, if_pos rfl⟩
            refine GoOn.step (fun t₀ k₀ => XS.iload X57.here hx rfl (hb hby at_187) rfl k₀) ?_
            show GoOn p e below _ (T57.setTop (mkF m 189 #[.val (.int q0), .val (.int q1), .val (.int q2), .val (.long q3), .second, .val (.int o), .val (.int fl), .val (.ref a), .val (.int u), .val (.int v9), .val (.int (1 : Int32)), .val (.ref b), .val (.int (4 : Int32)), .val (.int (253 : Int32)), .unset] [(.int (4 : Int32))]))
            refine GoOn.step (fun t₀ k₀ => XS.iconst X57.here hx rfl (hb hby at_189) k₀) ?_
            show GoOn p e below _ (T57.setTop (mkF m 190 #[.val (.int q0), .val (.int q1), .val (.int q2), .val (.long q3), .second, .val (.int o), .val (.int fl), .val (.ref a), .val (.int u), .val (.int v9), .val (.int (1 : Int32)), .val (.ref b), .val (.int (4 : Int32)), .val (.int (253 : Int32)), .unset] [(.int (3 : Int32)), (.int (4 : Int32))]))
            have hf58 : ¬ ((4 : Int32) < (3 : Int32)) := (by decide)
            refine GoOn.step (fun t₀ k₀ => XS.icmpNo X57.here hx rfl (hb hby at_190) rfl (flt hf58).1 k₀) ?_
            show GoOn p e below _ (T57.setTop (mkF m 193 #[.val (.int q0), .val (.int q1), .val (.int q2), .val (.long q3), .second, .val (.int o), .val (.int fl), .val (.ref a), .val (.int u), .val (.int v9), .val (.int (1 : Int32)), .val (.ref b), .val (.int (4 : Int32)), .val (.int (253 : Int32)), .unset] []))
            refine GoOn.step (fun t₀ k₀ => XS.aload X57.here hx rfl (hb hby at_193) rfl rfl k₀) ?_
            show GoOn p e below _ (T57.setTop (mkF m 195 #[.val (.int q0), .val (.int q1), .val (.int q2), .val (.long q3), .second, .val (.int o), .val (.int fl), .val (.ref a), .val (.int u), .val (.int v9), .val (.int (1 : Int32)), .val (.ref b), .val (.int (4 : Int32)), .val (.int (253 : Int32)), .unset] [(.ref b)]))
            refine GoOn.step (fun t₀ k₀ => XS.iload X57.here hx rfl (hb hby at_195) rfl k₀) ?_
            show GoOn p e below _ (T57.setTop (mkF m 197 #[.val (.int q0), .val (.int q1), .val (.int q2), .val (.long q3), .second, .val (.int o), .val (.int fl), .val (.ref a), .val (.int u), .val (.int v9), .val (.int (1 : Int32)), .val (.ref b), .val (.int (4 : Int32)), .val (.int (253 : Int32)), .unset] [(.int o), (.ref b)]))
            refine GoOn.step (fun t₀ k₀ => XS.iconst X57.here hx rfl (hb hby at_197) k₀) ?_
            show GoOn p e below _ (T57.setTop (mkF m 198 #[.val (.int q0), .val (.int q1), .val (.int q2), .val (.long q3), .second, .val (.int o), .val (.int fl), .val (.ref a), .val (.int u), .val (.int v9), .val (.int (1 : Int32)), .val (.ref b), .val (.int (4 : Int32)), .val (.int (253 : Int32)), .unset] [(.int (1 : Int32)), (.int o), (.ref b)]))
            refine GoOn.step (fun t₀ k₀ => XS.iadd X57.here hx rfl (hb hby at_198) rfl k₀) ?_
            show GoOn p e below _ (T57.setTop (mkF m 199 #[.val (.int q0), .val (.int q1), .val (.int q2), .val (.long q3), .second, .val (.int o), .val (.int fl), .val (.ref a), .val (.int u), .val (.int v9), .val (.int (1 : Int32)), .val (.ref b), .val (.int (4 : Int32)), .val (.int (253 : Int32)), .unset] [(.int (o + (1 : Int32))), (.ref b)]))
            refine GoOn.step (fun t₀ k₀ => XS.lloadN X57.here hx rfl (hb hby at_199) rfl k₀) ?_
            show GoOn p e below _ (T57.setTop (mkF m 200 #[.val (.int q0), .val (.int q1), .val (.int q2), .val (.long q3), .second, .val (.int o), .val (.int fl), .val (.ref a), .val (.int u), .val (.int v9), .val (.int (1 : Int32)), .val (.ref b), .val (.int (4 : Int32)), .val (.int (253 : Int32)), .unset] [(.long q3), (.int (o + (1 : Int32))), (.ref b)]))
            refine GoOn.step (fun t₀ k₀ => XS.l2i X57.here hx rfl (hb hby at_200) rfl k₀) ?_
            show GoOn p e below _ (T57.setTop (mkF m 201 #[.val (.int q0), .val (.int q1), .val (.int q2), .val (.long q3), .second, .val (.int o), .val (.int fl), .val (.ref a), .val (.int u), .val (.int v9), .val (.int (1 : Int32)), .val (.ref b), .val (.int (4 : Int32)), .val (.int (253 : Int32)), .unset] [(.int (q3.toInt32)), (.int (o + (1 : Int32))), (.ref b)]))
            refine GoOn.step (fun t₀ k₀ => XS.i2b X57.here hx rfl (hb hby at_201) rfl k₀) ?_
            show GoOn p e below _ (T57.setTop (mkF m 202 #[.val (.int q0), .val (.int q1), .val (.int q2), .val (.long q3), .second, .val (.int o), .val (.int fl), .val (.ref a), .val (.int u), .val (.int v9), .val (.int (1 : Int32)), .val (.ref b), .val (.int (4 : Int32)), .val (.int (253 : Int32)), .unset] [(.int ((q3.toInt32).toInt8.toInt32)), (.int (o + (1 : Int32))), (.ref b)]))
            obtain ⟨T59, h59, X59, e59, W59, st59⟩ := kStB X57 hx hZ e57 J_b (j := (o + (1 : Int32))) (ix ho ⟨by decide, by decide⟩) (g := (mkF m 202 #[.val (.int q0), .val (.int q1), .val (.int q2), .val (.long q3), .second, .val (.int o), .val (.int fl), .val (.ref a), .val (.int u), .val (.int v9), .val (.int (1 : Int32)), .val (.ref b), .val (.int (4 : Int32)), .val (.int (253 : Int32)), .unset] [(.int ((q3.toInt32).toInt8.toInt32)), (.int (o + (1 : Int32))), (.ref b)])) rfl rfl (hb hby at_202)
            replace N0 := Fr.snoc X59 N0 l_b
            replace J_a := J_a.other W59 ne_a_b
            replace J_b := J_b.set W59
            replace Z0 := Nat.le_trans Z0 (Nat.le_of_eq W59.size.symm)
            refine GoOn.step st59 ?_
            show GoOn p e below _ (T59.setTop (mkF m 203 #[.val (.int q0), .val (.int q1), .val (.int q2), .val (.long q3), .second, .val (.int o), .val (.int fl), .val (.ref a), .val (.int u), .val (.int v9), .val (.int (1 : Int32)), .val (.ref b), .val (.int (4 : Int32)), .val (.int (253 : Int32)), .unset] []))
            obtain ⟨f_b, J_b, hf_b⟩ : ∃ f, Jar Z h59 b .byte 12 f ∧ f o.toNatClampNeg = .int (((253 : Int32).toInt8.toInt32).toInt8.toInt32) := ⟨_, J_b, (if_neg (ixne ho ⟨by decide, by decide⟩)).trans hf_b⟩
            refine GoOn.step (fun t₀ k₀ => XS.aload X59.here hx rfl (hb hby at_203) rfl rfl k₀) ?_
            show GoOn p e below _ (T59.setTop (mkF m 205 #[.val (.int q0), .val (.int q1), .val (.int q2), .val (.long q3), .second, .val (.int o), .val (.int fl), .val (.ref a), .val (.int u), .val (.int v9), .val (.int (1 : Int32)), .val (.ref b), .val (.int (4 : Int32)), .val (.int (253 : Int32)), .unset] [(.ref b)]))
            refine GoOn.step (fun t₀ k₀ => XS.iload X59.here hx rfl (hb hby at_205) rfl k₀) ?_
            show GoOn p e below _ (T59.setTop (mkF m 207 #[.val (.int q0), .val (.int q1), .val (.int q2), .val (.long q3), .second, .val (.int o), .val (.int fl), .val (.ref a), .val (.int u), .val (.int v9), .val (.int (1 : Int32)), .val (.ref b), .val (.int (4 : Int32)), .val (.int (253 : Int32)), .unset] [(.int o), (.ref b)]))
            refine GoOn.step (fun t₀ k₀ => XS.iconst X59.here hx rfl (hb hby at_207) k₀) ?_
            show GoOn p e below _ (T59.setTop (mkF m 208 #[.val (.int q0), .val (.int q1), .val (.int q2), .val (.long q3), .second, .val (.int o), .val (.int fl), .val (.ref a), .val (.int u), .val (.int v9), .val (.int (1 : Int32)), .val (.ref b), .val (.int (4 : Int32)), .val (.int (253 : Int32)), .unset] [(.int (2 : Int32)), (.int o), (.ref b)]))
            refine GoOn.step (fun t₀ k₀ => XS.iadd X59.here hx rfl (hb hby at_208) rfl k₀) ?_
            show GoOn p e below _ (T59.setTop (mkF m 209 #[.val (.int q0), .val (.int q1), .val (.int q2), .val (.long q3), .second, .val (.int o), .val (.int fl), .val (.ref a), .val (.int u), .val (.int v9), .val (.int (1 : Int32)), .val (.ref b), .val (.int (4 : Int32)), .val (.int (253 : Int32)), .unset] [(.int (o + (2 : Int32))), (.ref b)]))
            refine GoOn.step (fun t₀ k₀ => XS.lloadN X59.here hx rfl (hb hby at_209) rfl k₀) ?_
            show GoOn p e below _ (T59.setTop (mkF m 210 #[.val (.int q0), .val (.int q1), .val (.int q2), .val (.long q3), .second, .val (.int o), .val (.int fl), .val (.ref a), .val (.int u), .val (.int v9), .val (.int (1 : Int32)), .val (.ref b), .val (.int (4 : Int32)), .val (.int (253 : Int32)), .unset] [(.long q3), (.int (o + (2 : Int32))), (.ref b)]))
            refine GoOn.step (fun t₀ k₀ => XS.bipush X59.here hx rfl (hb hby at_210) k₀) ?_
            show GoOn p e below _ (T59.setTop (mkF m 212 #[.val (.int q0), .val (.int q1), .val (.int q2), .val (.long q3), .second, .val (.int o), .val (.int fl), .val (.ref a), .val (.int u), .val (.int v9), .val (.int (1 : Int32)), .val (.ref b), .val (.int (4 : Int32)), .val (.int (253 : Int32)), .unset] [(.int (8 : Int32)), (.long q3), (.int (o + (2 : Int32))), (.ref b)]))
            refine GoOn.step (fun t₀ k₀ => XS.lushr X59.here hx rfl (hb hby at_212) rfl k₀) ?_
            show GoOn p e below _ (T59.setTop (mkF m 213 #[.val (.int q0), .val (.int q1), .val (.int q2), .val (.long q3), .second, .val (.int o), .val (.int fl), .val (.ref a), .val (.int u), .val (.int v9), .val (.int (1 : Int32)), .val (.ref b), .val (.int (4 : Int32)), .val (.int (253 : Int32)), .unset] [(.long ((q3.toUInt64 >>> ((8 : Int32) &&& 0x3f).toInt64.toUInt64).toInt64)), (.int (o + (2 : Int32))), (.ref b)]))
            refine GoOn.step (fun t₀ k₀ => XS.l2i X59.here hx rfl (hb hby at_213) rfl k₀) ?_
            show GoOn p e below _ (T59.setTop (mkF m 214 #[.val (.int q0), .val (.int q1), .val (.int q2), .val (.long q3), .second, .val (.int o), .val (.int fl), .val (.ref a), .val (.int u), .val (.int v9), .val (.int (1 : Int32)), .val (.ref b), .val (.int (4 : Int32)), .val (.int (253 : Int32)), .unset] [(.int (((q3.toUInt64 >>> ((8 : Int32) &&& 0x3f).toInt64.toUInt64).toInt64).toInt32)), (.int (o + (2 : Int32))), (.ref b)]))
            refine GoOn.step (fun t₀ k₀ => XS.i2b X59.here hx rfl (hb hby at_214) rfl k₀) ?_
            show GoOn p e below _ (T59.setTop (mkF m 215 #[.val (.int q0), .val (.int q1), .val (.int q2), .val (.long q3), .second, .val (.int o), .val (.int fl), .val (.ref a), .val (.int u), .val (.int v9), .val (.int (1 : Int32)), .val (.ref b), .val (.int (4 : Int32)), .val (.int (253 : Int32)), .unset] [(.int ((((q3.toUInt64 >>> ((8 : Int32) &&& 0x3f).toInt64.toUInt64).toInt64).toInt32).toInt8.toInt32)), (.int (o + (2 : Int32))), (.ref b)]))
            obtain ⟨T60, h60, X60, e60, W60, st60⟩ := kStB X59 hx hZ e59 J_b (j := (o + (2 : Int32))) (ix ho ⟨by decide, by decide⟩) (g := (mkF m 215 #[.val (.int q0), .val (.int q1), .val (.int q2), .val (.long q3), .second, .val (.int o), .val (.int fl), .val (.ref a), .val (.int u), .val (.int v9), .val (.int (1 : Int32)), .val (.ref b), .val (.int (4 : Int32)), .val (.int (253 : Int32)), .unset] [(.int ((((q3.toUInt64 >>> ((8 : Int32) &&& 0x3f).toInt64.toUInt64).toInt64).toInt32).toInt8.toInt32)), (.int (o + (2 : Int32))), (.ref b)])) rfl rfl (hb hby at_215)
            replace N0 := Fr.snoc X60 N0 l_b
            replace J_a := J_a.other W60 ne_a_b
            replace J_b := J_b.set W60
            replace Z0 := Nat.le_trans Z0 (Nat.le_of_eq W60.size.symm)
            refine GoOn.step st60 ?_
            show GoOn p e below _ (T60.setTop (mkF m 216 #[.val (.int q0), .val (.int q1), .val (.int q2), .val (.long q3), .second, .val (.int o), .val (.int fl), .val (.ref a), .val (.int u), .val (.int v9), .val (.int (1 : Int32)), .val (.ref b), .val (.int (4 : Int32)), .val (.int (253 : Int32)), .unset] []))
            obtain ⟨f_b, J_b, hf_b⟩ : ∃ f, Jar Z h60 b .byte 12 f ∧ f o.toNatClampNeg = .int (((253 : Int32).toInt8.toInt32).toInt8.toInt32) := ⟨_, J_b, (if_neg (ixne ho ⟨by decide, by decide⟩)).trans hf_b⟩
            refine GoOn.step (fun t₀ k₀ => XS.iload X60.here hx rfl (hb hby at_216) rfl k₀) ?_
            show GoOn p e below _ (T60.setTop (mkF m 218 #[.val (.int q0), .val (.int q1), .val (.int q2), .val (.long q3), .second, .val (.int o), .val (.int fl), .val (.ref a), .val (.int u), .val (.int v9), .val (.int (1 : Int32)), .val (.ref b), .val (.int (4 : Int32)), .val (.int (253 : Int32)), .unset] [(.int (4 : Int32))]))
            refine GoOn.step (fun t₀ k₀ => XS.iconst X60.here hx rfl (hb hby at_218) k₀) ?_
            show GoOn p e below _ (T60.setTop (mkF m 219 #[.val (.int q0), .val (.int q1), .val (.int q2), .val (.long q3), .second, .val (.int o), .val (.int fl), .val (.ref a), .val (.int u), .val (.int v9), .val (.int (1 : Int32)), .val (.ref b), .val (.int (4 : Int32)), .val (.int (253 : Int32)), .unset] [(.int (4 : Int32)), (.int (4 : Int32))]))
            have hf61 : ¬ ((4 : Int32) < (4 : Int32)) := (by decide)
            refine GoOn.step (fun t₀ k₀ => XS.icmpNo X60.here hx rfl (hb hby at_219) rfl (flt hf61).1 k₀) ?_
            show GoOn p e below _ (T60.setTop (mkF m 222 #[.val (.int q0), .val (.int q1), .val (.int q2), .val (.long q3), .second, .val (.int o), .val (.int fl), .val (.ref a), .val (.int u), .val (.int v9), .val (.int (1 : Int32)), .val (.ref b), .val (.int (4 : Int32)), .val (.int (253 : Int32)), .unset] []))
            refine GoOn.step (fun t₀ k₀ => XS.aload X60.here hx rfl (hb hby at_222) rfl rfl k₀) ?_
            show GoOn p e below _ (T60.setTop (mkF m 224 #[.val (.int q0), .val (.int q1), .val (.int q2), .val (.long q3), .second, .val (.int o), .val (.int fl), .val (.ref a), .val (.int u), .val (.int v9), .val (.int (1 : Int32)), .val (.ref b), .val (.int (4 : Int32)), .val (.int (253 : Int32)), .unset] [(.ref b)]))
            refine GoOn.step (fun t₀ k₀ => XS.iload X60.here hx rfl (hb hby at_224) rfl k₀) ?_
            show GoOn p e below _ (T60.setTop (mkF m 226 #[.val (.int q0), .val (.int q1), .val (.int q2), .val (.long q3), .second, .val (.int o), .val (.int fl), .val (.ref a), .val (.int u), .val (.int v9), .val (.int (1 : Int32)), .val (.ref b), .val (.int (4 : Int32)), .val (.int (253 : Int32)), .unset] [(.int o), (.ref b)]))
            refine GoOn.step (fun t₀ k₀ => XS.iconst X60.here hx rfl (hb hby at_226) k₀) ?_
            show GoOn p e below _ (T60.setTop (mkF m 227 #[.val (.int q0), .val (.int q1), .val (.int q2), .val (.long q3), .second, .val (.int o), .val (.int fl), .val (.ref a), .val (.int u), .val (.int v9), .val (.int (1 : Int32)), .val (.ref b), .val (.int (4 : Int32)), .val (.int (253 : Int32)), .unset] [(.int (3 : Int32)), (.int o), (.ref b)]))
            refine GoOn.step (fun t₀ k₀ => XS.iadd X60.here hx rfl (hb hby at_227) rfl k₀) ?_
            show GoOn p e below _ (T60.setTop (mkF m 228 #[.val (.int q0), .val (.int q1), .val (.int q2), .val (.long q3), .second, .val (.int o), .val (.int fl), .val (.ref a), .val (.int u), .val (.int v9), .val (.int (1 : Int32)), .val (.ref b), .val (.int (4 : Int32)), .val (.int (253 : Int32)), .unset] [(.int (o + (3 : Int32))), (.ref b)]))
            refine GoOn.step (fun t₀ k₀ => XS.lloadN X60.here hx rfl (hb hby at_228) rfl k₀) ?_
            show GoOn p e below _ (T60.setTop (mkF m 229 #[.val (.int q0), .val (.int q1), .val (.int q2), .val (.long q3), .second, .val (.int o), .val (.int fl), .val (.ref a), .val (.int u), .val (.int v9), .val (.int (1 : Int32)), .val (.ref b), .val (.int (4 : Int32)), .val (.int (253 : Int32)), .unset] [(.long q3), (.int (o + (3 : Int32))), (.ref b)]))
            refine GoOn.step (fun t₀ k₀ => XS.bipush X60.here hx rfl (hb hby at_229) k₀) ?_
            show GoOn p e below _ (T60.setTop (mkF m 231 #[.val (.int q0), .val (.int q1), .val (.int q2), .val (.long q3), .second, .val (.int o), .val (.int fl), .val (.ref a), .val (.int u), .val (.int v9), .val (.int (1 : Int32)), .val (.ref b), .val (.int (4 : Int32)), .val (.int (253 : Int32)), .unset] [(.int (16 : Int32)), (.long q3), (.int (o + (3 : Int32))), (.ref b)]))
            refine GoOn.step (fun t₀ k₀ => XS.lushr X60.here hx rfl (hb hby at_231) rfl k₀) ?_
            show GoOn p e below _ (T60.setTop (mkF m 232 #[.val (.int q0), .val (.int q1), .val (.int q2), .val (.long q3), .second, .val (.int o), .val (.int fl), .val (.ref a), .val (.int u), .val (.int v9), .val (.int (1 : Int32)), .val (.ref b), .val (.int (4 : Int32)), .val (.int (253 : Int32)), .unset] [(.long ((q3.toUInt64 >>> ((16 : Int32) &&& 0x3f).toInt64.toUInt64).toInt64)), (.int (o + (3 : Int32))), (.ref b)]))
            refine GoOn.step (fun t₀ k₀ => XS.l2i X60.here hx rfl (hb hby at_232) rfl k₀) ?_
            show GoOn p e below _ (T60.setTop (mkF m 233 #[.val (.int q0), .val (.int q1), .val (.int q2), .val (.long q3), .second, .val (.int o), .val (.int fl), .val (.ref a), .val (.int u), .val (.int v9), .val (.int (1 : Int32)), .val (.ref b), .val (.int (4 : Int32)), .val (.int (253 : Int32)), .unset] [(.int (((q3.toUInt64 >>> ((16 : Int32) &&& 0x3f).toInt64.toUInt64).toInt64).toInt32)), (.int (o + (3 : Int32))), (.ref b)]))
            refine GoOn.step (fun t₀ k₀ => XS.i2b X60.here hx rfl (hb hby at_233) rfl k₀) ?_
            show GoOn p e below _ (T60.setTop (mkF m 234 #[.val (.int q0), .val (.int q1), .val (.int q2), .val (.long q3), .second, .val (.int o), .val (.int fl), .val (.ref a), .val (.int u), .val (.int v9), .val (.int (1 : Int32)), .val (.ref b), .val (.int (4 : Int32)), .val (.int (253 : Int32)), .unset] [(.int ((((q3.toUInt64 >>> ((16 : Int32) &&& 0x3f).toInt64.toUInt64).toInt64).toInt32).toInt8.toInt32)), (.int (o + (3 : Int32))), (.ref b)]))
            obtain ⟨T62, h62, X62, e62, W62, st62⟩ := kStB X60 hx hZ e60 J_b (j := (o + (3 : Int32))) (ix ho ⟨by decide, by decide⟩) (g := (mkF m 234 #[.val (.int q0), .val (.int q1), .val (.int q2), .val (.long q3), .second, .val (.int o), .val (.int fl), .val (.ref a), .val (.int u), .val (.int v9), .val (.int (1 : Int32)), .val (.ref b), .val (.int (4 : Int32)), .val (.int (253 : Int32)), .unset] [(.int ((((q3.toUInt64 >>> ((16 : Int32) &&& 0x3f).toInt64.toUInt64).toInt64).toInt32).toInt8.toInt32)), (.int (o + (3 : Int32))), (.ref b)])) rfl rfl (hb hby at_234)
            replace N0 := Fr.snoc X62 N0 l_b
            replace J_a := J_a.other W62 ne_a_b
            replace J_b := J_b.set W62
            replace Z0 := Nat.le_trans Z0 (Nat.le_of_eq W62.size.symm)
            refine GoOn.step st62 ?_
            show GoOn p e below _ (T62.setTop (mkF m 235 #[.val (.int q0), .val (.int q1), .val (.int q2), .val (.long q3), .second, .val (.int o), .val (.int fl), .val (.ref a), .val (.int u), .val (.int v9), .val (.int (1 : Int32)), .val (.ref b), .val (.int (4 : Int32)), .val (.int (253 : Int32)), .unset] []))
            obtain ⟨f_b, J_b, hf_b⟩ : ∃ f, Jar Z h62 b .byte 12 f ∧ f o.toNatClampNeg = .int (((253 : Int32).toInt8.toInt32).toInt8.toInt32) := ⟨_, J_b, (if_neg (ixne ho ⟨by decide, by decide⟩)).trans hf_b⟩
            refine GoOn.step (fun t₀ k₀ => XS.iload X62.here hx rfl (hb hby at_235) rfl k₀) ?_
            show GoOn p e below _ (T62.setTop (mkF m 237 #[.val (.int q0), .val (.int q1), .val (.int q2), .val (.long q3), .second, .val (.int o), .val (.int fl), .val (.ref a), .val (.int u), .val (.int v9), .val (.int (1 : Int32)), .val (.ref b), .val (.int (4 : Int32)), .val (.int (253 : Int32)), .unset] [(.int (4 : Int32))]))
            refine GoOn.step (fun t₀ k₀ => XS.bipush X62.here hx rfl (hb hby at_237) k₀) ?_
            show GoOn p e below _ (T62.setTop (mkF m 239 #[.val (.int q0), .val (.int q1), .val (.int q2), .val (.long q3), .second, .val (.int o), .val (.int fl), .val (.ref a), .val (.int u), .val (.int v9), .val (.int (1 : Int32)), .val (.ref b), .val (.int (4 : Int32)), .val (.int (253 : Int32)), .unset] [(.int (9 : Int32)), (.int (4 : Int32))]))
            have hf63 : ¬ ((4 : Int32) = (9 : Int32)) := (by decide)
            refine GoOn.step (fun t₀ k₀ => XS.icmpYes X62.here hx rfl (pc0 := 239) (pc' := 310) rfl (hb hby at_239) rfl (feq hf63).2 (by decide) (by decide) k₀) ?_
            show GoOn p e below _ (T62.setTop (mkF m 310 #[.val (.int q0), .val (.int q1), .val (.int q2), .val (.long q3), .second, .val (.int o), .val (.int fl), .val (.ref a), .val (.int u), .val (.int v9), .val (.int (1 : Int32)), .val (.ref b), .val (.int (4 : Int32)), .val (.int (253 : Int32)), .unset] []))
            refine GoOn.step (fun t₀ k₀ => XS.aload X62.here hx rfl (hb hby at_310) rfl rfl k₀) ?_
            show GoOn p e below _ (T62.setTop (mkF m 312 #[.val (.int q0), .val (.int q1), .val (.int q2), .val (.long q3), .second, .val (.int o), .val (.int fl), .val (.ref a), .val (.int u), .val (.int v9), .val (.int (1 : Int32)), .val (.ref b), .val (.int (4 : Int32)), .val (.int (253 : Int32)), .unset] [(.ref b)]))
            refine GoOn.step (fun t₀ k₀ => XS.iload X62.here hx rfl (hb hby at_312) rfl k₀) ?_
            show GoOn p e below _ (T62.setTop (mkF m 314 #[.val (.int q0), .val (.int q1), .val (.int q2), .val (.long q3), .second, .val (.int o), .val (.int fl), .val (.ref a), .val (.int u), .val (.int v9), .val (.int (1 : Int32)), .val (.ref b), .val (.int (4 : Int32)), .val (.int (253 : Int32)), .unset] [(.int o), (.ref b)]))
            obtain ⟨_, T64, L64, X64, hQ64, st64⟩ := kCallS X62 hx hZ (argsL := [(.ref b), (.int o)]) (rest := []) (c_les l Z a0 hw b o _ f_b _ J_b ho' hf_b) hown (hw _ (List.mem_of_getElem? (i := 5) rfl)) (hw _ (List.mem_of_getElem? (i := 6) rfl)) (hw _ (List.mem_of_getElem? (i := 7) rfl)) (hw _ (List.mem_of_getElem? (i := 8) rfl)) (by decide) e62 (g := (mkF m 314 #[.val (.int q0), .val (.int q1), .val (.int q2), .val (.long q3), .second, .val (.int o), .val (.int fl), .val (.ref a), .val (.int u), .val (.int v9), .val (.int (1 : Int32)), .val (.ref b), .val (.int (4 : Int32)), .val (.int (253 : Int32)), .unset] [(.int o), (.ref b)])) rfl (by rw [hml]; rfl) (lenOf pd_1 rfl) rfl (W := 0) (by show 2 * 0 + _ ≤ _; exact Nat.le_of_eq rfl) (hb hby at_314) (by decide) (by decide) (by decide) (by decide)
            obtain ⟨rfl, rfl, e64⟩ := hQ64
            rw [List.append_nil] at X64
            refine GoOn.step st64 ?_
            show GoOn p e below _ (T64.setTop (mkF m 317 #[.val (.int q0), .val (.int q1), .val (.int q2), .val (.long q3), .second, .val (.int o), .val (.int fl), .val (.ref a), .val (.int u), .val (.int v9), .val (.int (1 : Int32)), .val (.ref b), .val (.int (4 : Int32)), .val (.int (253 : Int32)), .unset] [(.int (lesz ((((253 : Int32).toInt8.toInt32).toInt8.toInt32) &&& (255 : Int32))))]))
            refine GoOn.step (fun t₀ k₀ => XS.iload X64.here hx rfl (hb hby at_317) rfl k₀) ?_
            show GoOn p e below _ (T64.setTop (mkF m 319 #[.val (.int q0), .val (.int q1), .val (.int q2), .val (.long q3), .second, .val (.int o), .val (.int fl), .val (.ref a), .val (.int u), .val (.int v9), .val (.int (1 : Int32)), .val (.ref b), .val (.int (4 : Int32)), .val (.int (253 : Int32)), .unset] [(.int (4 : Int32)), (.int (lesz ((((253 : Int32).toInt8.toInt32).toInt8.toInt32) &&& (255 : Int32))))]))
            have hf65 : (lesz ((((253 : Int32).toInt8.toInt32).toInt8.toInt32) &&& (255 : Int32))) = (4 : Int32) := (by rw [pl_byte]; exact (by decide))
            refine GoOn.step (fun t₀ k₀ => XS.icmpNo X64.here hx rfl (hb hby at_319) rfl (teq hf65).2 k₀) ?_
            show GoOn p e below _ (T64.setTop (mkF m 322 #[.val (.int q0), .val (.int q1), .val (.int q2), .val (.long q3), .second, .val (.int o), .val (.int fl), .val (.ref a), .val (.int u), .val (.int v9), .val (.int (1 : Int32)), .val (.ref b), .val (.int (4 : Int32)), .val (.int (253 : Int32)), .unset] []))
            refine GoOn.step (fun t₀ k₀ => XS.iconst X64.here hx rfl (hb hby at_322) k₀) ?_
            show GoOn p e below _ (T64.setTop (mkF m 323 #[.val (.int q0), .val (.int q1), .val (.int q2), .val (.long q3), .second, .val (.int o), .val (.int fl), .val (.ref a), .val (.int u), .val (.int v9), .val (.int (1 : Int32)), .val (.ref b), .val (.int (4 : Int32)), .val (.int (253 : Int32)), .unset] [(.int (1 : Int32))]))
            refine GoOn.step (fun t₀ k₀ => XS.goto X64.here hx rfl (pc0 := 323) (pc' := 327) rfl (hb hby at_323) (by decide) (by decide) k₀) ?_
            show GoOn p e below _ (T64.setTop (mkF m 327 #[.val (.int q0), .val (.int q1), .val (.int q2), .val (.long q3), .second, .val (.int o), .val (.int fl), .val (.ref a), .val (.int u), .val (.int v9), .val (.int (1 : Int32)), .val (.ref b), .val (.int (4 : Int32)), .val (.int (253 : Int32)), .unset] [(.int (1 : Int32))]))
            refine GoOn.step (fun t₀ k₀ => XS.istore X64.here hx rfl (hb hby at_327) rfl (l' := #[.val (.int q0), .val (.int q1), .val (.int q2), .val (.long q3), .second, .val (.int o), .val (.int fl), .val (.ref a), .val (.int u), .val (.int v9), .val (.int (1 : Int32)), .val (.ref b), .val (.int (4 : Int32)), .val (.int (253 : Int32)), .val (.int (1 : Int32))]) rfl k₀) ?_
            show GoOn p e below _ (T64.setTop (mkF m 329 #[.val (.int q0), .val (.int q1), .val (.int q2), .val (.long q3), .second, .val (.int o), .val (.int fl), .val (.ref a), .val (.int u), .val (.int v9), .val (.int (1 : Int32)), .val (.ref b), .val (.int (4 : Int32)), .val (.int (253 : Int32)), .val (.int (1 : Int32))] []))
            refine GoOn.step (fun t₀ k₀ => XS.iload X64.here hx rfl (hb hby at_329) rfl k₀) ?_
            show GoOn p e below _ (T64.setTop (mkF m 331 #[.val (.int q0), .val (.int q1), .val (.int q2), .val (.long q3), .second, .val (.int o), .val (.int fl), .val (.ref a), .val (.int u), .val (.int v9), .val (.int (1 : Int32)), .val (.ref b), .val (.int (4 : Int32)), .val (.int (253 : Int32)), .val (.int (1 : Int32))] [(.int (1 : Int32))]))
            have hf66 : ¬ ((1 : Int32) = (0 : Int32)) := (by decide)
            refine GoOn.step (fun t₀ k₀ => XS.ifNo X64.here hx rfl (hb hby at_331) rfl ((if0 _ _).trans (feq hf66).1) k₀) ?_
            show GoOn p e below _ (T64.setTop (mkF m 334 #[.val (.int q0), .val (.int q1), .val (.int q2), .val (.long q3), .second, .val (.int o), .val (.int fl), .val (.ref a), .val (.int u), .val (.int v9), .val (.int (1 : Int32)), .val (.ref b), .val (.int (4 : Int32)), .val (.int (253 : Int32)), .val (.int (1 : Int32))] []))
            refine GoOn.step (fun t₀ k₀ => XS.iload X64.here hx rfl (hb hby at_334) rfl k₀) ?_
            show GoOn p e below _ (T64.setTop (mkF m 336 #[.val (.int q0), .val (.int q1), .val (.int q2), .val (.long q3), .second, .val (.int o), .val (.int fl), .val (.ref a), .val (.int u), .val (.int v9), .val (.int (1 : Int32)), .val (.ref b), .val (.int (4 : Int32)), .val (.int (253 : Int32)), .val (.int (1 : Int32))] [(.int (1 : Int32))]))
            have hf67 : ¬ ((1 : Int32) = (0 : Int32)) := (by decide)
            refine GoOn.step (fun t₀ k₀ => XS.ifNo X64.here hx rfl (hb hby at_336) rfl ((if0 _ _).trans (feq hf67).1) k₀) ?_
            show GoOn p e below _ (T64.setTop (mkF m 339 #[.val (.int q0), .val (.int q1), .val (.int q2), .val (.long q3), .second, .val (.int o), .val (.int fl), .val (.ref a), .val (.int u), .val (.int v9), .val (.int (1 : Int32)), .val (.ref b), .val (.int (4 : Int32)), .val (.int (253 : Int32)), .val (.int (1 : Int32))] []))
            refine GoOn.step (fun t₀ k₀ => XS.iconst X64.here hx rfl (hb hby at_339) k₀) ?_
            show GoOn p e below _ (T64.setTop (mkF m 340 #[.val (.int q0), .val (.int q1), .val (.int q2), .val (.long q3), .second, .val (.int o), .val (.int fl), .val (.ref a), .val (.int u), .val (.int v9), .val (.int (1 : Int32)), .val (.ref b), .val (.int (4 : Int32)), .val (.int (253 : Int32)), .val (.int (1 : Int32))] [(.int (1 : Int32))]))
            refine GoOn.step (fun t₀ k₀ => XS.goto X64.here hx rfl (pc0 := 340) (pc' := 344) rfl (hb hby at_340) (by decide) (by decide) k₀) ?_
            show GoOn p e below _ (T64.setTop (mkF m 344 #[.val (.int q0), .val (.int q1), .val (.int q2), .val (.long q3), .second, .val (.int o), .val (.int fl), .val (.ref a), .val (.int u), .val (.int v9), .val (.int (1 : Int32)), .val (.ref b), .val (.int (4 : Int32)), .val (.int (253 : Int32)), .val (.int (1 : Int32))] [(.int (1 : Int32))]))
            exact GoOn.retN X64 hx hrt hlk (by simp) (hb hby at_344) (by decide) (by decide) (by first | exact ⟨rfl, N0⟩ | (rw [e64]; exact ⟨rfl, N0⟩))
          · refine GoOn.step (fun t₀ k₀ => XS.ifYes X18.here hx rfl (pc0 := 156) (pc' := 170) rfl (hb hby at_156) rfl ((if0 _ _).trans (flt (mt (lw_lt _ _).mp v3)).2.1) (by decide) (by decide) k₀) ?_
            show GoOn p e below _ (T18.setTop (mkF m 170 #[.val (.int q0), .val (.int q1), .val (.int q2), .val (.long q3), .second, .val (.int o), .val (.int fl), .val (.ref a), .val (.int u), .val (.int v9), .val (.int (1 : Int32)), .val (.ref b), .unset, .unset, .unset] []))
            refine GoOn.step (fun t₀ k₀ => XS.bipush X18.here hx rfl (hb hby at_170) k₀) ?_
            show GoOn p e below _ (T18.setTop (mkF m 172 #[.val (.int q0), .val (.int q1), .val (.int q2), .val (.long q3), .second, .val (.int o), .val (.int fl), .val (.ref a), .val (.int u), .val (.int v9), .val (.int (1 : Int32)), .val (.ref b), .unset, .unset, .unset] [(.int (9 : Int32))]))
            refine GoOn.step (fun t₀ k₀ => XS.istore X18.here hx rfl (hb hby at_172) rfl (l' := #[.val (.int q0), .val (.int q1), .val (.int q2), .val (.long q3), .second, .val (.int o), .val (.int fl), .val (.ref a), .val (.int u), .val (.int v9), .val (.int (1 : Int32)), .val (.ref b), .val (.int (9 : Int32)), .unset, .unset]) rfl k₀) ?_
            show GoOn p e below _ (T18.setTop (mkF m 174 #[.val (.int q0), .val (.int q1), .val (.int q2), .val (.long q3), .second, .val (.int o), .val (.int fl), .val (.ref a), .val (.int u), .val (.int v9), .val (.int (1 : Int32)), .val (.ref b), .val (.int (9 : Int32)), .unset, .unset] []))
            refine GoOn.step (fun t₀ k₀ => XS.sipush X18.here hx rfl (hb hby at_174) k₀) ?_
            show GoOn p e below _ (T18.setTop (mkF m 177 #[.val (.int q0), .val (.int q1), .val (.int q2), .val (.long q3), .second, .val (.int o), .val (.int fl), .val (.ref a), .val (.int u), .val (.int v9), .val (.int (1 : Int32)), .val (.ref b), .val (.int (9 : Int32)), .unset, .unset] [(.int (254 : Int32))]))
            refine GoOn.step (fun t₀ k₀ => XS.istore X18.here hx rfl (hb hby at_177) rfl (l' := #[.val (.int q0), .val (.int q1), .val (.int q2), .val (.long q3), .second, .val (.int o), .val (.int fl), .val (.ref a), .val (.int u), .val (.int v9), .val (.int (1 : Int32)), .val (.ref b), .val (.int (9 : Int32)), .val (.int (254 : Int32)), .unset]) rfl k₀) ?_
            show GoOn p e below _ (T18.setTop (mkF m 179 #[.val (.int q0), .val (.int q1), .val (.int q2), .val (.long q3), .second, .val (.int o), .val (.int fl), .val (.ref a), .val (.int u), .val (.int v9), .val (.int (1 : Int32)), .val (.ref b), .val (.int (9 : Int32)), .val (.int (254 : Int32)), .unset] []))
            refine GoOn.step (fun t₀ k₀ => XS.aload X18.here hx rfl (hb hby at_179) rfl rfl k₀) ?_
            show GoOn p e below _ (T18.setTop (mkF m 181 #[.val (.int q0), .val (.int q1), .val (.int q2), .val (.long q3), .second, .val (.int o), .val (.int fl), .val (.ref a), .val (.int u), .val (.int v9), .val (.int (1 : Int32)), .val (.ref b), .val (.int (9 : Int32)), .val (.int (254 : Int32)), .unset] [(.ref b)]))
            refine GoOn.step (fun t₀ k₀ => XS.iload X18.here hx rfl (hb hby at_181) rfl k₀) ?_
            show GoOn p e below _ (T18.setTop (mkF m 183 #[.val (.int q0), .val (.int q1), .val (.int q2), .val (.long q3), .second, .val (.int o), .val (.int fl), .val (.ref a), .val (.int u), .val (.int v9), .val (.int (1 : Int32)), .val (.ref b), .val (.int (9 : Int32)), .val (.int (254 : Int32)), .unset] [(.int o), (.ref b)]))
            refine GoOn.step (fun t₀ k₀ => XS.iload X18.here hx rfl (hb hby at_183) rfl k₀) ?_
            show GoOn p e below _ (T18.setTop (mkF m 185 #[.val (.int q0), .val (.int q1), .val (.int q2), .val (.long q3), .second, .val (.int o), .val (.int fl), .val (.ref a), .val (.int u), .val (.int v9), .val (.int (1 : Int32)), .val (.ref b), .val (.int (9 : Int32)), .val (.int (254 : Int32)), .unset] [(.int (254 : Int32)), (.int o), (.ref b)]))
            refine GoOn.step (fun t₀ k₀ => XS.i2b X18.here hx rfl (hb hby at_185) rfl k₀) ?_
            show GoOn p e below _ (T18.setTop (mkF m 186 #[.val (.int q0), .val (.int q1), .val (.int q2), .val (.long q3), .second, .val (.int o), .val (.int fl), .val (.ref a), .val (.int u), .val (.int v9), .val (.int (1 : Int32)), .val (.ref b), .val (.int (9 : Int32)), .val (.int (254 : Int32)), .unset] [(.int ((254 : Int32).toInt8.toInt32)), (.int o), (.ref b)]))
            obtain ⟨T68, h68, X68, e68, W68, st68⟩ := kStB X18 hx hZ rfl J_b (j := o) ho' (g := (mkF m 186 #[.val (.int q0), .val (.int q1), .val (.int q2), .val (.long q3), .second, .val (.int o), .val (.int fl), .val (.ref a), .val (.int u), .val (.int v9), .val (.int (1 : Int32)), .val (.ref b), .val (.int (9 : Int32)), .val (.int (254 : Int32)), .unset] [(.int ((254 : Int32).toInt8.toInt32)), (.int o), (.ref b)])) rfl rfl (hb hby at_186)
            replace N0 := Fr.snoc X68 N0 l_b
            replace J_a := J_a.other W68 ne_a_b
            replace J_b := J_b.set W68
            replace Z0 := Nat.le_trans Z0 (Nat.le_of_eq W68.size.symm)
            refine GoOn.step st68 ?_
            show GoOn p e below _ (T68.setTop (mkF m 187 #[.val (.int q0), .val (.int q1), .val (.int q2), .val (.long q3), .second, .val (.int o), .val (.int fl), .val (.ref a), .val (.int u), .val (.int v9), .val (.int (1 : Int32)), .val (.ref b), .val (.int (9 : Int32)), .val (.int (254 : Int32)), .unset] []))
            obtain ⟨f_b, J_b, hf_b⟩ : ∃ f, Jar Z h68 b .byte 12 f ∧ f o.toNatClampNeg = .int (((254 : Int32).toInt8.toInt32).toInt8.toInt32) := ⟨_, J_b, if_pos rfl⟩
            refine GoOn.step (fun t₀ k₀ => XS.iload X68.here hx rfl (hb hby at_187) rfl k₀) ?_
            show GoOn p e below _ (T68.setTop (mkF m 189 #[.val (.int q0), .val (.int q1), .val (.int q2), .val (.long q3), .second, .val (.int o), .val (.int fl), .val (.ref a), .val (.int u), .val (.int v9), .val (.int (1 : Int32)), .val (.ref b), .val (.int (9 : Int32)), .val (.int (254 : Int32)), .unset] [(.int (9 : Int32))]))
            refine GoOn.step (fun t₀ k₀ => XS.iconst X68.here hx rfl (hb hby at_189) k₀) ?_
            show GoOn p e below _ (T68.setTop (mkF m 190 #[.val (.int q0), .val (.int q1), .val (.int q2), .val (.long q3), .second, .val (.int o), .val (.int fl), .val (.ref a), .val (.int u), .val (.int v9), .val (.int (1 : Int32)), .val (.ref b), .val (.int (9 : Int32)), .val (.int (254 : Int32)), .unset] [(.int (3 : Int32)), (.int (9 : Int32))]))
            have hf69 : ¬ ((9 : Int32) < (3 : Int32)) := (by decide)
            refine GoOn.step (fun t₀ k₀ => XS.icmpNo X68.here hx rfl (hb hby at_190) rfl (flt hf69).1 k₀) ?_
            show GoOn p e below _ (T68.setTop (mkF m 193 #[.val (.int q0), .val (.int q1), .val (.int q2), .val (.long q3), .second, .val (.int o), .val (.int fl), .val (.ref a), .val (.int u), .val (.int v9), .val (.int (1 : Int32)), .val (.ref b), .val (.int (9 : Int32)), .val (.int (254 : Int32)), .unset] []))
            refine GoOn.step (fun t₀ k₀ => XS.aload X68.here hx rfl (hb hby at_193) rfl rfl k₀) ?_
            show GoOn p e below _ (T68.setTop (mkF m 195 #[.val (.int q0), .val (.int q1), .val (.int q2), .val (.long q3), .second, .val (.int o), .val (.int fl), .val (.ref a), .val (.int u), .val (.int v9), .val (.int (1 : Int32)), .val (.ref b), .val (.int (9 : Int32)), .val (.int (254 : Int32)), .unset] [(.ref b)]))
            refine GoOn.step (fun t₀ k₀ => XS.iload X68.here hx rfl (hb hby at_195) rfl k₀) ?_
            show GoOn p e below _ (T68.setTop (mkF m 197 #[.val (.int q0), .val (.int q1), .val (.int q2), .val (.long q3), .second, .val (.int o), .val (.int fl), .val (.ref a), .val (.int u), .val (.int v9), .val (.int (1 : Int32)), .val (.ref b), .val (.int (9 : Int32)), .val (.int (254 : Int32)), .unset] [(.int o), (.ref b)]))
            refine GoOn.step (fun t₀ k₀ => XS.iconst X68.here hx rfl (hb hby at_197) k₀) ?_
            show GoOn p e below _ (T68.setTop (mkF m 198 #[.val (.int q0), .val (.int q1), .val (.int q2), .val (.long q3), .second, .val (.int o), .val (.int fl), .val (.ref a), .val (.int u), .val (.int v9), .val (.int (1 : Int32)), .val (.ref b), .val (.int (9 : Int32)), .val (.int (254 : Int32)), .unset] [(.int (1 : Int32)), (.int o), (.ref b)]))
            refine GoOn.step (fun t₀ k₀ => XS.iadd X68.here hx rfl (hb hby at_198) rfl k₀) ?_
            show GoOn p e below _ (T68.setTop (mkF m 199 #[.val (.int q0), .val (.int q1), .val (.int q2), .val (.long q3), .second, .val (.int o), .val (.int fl), .val (.ref a), .val (.int u), .val (.int v9), .val (.int (1 : Int32)), .val (.ref b), .val (.int (9 : Int32)), .val (.int (254 : Int32)), .unset] [(.int (o + (1 : Int32))), (.ref b)]))
            refine GoOn.step (fun t₀ k₀ => XS.lloadN X68.here hx rfl (hb hby at_199) rfl k₀) ?_
            show GoOn p e below _ (T68.setTop (mkF m 200 #[.val (.int q0), .val (.int q1), .val (.int q2), .val (.long q3), .second, .val (.int o), .val (.int fl), .val (.ref a), .val (.int u), .val (.int v9), .val (.int (1 : Int32)), .val (.ref b), .val (.int (9 : Int32)), .val (.int (254 : Int32)), .unset] [(.long q3), (.int (o + (1 : Int32))), (.ref b)]))
            refine GoOn.step (fun t₀ k₀ => XS.l2i X68.here hx rfl (hb hby at_200) rfl k₀) ?_
            show GoOn p e below _ (T68.setTop (mkF m 201 #[.val (.int q0), .val (.int q1), .val (.int q2), .val (.long q3), .second, .val (.int o), .val (.int fl), .val (.ref a), .val (.int u), .val (.int v9), .val (.int (1 : Int32)), .val (.ref b), .val (.int (9 : Int32)), .val (.int (254 : Int32)), .unset] [(.int (q3.toInt32)), (.int (o + (1 : Int32))), (.ref b)]))
            refine GoOn.step (fun t₀ k₀ => XS.i2b X68.here hx rfl (hb hby at_201) rfl k₀) ?_
            show GoOn p e below _ (T68.setTop (mkF m 202 #[.val (.int q0), .val (.int q1), .val (.int q2), .val (.long q3), .second, .val (.int o), .val (.int fl), .val (.ref a), .val (.int u), .val (.int v9), .val (.int (1 : Int32)), .val (.ref b), .val (.int (9 : Int32)), .val (.int (254 : Int32)), .unset] [(.int ((q3.toInt32).toInt8.toInt32)), (.int (o + (1 : Int32))), (.ref b)]))
            obtain ⟨T70, h70, X70, e70, W70, st70⟩ := kStB X68 hx hZ e68 J_b (j := (o + (1 : Int32))) (ix ho ⟨by decide, by decide⟩) (g := (mkF m 202 #[.val (.int q0), .val (.int q1), .val (.int q2), .val (.long q3), .second, .val (.int o), .val (.int fl), .val (.ref a), .val (.int u), .val (.int v9), .val (.int (1 : Int32)), .val (.ref b), .val (.int (9 : Int32)), .val (.int (254 : Int32)), .unset] [(.int ((q3.toInt32).toInt8.toInt32)), (.int (o + (1 : Int32))), (.ref b)])) rfl rfl (hb hby at_202)
            replace N0 := Fr.snoc X70 N0 l_b
            replace J_a := J_a.other W70 ne_a_b
            replace J_b := J_b.set W70
            replace Z0 := Nat.le_trans Z0 (Nat.le_of_eq W70.size.symm)
            refine GoOn.step st70 ?_
            show GoOn p e below _ (T70.setTop (mkF m 203 #[.val (.int q0), .val (.int q1), .val (.int q2), .val (.long q3), .second, .val (.int o), .val (.int fl), .val (.ref a), .val (.int u), .val (.int v9), .val (.int (1 : Int32)), .val (.ref b), .val (.int (9 : Int32)), .val (.int (254 : Int32)), .unset] []))
            obtain ⟨f_b, J_b, hf_b⟩ : ∃ f, Jar Z h70 b .byte 12 f ∧ f o.toNatClampNeg = .int (((254 : Int32).toInt8.toInt32).toInt8.toInt32) := ⟨_, J_b, (if_neg (ixne ho ⟨by decide, by decide⟩)).trans hf_b⟩
            refine GoOn.step (fun t₀ k₀ => XS.aload X70.here hx rfl (hb hby at_203) rfl rfl k₀) ?_
            show GoOn p e below _ (T70.setTop (mkF m 205 #[.val (.int q0), .val (.int q1), .val (.int q2), .val (.long q3), .second, .val (.int o), .val (.int fl), .val (.ref a), .val (.int u), .val (.int v9), .val (.int (1 : Int32)), .val (.ref b), .val (.int (9 : Int32)), .val (.int (254 : Int32)), .unset] [(.ref b)]))
            refine GoOn.step (fun t₀ k₀ => XS.iload X70.here hx rfl (hb hby at_205) rfl k₀) ?_
            show GoOn p e below _ (T70.setTop (mkF m 207 #[.val (.int q0), .val (.int q1), .val (.int q2), .val (.long q3), .second, .val (.int o), .val (.int fl), .val (.ref a), .val (.int u), .val (.int v9), .val (.int (1 : Int32)), .val (.ref b), .val (.int (9 : Int32)), .val (.int (254 : Int32)), .unset] [(.int o), (.ref b)]))
            refine GoOn.step (fun t₀ k₀ => XS.iconst X70.here hx rfl (hb hby at_207) k₀) ?_
            show GoOn p e below _ (T70.setTop (mkF m 208 #[.val (.int q0), .val (.int q1), .val (.int q2), .val (.long q3), .second, .val (.int o), .val (.int fl), .val (.ref a), .val (.int u), .val (.int v9), .val (.int (1 : Int32)), .val (.ref b), .val (.int (9 : Int32)), .val (.int (254 : Int32)), .unset] [(.int (2 : Int32)), (.int o), (.ref b)]))
            refine GoOn.step (fun t₀ k₀ => XS.iadd X70.here hx rfl (hb hby at_208) rfl k₀) ?_
            show GoOn p e below _ (T70.setTop (mkF m 209 #[.val (.int q0), .val (.int q1), .val (.int q2), .val (.long q3), .second, .val (.int o), .val (.int fl), .val (.ref a), .val (.int u), .val (.int v9), .val (.int (1 : Int32)), .val (.ref b), .val (.int (9 : Int32)), .val (.int (254 : Int32)), .unset] [(.int (o + (2 : Int32))), (.ref b)]))
            refine GoOn.step (fun t₀ k₀ => XS.lloadN X70.here hx rfl (hb hby at_209) rfl k₀) ?_
            show GoOn p e below _ (T70.setTop (mkF m 210 #[.val (.int q0), .val (.int q1), .val (.int q2), .val (.long q3), .second, .val (.int o), .val (.int fl), .val (.ref a), .val (.int u), .val (.int v9), .val (.int (1 : Int32)), .val (.ref b), .val (.int (9 : Int32)), .val (.int (254 : Int32)), .unset] [(.long q3), (.int (o + (2 : Int32))), (.ref b)]))
            refine GoOn.step (fun t₀ k₀ => XS.bipush X70.here hx rfl (hb hby at_210) k₀) ?_
            show GoOn p e below _ (T70.setTop (mkF m 212 #[.val (.int q0), .val (.int q1), .val (.int q2), .val (.long q3), .second, .val (.int o), .val (.int fl), .val (.ref a), .val (.int u), .val (.int v9), .val (.int (1 : Int32)), .val (.ref b), .val (.int (9 : Int32)), .val (.int (254 : Int32)), .unset] [(.int (8 : Int32)), (.long q3), (.int (o + (2 : Int32))), (.ref b)]))
            refine GoOn.step (fun t₀ k₀ => XS.lushr X70.here hx rfl (hb hby at_212) rfl k₀) ?_
            show GoOn p e below _ (T70.setTop (mkF m 213 #[.val (.int q0), .val (.int q1), .val (.int q2), .val (.long q3), .second, .val (.int o), .val (.int fl), .val (.ref a), .val (.int u), .val (.int v9), .val (.int (1 : Int32)), .val (.ref b), .val (.int (9 : Int32)), .val (.int (254 : Int32)), .unset] [(.long ((q3.toUInt64 >>> ((8 : Int32) &&& 0x3f).toInt64.toUInt64).toInt64)), (.int (o + (2 : Int32))), (.ref b)]))
            refine GoOn.step (fun t₀ k₀ => XS.l2i X70.here hx rfl (hb hby at_213) rfl k₀) ?_
            show GoOn p e below _ (T70.setTop (mkF m 214 #[.val (.int q0), .val (.int q1), .val (.int q2), .val (.long q3), .second, .val (.int o), .val (.int fl), .val (.ref a), .val (.int u), .val (.int v9), .val (.int (1 : Int32)), .val (.ref b), .val (.int (9 : Int32)), .val (.int (254 : Int32)), .unset] [(.int (((q3.toUInt64 >>> ((8 : Int32) &&& 0x3f).toInt64.toUInt64).toInt64).toInt32)), (.int (o + (2 : Int32))), (.ref b)]))
            refine GoOn.step (fun t₀ k₀ => XS.i2b X70.here hx rfl (hb hby at_214) rfl k₀) ?_
            show GoOn p e below _ (T70.setTop (mkF m 215 #[.val (.int q0), .val (.int q1), .val (.int q2), .val (.long q3), .second, .val (.int o), .val (.int fl), .val (.ref a), .val (.int u), .val (.int v9), .val (.int (1 : Int32)), .val (.ref b), .val (.int (9 : Int32)), .val (.int (254 : Int32)), .unset] [(.int ((((q3.toUInt64 >>> ((8 : Int32) &&& 0x3f).toInt64.toUInt64).toInt64).toInt32).toInt8.toInt32)), (.int (o + (2 : Int32))), (.ref b)]))
            obtain ⟨T71, h71, X71, e71, W71, st71⟩ := kStB X70 hx hZ e70 J_b (j := (o + (2 : Int32))) (ix ho ⟨by decide, by decide⟩) (g := (mkF m 215 #[.val (.int q0), .val (.int q1), .val (.int q2), .val (.long q3), .second, .val (.int o), .val (.int fl), .val (.ref a), .val (.int u), .val (.int v9), .val (.int (1 : Int32)), .val (.ref b), .val (.int (9 : Int32)), .val (.int (254 : Int32)), .unset] [(.int ((((q3.toUInt64 >>> ((8 : Int32) &&& 0x3f).toInt64.toUInt64).toInt64).toInt32).toInt8.toInt32)), (.int (o + (2 : Int32))), (.ref b)])) rfl rfl (hb hby at_215)
            replace N0 := Fr.snoc X71 N0 l_b
            replace J_a := J_a.other W71 ne_a_b
            replace J_b := J_b.set W71
            replace Z0 := Nat.le_trans Z0 (Nat.le_of_eq W71.size.symm)
            refine GoOn.step st71 ?_
            show GoOn p e below _ (T71.setTop (mkF m 216 #[.val (.int q0), .val (.int q1), .val (.int q2), .val (.long q3), .second, .val (.int o), .val (.int fl), .val (.ref a), .val (.int u), .val (.int v9), .val (.int (1 : Int32)), .val (.ref b), .val (.int (9 : Int32)), .val (.int (254 : Int32)), .unset] []))
            obtain ⟨f_b, J_b, hf_b⟩ : ∃ f, Jar Z h71 b .byte 12 f ∧ f o.toNatClampNeg = .int (((254 : Int32).toInt8.toInt32).toInt8.toInt32) := ⟨_, J_b, (if_neg (ixne ho ⟨by decide, by decide⟩)).trans hf_b⟩
            refine GoOn.step (fun t₀ k₀ => XS.iload X71.here hx rfl (hb hby at_216) rfl k₀) ?_
            show GoOn p e below _ (T71.setTop (mkF m 218 #[.val (.int q0), .val (.int q1), .val (.int q2), .val (.long q3), .second, .val (.int o), .val (.int fl), .val (.ref a), .val (.int u), .val (.int v9), .val (.int (1 : Int32)), .val (.ref b), .val (.int (9 : Int32)), .val (.int (254 : Int32)), .unset] [(.int (9 : Int32))]))
            refine GoOn.step (fun t₀ k₀ => XS.iconst X71.here hx rfl (hb hby at_218) k₀) ?_
            show GoOn p e below _ (T71.setTop (mkF m 219 #[.val (.int q0), .val (.int q1), .val (.int q2), .val (.long q3), .second, .val (.int o), .val (.int fl), .val (.ref a), .val (.int u), .val (.int v9), .val (.int (1 : Int32)), .val (.ref b), .val (.int (9 : Int32)), .val (.int (254 : Int32)), .unset] [(.int (4 : Int32)), (.int (9 : Int32))]))
            have hf72 : ¬ ((9 : Int32) < (4 : Int32)) := (by decide)
            refine GoOn.step (fun t₀ k₀ => XS.icmpNo X71.here hx rfl (hb hby at_219) rfl (flt hf72).1 k₀) ?_
            show GoOn p e below _ (T71.setTop (mkF m 222 #[.val (.int q0), .val (.int q1), .val (.int q2), .val (.long q3), .second, .val (.int o), .val (.int fl), .val (.ref a), .val (.int u), .val (.int v9), .val (.int (1 : Int32)), .val (.ref b), .val (.int (9 : Int32)), .val (.int (254 : Int32)), .unset] []))
            refine GoOn.step (fun t₀ k₀ => XS.aload X71.here hx rfl (hb hby at_222) rfl rfl k₀) ?_
            show GoOn p e below _ (T71.setTop (mkF m 224 #[.val (.int q0), .val (.int q1), .val (.int q2), .val (.long q3), .second, .val (.int o), .val (.int fl), .val (.ref a), .val (.int u), .val (.int v9), .val (.int (1 : Int32)), .val (.ref b), .val (.int (9 : Int32)), .val (.int (254 : Int32)), .unset] [(.ref b)]))
            refine GoOn.step (fun t₀ k₀ => XS.iload X71.here hx rfl (hb hby at_224) rfl k₀) ?_
            show GoOn p e below _ (T71.setTop (mkF m 226 #[.val (.int q0), .val (.int q1), .val (.int q2), .val (.long q3), .second, .val (.int o), .val (.int fl), .val (.ref a), .val (.int u), .val (.int v9), .val (.int (1 : Int32)), .val (.ref b), .val (.int (9 : Int32)), .val (.int (254 : Int32)), .unset] [(.int o), (.ref b)]))
            refine GoOn.step (fun t₀ k₀ => XS.iconst X71.here hx rfl (hb hby at_226) k₀) ?_
            show GoOn p e below _ (T71.setTop (mkF m 227 #[.val (.int q0), .val (.int q1), .val (.int q2), .val (.long q3), .second, .val (.int o), .val (.int fl), .val (.ref a), .val (.int u), .val (.int v9), .val (.int (1 : Int32)), .val (.ref b), .val (.int (9 : Int32)), .val (.int (254 : Int32)), .unset] [(.int (3 : Int32)), (.int o), (.ref b)]))
            refine GoOn.step (fun t₀ k₀ => XS.iadd X71.here hx rfl (hb hby at_227) rfl k₀) ?_
            show GoOn p e below _ (T71.setTop (mkF m 228 #[.val (.int q0), .val (.int q1), .val (.int q2), .val (.long q3), .second, .val (.int o), .val (.int fl), .val (.ref a), .val (.int u), .val (.int v9), .val (.int (1 : Int32)), .val (.ref b), .val (.int (9 : Int32)), .val (.int (254 : Int32)), .unset] [(.int (o + (3 : Int32))), (.ref b)]))
            refine GoOn.step (fun t₀ k₀ => XS.lloadN X71.here hx rfl (hb hby at_228) rfl k₀) ?_
            show GoOn p e below _ (T71.setTop (mkF m 229 #[.val (.int q0), .val (.int q1), .val (.int q2), .val (.long q3), .second, .val (.int o), .val (.int fl), .val (.ref a), .val (.int u), .val (.int v9), .val (.int (1 : Int32)), .val (.ref b), .val (.int (9 : Int32)), .val (.int (254 : Int32)), .unset] [(.long q3), (.int (o + (3 : Int32))), (.ref b)]))
            refine GoOn.step (fun t₀ k₀ => XS.bipush X71.here hx rfl (hb hby at_229) k₀) ?_
            show GoOn p e below _ (T71.setTop (mkF m 231 #[.val (.int q0), .val (.int q1), .val (.int q2), .val (.long q3), .second, .val (.int o), .val (.int fl), .val (.ref a), .val (.int u), .val (.int v9), .val (.int (1 : Int32)), .val (.ref b), .val (.int (9 : Int32)), .val (.int (254 : Int32)), .unset] [(.int (16 : Int32)), (.long q3), (.int (o + (3 : Int32))), (.ref b)]))
            refine GoOn.step (fun t₀ k₀ => XS.lushr X71.here hx rfl (hb hby at_231) rfl k₀) ?_
            show GoOn p e below _ (T71.setTop (mkF m 232 #[.val (.int q0), .val (.int q1), .val (.int q2), .val (.long q3), .second, .val (.int o), .val (.int fl), .val (.ref a), .val (.int u), .val (.int v9), .val (.int (1 : Int32)), .val (.ref b), .val (.int (9 : Int32)), .val (.int (254 : Int32)), .unset] [(.long ((q3.toUInt64 >>> ((16 : Int32) &&& 0x3f).toInt64.toUInt64).toInt64)), (.int (o + (3 : Int32))), (.ref b)]))
            refine GoOn.step (fun t₀ k₀ => XS.l2i X71.here hx rfl (hb hby at_232) rfl k₀) ?_
            show GoOn p e below _ (T71.setTop (mkF m 233 #[.val (.int q0), .val (.int q1), .val (.int q2), .val (.long q3), .second, .val (.int o), .val (.int fl), .val (.ref a), .val (.int u), .val (.int v9), .val (.int (1 : Int32)), .val (.ref b), .val (.int (9 : Int32)), .val (.int (254 : Int32)), .unset] [(.int (((q3.toUInt64 >>> ((16 : Int32) &&& 0x3f).toInt64.toUInt64).toInt64).toInt32)), (.int (o + (3 : Int32))), (.ref b)]))
            refine GoOn.step (fun t₀ k₀ => XS.i2b X71.here hx rfl (hb hby at_233) rfl k₀) ?_
            show GoOn p e below _ (T71.setTop (mkF m 234 #[.val (.int q0), .val (.int q1), .val (.int q2), .val (.long q3), .second, .val (.int o), .val (.int fl), .val (.ref a), .val (.int u), .val (.int v9), .val (.int (1 : Int32)), .val (.ref b), .val (.int (9 : Int32)), .val (.int (254 : Int32)), .unset] [(.int ((((q3.toUInt64 >>> ((16 : Int32) &&& 0x3f).toInt64.toUInt64).toInt64).toInt32).toInt8.toInt32)), (.int (o + (3 : Int32))), (.ref b)]))
            obtain ⟨T73, h73, X73, e73, W73, st73⟩ := kStB X71 hx hZ e71 J_b (j := (o + (3 : Int32))) (ix ho ⟨by decide, by decide⟩) (g := (mkF m 234 #[.val (.int q0), .val (.int q1), .val (.int q2), .val (.long q3), .second, .val (.int o), .val (.int fl), .val (.ref a), .val (.int u), .val (.int v9), .val (.int (1 : Int32)), .val (.ref b), .val (.int (9 : Int32)), .val (.int (254 : Int32)), .unset] [(.int ((((q3.toUInt64 >>> ((16 : Int32) &&& 0x3f).toInt64.toUInt64).toInt64).toInt32).toInt8.toInt32)), (.int (o + (3 : Int32))), (.ref b)])) rfl rfl (hb hby at_234)
            replace N0 := Fr.snoc X73 N0 l_b
            replace J_a := J_a.other W73 ne_a_b
            replace J_b := J_b.set W73
            replace Z0 := Nat.le_trans Z0 (Nat.le_of_eq W73.size.symm)
            refine GoOn.step st73 ?_
            show GoOn p e below _ (T73.setTop (mkF m 235 #[.val (.int q0), .val (.int q1), .val (.int q2), .val (.long q3), .second, .val (.int o), .val (.int fl), .val (.ref a), .val (.int u), .val (.int v9), .val (.int (1 : Int32)), .val (.ref b), .val (.int (9 : Int32)), .val (.int (254 : Int32)), .unset] []))
            obtain ⟨f_b, J_b, hf_b⟩ : ∃ f, Jar Z h73 b .byte 12 f ∧ f o.toNatClampNeg = .int (((254 : Int32).toInt8.toInt32).toInt8.toInt32) := ⟨_, J_b, (if_neg (ixne ho ⟨by decide, by decide⟩)).trans hf_b⟩
            refine GoOn.step (fun t₀ k₀ => XS.iload X73.here hx rfl (hb hby at_235) rfl k₀) ?_
            show GoOn p e below _ (T73.setTop (mkF m 237 #[.val (.int q0), .val (.int q1), .val (.int q2), .val (.long q3), .second, .val (.int o), .val (.int fl), .val (.ref a), .val (.int u), .val (.int v9), .val (.int (1 : Int32)), .val (.ref b), .val (.int (9 : Int32)), .val (.int (254 : Int32)), .unset] [(.int (9 : Int32))]))
            refine GoOn.step (fun t₀ k₀ => XS.bipush X73.here hx rfl (hb hby at_237) k₀) ?_
            show GoOn p e below _ (T73.setTop (mkF m 239 #[.val (.int q0), .val (.int q1), .val (.int q2), .val (.long q3), .second, .val (.int o), .val (.int fl), .val (.ref a), .val (.int u), .val (.int v9), .val (.int (1 : Int32)), .val (.ref b), .val (.int (9 : Int32)), .val (.int (254 : Int32)), .unset] [(.int (9 : Int32)), (.int (9 : Int32))]))
            have hf74 : (9 : Int32) = (9 : Int32) := (by decide)
            refine GoOn.step (fun t₀ k₀ => XS.icmpNo X73.here hx rfl (hb hby at_239) rfl (teq hf74).2 k₀) ?_
            show GoOn p e below _ (T73.setTop (mkF m 242 #[.val (.int q0), .val (.int q1), .val (.int q2), .val (.long q3), .second, .val (.int o), .val (.int fl), .val (.ref a), .val (.int u), .val (.int v9), .val (.int (1 : Int32)), .val (.ref b), .val (.int (9 : Int32)), .val (.int (254 : Int32)), .unset] []))
            refine GoOn.step (fun t₀ k₀ => XS.aload X73.here hx rfl (hb hby at_242) rfl rfl k₀) ?_
            show GoOn p e below _ (T73.setTop (mkF m 244 #[.val (.int q0), .val (.int q1), .val (.int q2), .val (.long q3), .second, .val (.int o), .val (.int fl), .val (.ref a), .val (.int u), .val (.int v9), .val (.int (1 : Int32)), .val (.ref b), .val (.int (9 : Int32)), .val (.int (254 : Int32)), .unset] [(.ref b)]))
            refine GoOn.step (fun t₀ k₀ => XS.iload X73.here hx rfl (hb hby at_244) rfl k₀) ?_
            show GoOn p e below _ (T73.setTop (mkF m 246 #[.val (.int q0), .val (.int q1), .val (.int q2), .val (.long q3), .second, .val (.int o), .val (.int fl), .val (.ref a), .val (.int u), .val (.int v9), .val (.int (1 : Int32)), .val (.ref b), .val (.int (9 : Int32)), .val (.int (254 : Int32)), .unset] [(.int o), (.ref b)]))
            refine GoOn.step (fun t₀ k₀ => XS.iconst X73.here hx rfl (hb hby at_246) k₀) ?_
            show GoOn p e below _ (T73.setTop (mkF m 247 #[.val (.int q0), .val (.int q1), .val (.int q2), .val (.long q3), .second, .val (.int o), .val (.int fl), .val (.ref a), .val (.int u), .val (.int v9), .val (.int (1 : Int32)), .val (.ref b), .val (.int (9 : Int32)), .val (.int (254 : Int32)), .unset] [(.int (4 : Int32)), (.int o), (.ref b)]))
            refine GoOn.step (fun t₀ k₀ => XS.iadd X73.here hx rfl (hb hby at_247) rfl k₀) ?_
            show GoOn p e below _ (T73.setTop (mkF m 248 #[.val (.int q0), .val (.int q1), .val (.int q2), .val (.long q3), .second, .val (.int o), .val (.int fl), .val (.ref a), .val (.int u), .val (.int v9), .val (.int (1 : Int32)), .val (.ref b), .val (.int (9 : Int32)), .val (.int (254 : Int32)), .unset] [(.int (o + (4 : Int32))), (.ref b)]))
            refine GoOn.step (fun t₀ k₀ => XS.lloadN X73.here hx rfl (hb hby at_248) rfl k₀) ?_
            show GoOn p e below _ (T73.setTop (mkF m 249 #[.val (.int q0), .val (.int q1), .val (.int q2), .val (.long q3), .second, .val (.int o), .val (.int fl), .val (.ref a), .val (.int u), .val (.int v9), .val (.int (1 : Int32)), .val (.ref b), .val (.int (9 : Int32)), .val (.int (254 : Int32)), .unset] [(.long q3), (.int (o + (4 : Int32))), (.ref b)]))
            refine GoOn.step (fun t₀ k₀ => XS.bipush X73.here hx rfl (hb hby at_249) k₀) ?_
            show GoOn p e below _ (T73.setTop (mkF m 251 #[.val (.int q0), .val (.int q1), .val (.int q2), .val (.long q3), .second, .val (.int o), .val (.int fl), .val (.ref a), .val (.int u), .val (.int v9), .val (.int (1 : Int32)), .val (.ref b), .val (.int (9 : Int32)), .val (.int (254 : Int32)), .unset] [(.int (24 : Int32)), (.long q3), (.int (o + (4 : Int32))), (.ref b)]))
            refine GoOn.step (fun t₀ k₀ => XS.lushr X73.here hx rfl (hb hby at_251) rfl k₀) ?_
            show GoOn p e below _ (T73.setTop (mkF m 252 #[.val (.int q0), .val (.int q1), .val (.int q2), .val (.long q3), .second, .val (.int o), .val (.int fl), .val (.ref a), .val (.int u), .val (.int v9), .val (.int (1 : Int32)), .val (.ref b), .val (.int (9 : Int32)), .val (.int (254 : Int32)), .unset] [(.long ((q3.toUInt64 >>> ((24 : Int32) &&& 0x3f).toInt64.toUInt64).toInt64)), (.int (o + (4 : Int32))), (.ref b)]))
            refine GoOn.step (fun t₀ k₀ => XS.l2i X73.here hx rfl (hb hby at_252) rfl k₀) ?_
            show GoOn p e below _ (T73.setTop (mkF m 253 #[.val (.int q0), .val (.int q1), .val (.int q2), .val (.long q3), .second, .val (.int o), .val (.int fl), .val (.ref a), .val (.int u), .val (.int v9), .val (.int (1 : Int32)), .val (.ref b), .val (.int (9 : Int32)), .val (.int (254 : Int32)), .unset] [(.int (((q3.toUInt64 >>> ((24 : Int32) &&& 0x3f).toInt64.toUInt64).toInt64).toInt32)), (.int (o + (4 : Int32))), (.ref b)]))
            refine GoOn.step (fun t₀ k₀ => XS.i2b X73.here hx rfl (hb hby at_253) rfl k₀) ?_
            show GoOn p e below _ (T73.setTop (mkF m 254 #[.val (.int q0), .val (.int q1), .val (.int q2), .val (.long q3), .second, .val (.int o), .val (.int fl), .val (.ref a), .val (.int u), .val (.int v9), .val (.int (1 : Int32)), .val (.ref b), .val (.int (9 : Int32)), .val (.int (254 : Int32)), .unset] [(.int ((((q3.toUInt64 >>> ((24 : Int32) &&& 0x3f).toInt64.toUInt64).toInt64).toInt32).toInt8.toInt32)), (.int (o + (4 : Int32))), (.ref b)]))
            obtain ⟨T75, h75, X75, e75, W75, st75⟩ := kStB X73 hx hZ e73 J_b (j := (o + (4 : Int32))) (ix ho ⟨by decide, by decide⟩) (g := (mkF m 254 #[.val (.int q0), .val (.int q1), .val (.int q2), .val (.long q3), .second, .val (.int o), .val (.int fl), .val (.ref a), .val (.int u), .val (.int v9), .val (.int (1 : Int32)), .val (.ref b), .val (.int (9 : Int32)), .val (.int (254 : Int32)), .unset] [(.int ((((q3.toUInt64 >>> ((24 : Int32) &&& 0x3f).toInt64.toUInt64).toInt64).toInt32).toInt8.toInt32)), (.int (o + (4 : Int32))), (.ref b)])) rfl rfl (hb hby at_254)
            replace N0 := Fr.snoc X75 N0 l_b
            replace J_a := J_a.other W75 ne_a_b
            replace J_b := J_b.set W75
            replace Z0 := Nat.le_trans Z0 (Nat.le_of_eq W75.size.symm)
            refine GoOn.step st75 ?_
            show GoOn p e below _ (T75.setTop (mkF m 255 #[.val (.int q0), .val (.int q1), .val (.int q2), .val (.long q3), .second, .val (.int o), .val (.int fl), .val (.ref a), .val (.int u), .val (.int v9), .val (.int (1 : Int32)), .val (.ref b), .val (.int (9 : Int32)), .val (.int (254 : Int32)), .unset] []))
            obtain ⟨f_b, J_b, hf_b⟩ : ∃ f, Jar Z h75 b .byte 12 f ∧ f o.toNatClampNeg = .int (((254 : Int32).toInt8.toInt32).toInt8.toInt32) := ⟨_, J_b, (if_neg (ixne ho ⟨by decide, by decide⟩)).trans hf_b⟩
            refine GoOn.step (fun t₀ k₀ => XS.aload X75.here hx rfl (hb hby at_255) rfl rfl k₀) ?_
            show GoOn p e below _ (T75.setTop (mkF m 257 #[.val (.int q0), .val (.int q1), .val (.int q2), .val (.long q3), .second, .val (.int o), .val (.int fl), .val (.ref a), .val (.int u), .val (.int v9), .val (.int (1 : Int32)), .val (.ref b), .val (.int (9 : Int32)), .val (.int (254 : Int32)), .unset] [(.ref b)]))
            refine GoOn.step (fun t₀ k₀ => XS.iload X75.here hx rfl (hb hby at_257) rfl k₀) ?_
            show GoOn p e below _ (T75.setTop (mkF m 259 #[.val (.int q0), .val (.int q1), .val (.int q2), .val (.long q3), .second, .val (.int o), .val (.int fl), .val (.ref a), .val (.int u), .val (.int v9), .val (.int (1 : Int32)), .val (.ref b), .val (.int (9 : Int32)), .val (.int (254 : Int32)), .unset] [(.int o), (.ref b)]))
            refine GoOn.step (fun t₀ k₀ => XS.iconst X75.here hx rfl (hb hby at_259) k₀) ?_
            show GoOn p e below _ (T75.setTop (mkF m 260 #[.val (.int q0), .val (.int q1), .val (.int q2), .val (.long q3), .second, .val (.int o), .val (.int fl), .val (.ref a), .val (.int u), .val (.int v9), .val (.int (1 : Int32)), .val (.ref b), .val (.int (9 : Int32)), .val (.int (254 : Int32)), .unset] [(.int (5 : Int32)), (.int o), (.ref b)]))
            refine GoOn.step (fun t₀ k₀ => XS.iadd X75.here hx rfl (hb hby at_260) rfl k₀) ?_
            show GoOn p e below _ (T75.setTop (mkF m 261 #[.val (.int q0), .val (.int q1), .val (.int q2), .val (.long q3), .second, .val (.int o), .val (.int fl), .val (.ref a), .val (.int u), .val (.int v9), .val (.int (1 : Int32)), .val (.ref b), .val (.int (9 : Int32)), .val (.int (254 : Int32)), .unset] [(.int (o + (5 : Int32))), (.ref b)]))
            refine GoOn.step (fun t₀ k₀ => XS.lloadN X75.here hx rfl (hb hby at_261) rfl k₀) ?_
            show GoOn p e below _ (T75.setTop (mkF m 262 #[.val (.int q0), .val (.int q1), .val (.int q2), .val (.long q3), .second, .val (.int o), .val (.int fl), .val (.ref a), .val (.int u), .val (.int v9), .val (.int (1 : Int32)), .val (.ref b), .val (.int (9 : Int32)), .val (.int (254 : Int32)), .unset] [(.long q3), (.int (o + (5 : Int32))), (.ref b)]))
            refine GoOn.step (fun t₀ k₀ => XS.bipush X75.here hx rfl (hb hby at_262) k₀) ?_
            show GoOn p e below _ (T75.setTop (mkF m 264 #[.val (.int q0), .val (.int q1), .val (.int q2), .val (.long q3), .second, .val (.int o), .val (.int fl), .val (.ref a), .val (.int u), .val (.int v9), .val (.int (1 : Int32)), .val (.ref b), .val (.int (9 : Int32)), .val (.int (254 : Int32)), .unset] [(.int (32 : Int32)), (.long q3), (.int (o + (5 : Int32))), (.ref b)]))
            refine GoOn.step (fun t₀ k₀ => XS.lushr X75.here hx rfl (hb hby at_264) rfl k₀) ?_
            show GoOn p e below _ (T75.setTop (mkF m 265 #[.val (.int q0), .val (.int q1), .val (.int q2), .val (.long q3), .second, .val (.int o), .val (.int fl), .val (.ref a), .val (.int u), .val (.int v9), .val (.int (1 : Int32)), .val (.ref b), .val (.int (9 : Int32)), .val (.int (254 : Int32)), .unset] [(.long ((q3.toUInt64 >>> ((32 : Int32) &&& 0x3f).toInt64.toUInt64).toInt64)), (.int (o + (5 : Int32))), (.ref b)]))
            refine GoOn.step (fun t₀ k₀ => XS.l2i X75.here hx rfl (hb hby at_265) rfl k₀) ?_
            show GoOn p e below _ (T75.setTop (mkF m 266 #[.val (.int q0), .val (.int q1), .val (.int q2), .val (.long q3), .second, .val (.int o), .val (.int fl), .val (.ref a), .val (.int u), .val (.int v9), .val (.int (1 : Int32)), .val (.ref b), .val (.int (9 : Int32)), .val (.int (254 : Int32)), .unset] [(.int (((q3.toUInt64 >>> ((32 : Int32) &&& 0x3f).toInt64.toUInt64).toInt64).toInt32)), (.int (o + (5 : Int32))), (.ref b)]))
            refine GoOn.step (fun t₀ k₀ => XS.i2b X75.here hx rfl (hb hby at_266) rfl k₀) ?_
            show GoOn p e below _ (T75.setTop (mkF m 267 #[.val (.int q0), .val (.int q1), .val (.int q2), .val (.long q3), .second, .val (.int o), .val (.int fl), .val (.ref a), .val (.int u), .val (.int v9), .val (.int (1 : Int32)), .val (.ref b), .val (.int (9 : Int32)), .val (.int (254 : Int32)), .unset] [(.int ((((q3.toUInt64 >>> ((32 : Int32) &&& 0x3f).toInt64.toUInt64).toInt64).toInt32).toInt8.toInt32)), (.int (o + (5 : Int32))), (.ref b)]))
            obtain ⟨T76, h76, X76, e76, W76, st76⟩ := kStB X75 hx hZ e75 J_b (j := (o + (5 : Int32))) (ix ho ⟨by decide, by decide⟩) (g := (mkF m 267 #[.val (.int q0), .val (.int q1), .val (.int q2), .val (.long q3), .second, .val (.int o), .val (.int fl), .val (.ref a), .val (.int u), .val (.int v9), .val (.int (1 : Int32)), .val (.ref b), .val (.int (9 : Int32)), .val (.int (254 : Int32)), .unset] [(.int ((((q3.toUInt64 >>> ((32 : Int32) &&& 0x3f).toInt64.toUInt64).toInt64).toInt32).toInt8.toInt32)), (.int (o + (5 : Int32))), (.ref b)])) rfl rfl (hb hby at_267)
            replace N0 := Fr.snoc X76 N0 l_b
            replace J_a := J_a.other W76 ne_a_b
            replace J_b := J_b.set W76
            replace Z0 := Nat.le_trans Z0 (Nat.le_of_eq W76.size.symm)
            refine GoOn.step st76 ?_
            show GoOn p e below _ (T76.setTop (mkF m 268 #[.val (.int q0), .val (.int q1), .val (.int q2), .val (.long q3), .second, .val (.int o), .val (.int fl), .val (.ref a), .val (.int u), .val (.int v9), .val (.int (1 : Int32)), .val (.ref b), .val (.int (9 : Int32)), .val (.int (254 : Int32)), .unset] []))
            obtain ⟨f_b, J_b, hf_b⟩ : ∃ f, Jar Z h76 b .byte 12 f ∧ f o.toNatClampNeg = .int (((254 : Int32).toInt8.toInt32).toInt8.toInt32) := ⟨_, J_b, (if_neg (ixne ho ⟨by decide, by decide⟩)).trans hf_b⟩
            refine GoOn.step (fun t₀ k₀ => XS.aload X76.here hx rfl (hb hby at_268) rfl rfl k₀) ?_
            show GoOn p e below _ (T76.setTop (mkF m 270 #[.val (.int q0), .val (.int q1), .val (.int q2), .val (.long q3), .second, .val (.int o), .val (.int fl), .val (.ref a), .val (.int u), .val (.int v9), .val (.int (1 : Int32)), .val (.ref b), .val (.int (9 : Int32)), .val (.int (254 : Int32)), .unset] [(.ref b)]))
            refine GoOn.step (fun t₀ k₀ => XS.iload X76.here hx rfl (hb hby at_270) rfl k₀) ?_
            show GoOn p e below _ (T76.setTop (mkF m 272 #[.val (.int q0), .val (.int q1), .val (.int q2), .val (.long q3), .second, .val (.int o), .val (.int fl), .val (.ref a), .val (.int u), .val (.int v9), .val (.int (1 : Int32)), .val (.ref b), .val (.int (9 : Int32)), .val (.int (254 : Int32)), .unset] [(.int o), (.ref b)]))
            refine GoOn.step (fun t₀ k₀ => XS.bipush X76.here hx rfl (hb hby at_272) k₀) ?_
            show GoOn p e below _ (T76.setTop (mkF m 274 #[.val (.int q0), .val (.int q1), .val (.int q2), .val (.long q3), .second, .val (.int o), .val (.int fl), .val (.ref a), .val (.int u), .val (.int v9), .val (.int (1 : Int32)), .val (.ref b), .val (.int (9 : Int32)), .val (.int (254 : Int32)), .unset] [(.int (6 : Int32)), (.int o), (.ref b)]))
            refine GoOn.step (fun t₀ k₀ => XS.iadd X76.here hx rfl (hb hby at_274) rfl k₀) ?_
            show GoOn p e below _ (T76.setTop (mkF m 275 #[.val (.int q0), .val (.int q1), .val (.int q2), .val (.long q3), .second, .val (.int o), .val (.int fl), .val (.ref a), .val (.int u), .val (.int v9), .val (.int (1 : Int32)), .val (.ref b), .val (.int (9 : Int32)), .val (.int (254 : Int32)), .unset] [(.int (o + (6 : Int32))), (.ref b)]))
            refine GoOn.step (fun t₀ k₀ => XS.lloadN X76.here hx rfl (hb hby at_275) rfl k₀) ?_
            show GoOn p e below _ (T76.setTop (mkF m 276 #[.val (.int q0), .val (.int q1), .val (.int q2), .val (.long q3), .second, .val (.int o), .val (.int fl), .val (.ref a), .val (.int u), .val (.int v9), .val (.int (1 : Int32)), .val (.ref b), .val (.int (9 : Int32)), .val (.int (254 : Int32)), .unset] [(.long q3), (.int (o + (6 : Int32))), (.ref b)]))
            refine GoOn.step (fun t₀ k₀ => XS.bipush X76.here hx rfl (hb hby at_276) k₀) ?_
            show GoOn p e below _ (T76.setTop (mkF m 278 #[.val (.int q0), .val (.int q1), .val (.int q2), .val (.long q3), .second, .val (.int o), .val (.int fl), .val (.ref a), .val (.int u), .val (.int v9), .val (.int (1 : Int32)), .val (.ref b), .val (.int (9 : Int32)), .val (.int (254 : Int32)), .unset] [(.int (40 : Int32)), (.long q3), (.int (o + (6 : Int32))), (.ref b)]))
            refine GoOn.step (fun t₀ k₀ => XS.lushr X76.here hx rfl (hb hby at_278) rfl k₀) ?_
            show GoOn p e below _ (T76.setTop (mkF m 279 #[.val (.int q0), .val (.int q1), .val (.int q2), .val (.long q3), .second, .val (.int o), .val (.int fl), .val (.ref a), .val (.int u), .val (.int v9), .val (.int (1 : Int32)), .val (.ref b), .val (.int (9 : Int32)), .val (.int (254 : Int32)), .unset] [(.long ((q3.toUInt64 >>> ((40 : Int32) &&& 0x3f).toInt64.toUInt64).toInt64)), (.int (o + (6 : Int32))), (.ref b)]))
            refine GoOn.step (fun t₀ k₀ => XS.l2i X76.here hx rfl (hb hby at_279) rfl k₀) ?_
            show GoOn p e below _ (T76.setTop (mkF m 280 #[.val (.int q0), .val (.int q1), .val (.int q2), .val (.long q3), .second, .val (.int o), .val (.int fl), .val (.ref a), .val (.int u), .val (.int v9), .val (.int (1 : Int32)), .val (.ref b), .val (.int (9 : Int32)), .val (.int (254 : Int32)), .unset] [(.int (((q3.toUInt64 >>> ((40 : Int32) &&& 0x3f).toInt64.toUInt64).toInt64).toInt32)), (.int (o + (6 : Int32))), (.ref b)]))
            refine GoOn.step (fun t₀ k₀ => XS.i2b X76.here hx rfl (hb hby at_280) rfl k₀) ?_
            show GoOn p e below _ (T76.setTop (mkF m 281 #[.val (.int q0), .val (.int q1), .val (.int q2), .val (.long q3), .second, .val (.int o), .val (.int fl), .val (.ref a), .val (.int u), .val (.int v9), .val (.int (1 : Int32)), .val (.ref b), .val (.int (9 : Int32)), .val (.int (254 : Int32)), .unset] [(.int ((((q3.toUInt64 >>> ((40 : Int32) &&& 0x3f).toInt64.toUInt64).toInt64).toInt32).toInt8.toInt32)), (.int (o + (6 : Int32))), (.ref b)]))
            obtain ⟨T77, h77, X77, e77, W77, st77⟩ := kStB X76 hx hZ e76 J_b (j := (o + (6 : Int32))) (ix ho ⟨by decide, by decide⟩) (g := (mkF m 281 #[.val (.int q0), .val (.int q1), .val (.int q2), .val (.long q3), .second, .val (.int o), .val (.int fl), .val (.ref a), .val (.int u), .val (.int v9), .val (.int (1 : Int32)), .val (.ref b), .val (.int (9 : Int32)), .val (.int (254 : Int32)), .unset] [(.int ((((q3.toUInt64 >>> ((40 : Int32) &&& 0x3f).toInt64.toUInt64).toInt64).toInt32).toInt8.toInt32)), (.int (o + (6 : Int32))), (.ref b)])) rfl rfl (hb hby at_281)
            replace N0 := Fr.snoc X77 N0 l_b
            replace J_a := J_a.other W77 ne_a_b
            replace J_b := J_b.set W77
            replace Z0 := Nat.le_trans Z0 (Nat.le_of_eq W77.size.symm)
            refine GoOn.step st77 ?_
            show GoOn p e below _ (T77.setTop (mkF m 282 #[.val (.int q0), .val (.int q1), .val (.int q2), .val (.long q3), .second, .val (.int o), .val (.int fl), .val (.ref a), .val (.int u), .val (.int v9), .val (.int (1 : Int32)), .val (.ref b), .val (.int (9 : Int32)), .val (.int (254 : Int32)), .unset] []))
            obtain ⟨f_b, J_b, hf_b⟩ : ∃ f, Jar Z h77 b .byte 12 f ∧ f o.toNatClampNeg = .int (((254 : Int32).toInt8.toInt32).toInt8.toInt32) := ⟨_, J_b, (if_neg (ixne ho ⟨by decide, by decide⟩)).trans hf_b⟩
            refine GoOn.step (fun t₀ k₀ => XS.aload X77.here hx rfl (hb hby at_282) rfl rfl k₀) ?_
            show GoOn p e below _ (T77.setTop (mkF m 284 #[.val (.int q0), .val (.int q1), .val (.int q2), .val (.long q3), .second, .val (.int o), .val (.int fl), .val (.ref a), .val (.int u), .val (.int v9), .val (.int (1 : Int32)), .val (.ref b), .val (.int (9 : Int32)), .val (.int (254 : Int32)), .unset] [(.ref b)]))
            refine GoOn.step (fun t₀ k₀ => XS.iload X77.here hx rfl (hb hby at_284) rfl k₀) ?_
            show GoOn p e below _ (T77.setTop (mkF m 286 #[.val (.int q0), .val (.int q1), .val (.int q2), .val (.long q3), .second, .val (.int o), .val (.int fl), .val (.ref a), .val (.int u), .val (.int v9), .val (.int (1 : Int32)), .val (.ref b), .val (.int (9 : Int32)), .val (.int (254 : Int32)), .unset] [(.int o), (.ref b)]))
            refine GoOn.step (fun t₀ k₀ => XS.bipush X77.here hx rfl (hb hby at_286) k₀) ?_
            show GoOn p e below _ (T77.setTop (mkF m 288 #[.val (.int q0), .val (.int q1), .val (.int q2), .val (.long q3), .second, .val (.int o), .val (.int fl), .val (.ref a), .val (.int u), .val (.int v9), .val (.int (1 : Int32)), .val (.ref b), .val (.int (9 : Int32)), .val (.int (254 : Int32)), .unset] [(.int (7 : Int32)), (.int o), (.ref b)]))
            refine GoOn.step (fun t₀ k₀ => XS.iadd X77.here hx rfl (hb hby at_288) rfl k₀) ?_
            show GoOn p e below _ (T77.setTop (mkF m 289 #[.val (.int q0), .val (.int q1), .val (.int q2), .val (.long q3), .second, .val (.int o), .val (.int fl), .val (.ref a), .val (.int u), .val (.int v9), .val (.int (1 : Int32)), .val (.ref b), .val (.int (9 : Int32)), .val (.int (254 : Int32)), .unset] [(.int (o + (7 : Int32))), (.ref b)]))
            refine GoOn.step (fun t₀ k₀ => XS.lloadN X77.here hx rfl (hb hby at_289) rfl k₀) ?_
            show GoOn p e below _ (T77.setTop (mkF m 290 #[.val (.int q0), .val (.int q1), .val (.int q2), .val (.long q3), .second, .val (.int o), .val (.int fl), .val (.ref a), .val (.int u), .val (.int v9), .val (.int (1 : Int32)), .val (.ref b), .val (.int (9 : Int32)), .val (.int (254 : Int32)), .unset] [(.long q3), (.int (o + (7 : Int32))), (.ref b)]))
            refine GoOn.step (fun t₀ k₀ => XS.bipush X77.here hx rfl (hb hby at_290) k₀) ?_
            show GoOn p e below _ (T77.setTop (mkF m 292 #[.val (.int q0), .val (.int q1), .val (.int q2), .val (.long q3), .second, .val (.int o), .val (.int fl), .val (.ref a), .val (.int u), .val (.int v9), .val (.int (1 : Int32)), .val (.ref b), .val (.int (9 : Int32)), .val (.int (254 : Int32)), .unset] [(.int (48 : Int32)), (.long q3), (.int (o + (7 : Int32))), (.ref b)]))
            refine GoOn.step (fun t₀ k₀ => XS.lushr X77.here hx rfl (hb hby at_292) rfl k₀) ?_
            show GoOn p e below _ (T77.setTop (mkF m 293 #[.val (.int q0), .val (.int q1), .val (.int q2), .val (.long q3), .second, .val (.int o), .val (.int fl), .val (.ref a), .val (.int u), .val (.int v9), .val (.int (1 : Int32)), .val (.ref b), .val (.int (9 : Int32)), .val (.int (254 : Int32)), .unset] [(.long ((q3.toUInt64 >>> ((48 : Int32) &&& 0x3f).toInt64.toUInt64).toInt64)), (.int (o + (7 : Int32))), (.ref b)]))
            refine GoOn.step (fun t₀ k₀ => XS.l2i X77.here hx rfl (hb hby at_293) rfl k₀) ?_
            show GoOn p e below _ (T77.setTop (mkF m 294 #[.val (.int q0), .val (.int q1), .val (.int q2), .val (.long q3), .second, .val (.int o), .val (.int fl), .val (.ref a), .val (.int u), .val (.int v9), .val (.int (1 : Int32)), .val (.ref b), .val (.int (9 : Int32)), .val (.int (254 : Int32)), .unset] [(.int (((q3.toUInt64 >>> ((48 : Int32) &&& 0x3f).toInt64.toUInt64).toInt64).toInt32)), (.int (o + (7 : Int32))), (.ref b)]))
            refine GoOn.step (fun t₀ k₀ => XS.i2b X77.here hx rfl (hb hby at_294) rfl k₀) ?_
            show GoOn p e below _ (T77.setTop (mkF m 295 #[.val (.int q0), .val (.int q1), .val (.int q2), .val (.long q3), .second, .val (.int o), .val (.int fl), .val (.ref a), .val (.int u), .val (.int v9), .val (.int (1 : Int32)), .val (.ref b), .val (.int (9 : Int32)), .val (.int (254 : Int32)), .unset] [(.int ((((q3.toUInt64 >>> ((48 : Int32) &&& 0x3f).toInt64.toUInt64).toInt64).toInt32).toInt8.toInt32)), (.int (o + (7 : Int32))), (.ref b)]))
            obtain ⟨T78, h78, X78, e78, W78, st78⟩ := kStB X77 hx hZ e77 J_b (j := (o + (7 : Int32))) (ix ho ⟨by decide, by decide⟩) (g := (mkF m 295 #[.val (.int q0), .val (.int q1), .val (.int q2), .val (.long q3), .second, .val (.int o), .val (.int fl), .val (.ref a), .val (.int u), .val (.int v9), .val (.int (1 : Int32)), .val (.ref b), .val (.int (9 : Int32)), .val (.int (254 : Int32)), .unset] [(.int ((((q3.toUInt64 >>> ((48 : Int32) &&& 0x3f).toInt64.toUInt64).toInt64).toInt32).toInt8.toInt32)), (.int (o + (7 : Int32))), (.ref b)])) rfl rfl (hb hby at_295)
            replace N0 := Fr.snoc X78 N0 l_b
            replace J_a := J_a.other W78 ne_a_b
            replace J_b := J_b.set W78
            replace Z0 := Nat.le_trans Z0 (Nat.le_of_eq W78.size.symm)
            refine GoOn.step st78 ?_
            show GoOn p e below _ (T78.setTop (mkF m 296 #[.val (.int q0), .val (.int q1), .val (.int q2), .val (.long q3), .second, .val (.int o), .val (.int fl), .val (.ref a), .val (.int u), .val (.int v9), .val (.int (1 : Int32)), .val (.ref b), .val (.int (9 : Int32)), .val (.int (254 : Int32)), .unset] []))
            obtain ⟨f_b, J_b, hf_b⟩ : ∃ f, Jar Z h78 b .byte 12 f ∧ f o.toNatClampNeg = .int (((254 : Int32).toInt8.toInt32).toInt8.toInt32) := ⟨_, J_b, (if_neg (ixne ho ⟨by decide, by decide⟩)).trans hf_b⟩
            refine GoOn.step (fun t₀ k₀ => XS.aload X78.here hx rfl (hb hby at_296) rfl rfl k₀) ?_
            show GoOn p e below _ (T78.setTop (mkF m 298 #[.val (.int q0), .val (.int q1), .val (.int q2), .val (.long q3), .second, .val (.int o), .val (.int fl), .val (.ref a), .val (.int u), .val (.int v9), .val (.int (1 : Int32)), .val (.ref b), .val (.int (9 : Int32)), .val (.int (254 : Int32)), .unset] [(.ref b)]))
            refine GoOn.step (fun t₀ k₀ => XS.iload X78.here hx rfl (hb hby at_298) rfl k₀) ?_
            show GoOn p e below _ (T78.setTop (mkF m 300 #[.val (.int q0), .val (.int q1), .val (.int q2), .val (.long q3), .second, .val (.int o), .val (.int fl), .val (.ref a), .val (.int u), .val (.int v9), .val (.int (1 : Int32)), .val (.ref b), .val (.int (9 : Int32)), .val (.int (254 : Int32)), .unset] [(.int o), (.ref b)]))
            refine GoOn.step (fun t₀ k₀ => XS.bipush X78.here hx rfl (hb hby at_300) k₀) ?_
            show GoOn p e below _ (T78.setTop (mkF m 302 #[.val (.int q0), .val (.int q1), .val (.int q2), .val (.long q3), .second, .val (.int o), .val (.int fl), .val (.ref a), .val (.int u), .val (.int v9), .val (.int (1 : Int32)), .val (.ref b), .val (.int (9 : Int32)), .val (.int (254 : Int32)), .unset] [(.int (8 : Int32)), (.int o), (.ref b)]))
            refine GoOn.step (fun t₀ k₀ => XS.iadd X78.here hx rfl (hb hby at_302) rfl k₀) ?_
            show GoOn p e below _ (T78.setTop (mkF m 303 #[.val (.int q0), .val (.int q1), .val (.int q2), .val (.long q3), .second, .val (.int o), .val (.int fl), .val (.ref a), .val (.int u), .val (.int v9), .val (.int (1 : Int32)), .val (.ref b), .val (.int (9 : Int32)), .val (.int (254 : Int32)), .unset] [(.int (o + (8 : Int32))), (.ref b)]))
            refine GoOn.step (fun t₀ k₀ => XS.lloadN X78.here hx rfl (hb hby at_303) rfl k₀) ?_
            show GoOn p e below _ (T78.setTop (mkF m 304 #[.val (.int q0), .val (.int q1), .val (.int q2), .val (.long q3), .second, .val (.int o), .val (.int fl), .val (.ref a), .val (.int u), .val (.int v9), .val (.int (1 : Int32)), .val (.ref b), .val (.int (9 : Int32)), .val (.int (254 : Int32)), .unset] [(.long q3), (.int (o + (8 : Int32))), (.ref b)]))
            refine GoOn.step (fun t₀ k₀ => XS.bipush X78.here hx rfl (hb hby at_304) k₀) ?_
            show GoOn p e below _ (T78.setTop (mkF m 306 #[.val (.int q0), .val (.int q1), .val (.int q2), .val (.long q3), .second, .val (.int o), .val (.int fl), .val (.ref a), .val (.int u), .val (.int v9), .val (.int (1 : Int32)), .val (.ref b), .val (.int (9 : Int32)), .val (.int (254 : Int32)), .unset] [(.int (56 : Int32)), (.long q3), (.int (o + (8 : Int32))), (.ref b)]))
            refine GoOn.step (fun t₀ k₀ => XS.lushr X78.here hx rfl (hb hby at_306) rfl k₀) ?_
            show GoOn p e below _ (T78.setTop (mkF m 307 #[.val (.int q0), .val (.int q1), .val (.int q2), .val (.long q3), .second, .val (.int o), .val (.int fl), .val (.ref a), .val (.int u), .val (.int v9), .val (.int (1 : Int32)), .val (.ref b), .val (.int (9 : Int32)), .val (.int (254 : Int32)), .unset] [(.long ((q3.toUInt64 >>> ((56 : Int32) &&& 0x3f).toInt64.toUInt64).toInt64)), (.int (o + (8 : Int32))), (.ref b)]))
            refine GoOn.step (fun t₀ k₀ => XS.l2i X78.here hx rfl (hb hby at_307) rfl k₀) ?_
            show GoOn p e below _ (T78.setTop (mkF m 308 #[.val (.int q0), .val (.int q1), .val (.int q2), .val (.long q3), .second, .val (.int o), .val (.int fl), .val (.ref a), .val (.int u), .val (.int v9), .val (.int (1 : Int32)), .val (.ref b), .val (.int (9 : Int32)), .val (.int (254 : Int32)), .unset] [(.int (((q3.toUInt64 >>> ((56 : Int32) &&& 0x3f).toInt64.toUInt64).toInt64).toInt32)), (.int (o + (8 : Int32))), (.ref b)]))
            refine GoOn.step (fun t₀ k₀ => XS.i2b X78.here hx rfl (hb hby at_308) rfl k₀) ?_
            show GoOn p e below _ (T78.setTop (mkF m 309 #[.val (.int q0), .val (.int q1), .val (.int q2), .val (.long q3), .second, .val (.int o), .val (.int fl), .val (.ref a), .val (.int u), .val (.int v9), .val (.int (1 : Int32)), .val (.ref b), .val (.int (9 : Int32)), .val (.int (254 : Int32)), .unset] [(.int ((((q3.toUInt64 >>> ((56 : Int32) &&& 0x3f).toInt64.toUInt64).toInt64).toInt32).toInt8.toInt32)), (.int (o + (8 : Int32))), (.ref b)]))
            obtain ⟨T79, h79, X79, e79, W79, st79⟩ := kStB X78 hx hZ e78 J_b (j := (o + (8 : Int32))) (ix ho ⟨by decide, by decide⟩) (g := (mkF m 309 #[.val (.int q0), .val (.int q1), .val (.int q2), .val (.long q3), .second, .val (.int o), .val (.int fl), .val (.ref a), .val (.int u), .val (.int v9), .val (.int (1 : Int32)), .val (.ref b), .val (.int (9 : Int32)), .val (.int (254 : Int32)), .unset] [(.int ((((q3.toUInt64 >>> ((56 : Int32) &&& 0x3f).toInt64.toUInt64).toInt64).toInt32).toInt8.toInt32)), (.int (o + (8 : Int32))), (.ref b)])) rfl rfl (hb hby at_309)
            replace N0 := Fr.snoc X79 N0 l_b
            replace J_a := J_a.other W79 ne_a_b
            replace J_b := J_b.set W79
            replace Z0 := Nat.le_trans Z0 (Nat.le_of_eq W79.size.symm)
            refine GoOn.step st79 ?_
            show GoOn p e below _ (T79.setTop (mkF m 310 #[.val (.int q0), .val (.int q1), .val (.int q2), .val (.long q3), .second, .val (.int o), .val (.int fl), .val (.ref a), .val (.int u), .val (.int v9), .val (.int (1 : Int32)), .val (.ref b), .val (.int (9 : Int32)), .val (.int (254 : Int32)), .unset] []))
            obtain ⟨f_b, J_b, hf_b⟩ : ∃ f, Jar Z h79 b .byte 12 f ∧ f o.toNatClampNeg = .int (((254 : Int32).toInt8.toInt32).toInt8.toInt32) := ⟨_, J_b, (if_neg (ixne ho ⟨by decide, by decide⟩)).trans hf_b⟩
            refine GoOn.step (fun t₀ k₀ => XS.aload X79.here hx rfl (hb hby at_310) rfl rfl k₀) ?_
            show GoOn p e below _ (T79.setTop (mkF m 312 #[.val (.int q0), .val (.int q1), .val (.int q2), .val (.long q3), .second, .val (.int o), .val (.int fl), .val (.ref a), .val (.int u), .val (.int v9), .val (.int (1 : Int32)), .val (.ref b), .val (.int (9 : Int32)), .val (.int (254 : Int32)), .unset] [(.ref b)]))
            refine GoOn.step (fun t₀ k₀ => XS.iload X79.here hx rfl (hb hby at_312) rfl k₀) ?_
            show GoOn p e below _ (T79.setTop (mkF m 314 #[.val (.int q0), .val (.int q1), .val (.int q2), .val (.long q3), .second, .val (.int o), .val (.int fl), .val (.ref a), .val (.int u), .val (.int v9), .val (.int (1 : Int32)), .val (.ref b), .val (.int (9 : Int32)), .val (.int (254 : Int32)), .unset] [(.int o), (.ref b)]))
            obtain ⟨_, T80, L80, X80, hQ80, st80⟩ := kCallS X79 hx hZ (argsL := [(.ref b), (.int o)]) (rest := []) (c_les l Z a0 hw b o _ f_b _ J_b ho' hf_b) hown (hw _ (List.mem_of_getElem? (i := 5) rfl)) (hw _ (List.mem_of_getElem? (i := 6) rfl)) (hw _ (List.mem_of_getElem? (i := 7) rfl)) (hw _ (List.mem_of_getElem? (i := 8) rfl)) (by decide) e79 (g := (mkF m 314 #[.val (.int q0), .val (.int q1), .val (.int q2), .val (.long q3), .second, .val (.int o), .val (.int fl), .val (.ref a), .val (.int u), .val (.int v9), .val (.int (1 : Int32)), .val (.ref b), .val (.int (9 : Int32)), .val (.int (254 : Int32)), .unset] [(.int o), (.ref b)])) rfl (by rw [hml]; rfl) (lenOf pd_1 rfl) rfl (W := 0) (by show 2 * 0 + _ ≤ _; exact Nat.le_of_eq rfl) (hb hby at_314) (by decide) (by decide) (by decide) (by decide)
            obtain ⟨rfl, rfl, e80⟩ := hQ80
            rw [List.append_nil] at X80
            refine GoOn.step st80 ?_
            show GoOn p e below _ (T80.setTop (mkF m 317 #[.val (.int q0), .val (.int q1), .val (.int q2), .val (.long q3), .second, .val (.int o), .val (.int fl), .val (.ref a), .val (.int u), .val (.int v9), .val (.int (1 : Int32)), .val (.ref b), .val (.int (9 : Int32)), .val (.int (254 : Int32)), .unset] [(.int (lesz ((((254 : Int32).toInt8.toInt32).toInt8.toInt32) &&& (255 : Int32))))]))
            refine GoOn.step (fun t₀ k₀ => XS.iload X80.here hx rfl (hb hby at_317) rfl k₀) ?_
            show GoOn p e below _ (T80.setTop (mkF m 319 #[.val (.int q0), .val (.int q1), .val (.int q2), .val (.long q3), .second, .val (.int o), .val (.int fl), .val (.ref a), .val (.int u), .val (.int v9), .val (.int (1 : Int32)), .val (.ref b), .val (.int (9 : Int32)), .val (.int (254 : Int32)), .unset] [(.int (9 : Int32)), (.int (lesz ((((254 : Int32).toInt8.toInt32).toInt8.toInt32) &&& (255 : Int32))))]))
            have hf81 : (lesz ((((254 : Int32).toInt8.toInt32).toInt8.toInt32) &&& (255 : Int32))) = (9 : Int32) := (by rw [pl_byte]; exact (by decide))
            refine GoOn.step (fun t₀ k₀ => XS.icmpNo X80.here hx rfl (hb hby at_319) rfl (teq hf81).2 k₀) ?_
            show GoOn p e below _ (T80.setTop (mkF m 322 #[.val (.int q0), .val (.int q1), .val (.int q2), .val (.long q3), .second, .val (.int o), .val (.int fl), .val (.ref a), .val (.int u), .val (.int v9), .val (.int (1 : Int32)), .val (.ref b), .val (.int (9 : Int32)), .val (.int (254 : Int32)), .unset] []))
            refine GoOn.step (fun t₀ k₀ => XS.iconst X80.here hx rfl (hb hby at_322) k₀) ?_
            show GoOn p e below _ (T80.setTop (mkF m 323 #[.val (.int q0), .val (.int q1), .val (.int q2), .val (.long q3), .second, .val (.int o), .val (.int fl), .val (.ref a), .val (.int u), .val (.int v9), .val (.int (1 : Int32)), .val (.ref b), .val (.int (9 : Int32)), .val (.int (254 : Int32)), .unset] [(.int (1 : Int32))]))
            refine GoOn.step (fun t₀ k₀ => XS.goto X80.here hx rfl (pc0 := 323) (pc' := 327) rfl (hb hby at_323) (by decide) (by decide) k₀) ?_
            show GoOn p e below _ (T80.setTop (mkF m 327 #[.val (.int q0), .val (.int q1), .val (.int q2), .val (.long q3), .second, .val (.int o), .val (.int fl), .val (.ref a), .val (.int u), .val (.int v9), .val (.int (1 : Int32)), .val (.ref b), .val (.int (9 : Int32)), .val (.int (254 : Int32)), .unset] [(.int (1 : Int32))]))
            refine GoOn.step (fun t₀ k₀ => XS.istore X80.here hx rfl (hb hby at_327) rfl (l' := #[.val (.int q0), .val (.int q1), .val (.int q2), .val (.long q3), .second, .val (.int o), .val (.int fl), .val (.ref a), .val (.int u), .val (.int v9), .val (.int (1 : Int32)), .val (.ref b), .val (.int (9 : Int32)), .val (.int (254 : Int32)), .val (.int (1 : Int32))]) rfl k₀) ?_
            show GoOn p e below _ (T80.setTop (mkF m 329 #[.val (.int q0), .val (.int q1), .val (.int q2), .val (.long q3), .second, .val (.int o), .val (.int fl), .val (.ref a), .val (.int u), .val (.int v9), .val (.int (1 : Int32)), .val (.ref b), .val (.int (9 : Int32)), .val (.int (254 : Int32)), .val (.int (1 : Int32))] []))
            refine GoOn.step (fun t₀ k₀ => XS.iload X80.here hx rfl (hb hby at_329) rfl k₀) ?_
            show GoOn p e below _ (T80.setTop (mkF m 331 #[.val (.int q0), .val (.int q1), .val (.int q2), .val (.long q3), .second, .val (.int o), .val (.int fl), .val (.ref a), .val (.int u), .val (.int v9), .val (.int (1 : Int32)), .val (.ref b), .val (.int (9 : Int32)), .val (.int (254 : Int32)), .val (.int (1 : Int32))] [(.int (1 : Int32))]))
            have hf82 : ¬ ((1 : Int32) = (0 : Int32)) := (by decide)
            refine GoOn.step (fun t₀ k₀ => XS.ifNo X80.here hx rfl (hb hby at_331) rfl ((if0 _ _).trans (feq hf82).1) k₀) ?_
            show GoOn p e below _ (T80.setTop (mkF m 334 #[.val (.int q0), .val (.int q1), .val (.int q2), .val (.long q3), .second, .val (.int o), .val (.int fl), .val (.ref a), .val (.int u), .val (.int v9), .val (.int (1 : Int32)), .val (.ref b), .val (.int (9 : Int32)), .val (.int (254 : Int32)), .val (.int (1 : Int32))] []))
            refine GoOn.step (fun t₀ k₀ => XS.iload X80.here hx rfl (hb hby at_334) rfl k₀) ?_
            show GoOn p e below _ (T80.setTop (mkF m 336 #[.val (.int q0), .val (.int q1), .val (.int q2), .val (.long q3), .second, .val (.int o), .val (.int fl), .val (.ref a), .val (.int u), .val (.int v9), .val (.int (1 : Int32)), .val (.ref b), .val (.int (9 : Int32)), .val (.int (254 : Int32)), .val (.int (1 : Int32))] [(.int (1 : Int32))]))
            have hf83 : ¬ ((1 : Int32) = (0 : Int32)) := (by decide)
            refine GoOn.step (fun t₀ k₀ => XS.ifNo X80.here hx rfl (hb hby at_336) rfl ((if0 _ _).trans (feq hf83).1) k₀) ?_
            show GoOn p e below _ (T80.setTop (mkF m 339 #[.val (.int q0), .val (.int q1), .val (.int q2), .val (.long q3), .second, .val (.int o), .val (.int fl), .val (.ref a), .val (.int u), .val (.int v9), .val (.int (1 : Int32)), .val (.ref b), .val (.int (9 : Int32)), .val (.int (254 : Int32)), .val (.int (1 : Int32))] []))
            refine GoOn.step (fun t₀ k₀ => XS.iconst X80.here hx rfl (hb hby at_339) k₀) ?_
            show GoOn p e below _ (T80.setTop (mkF m 340 #[.val (.int q0), .val (.int q1), .val (.int q2), .val (.long q3), .second, .val (.int o), .val (.int fl), .val (.ref a), .val (.int u), .val (.int v9), .val (.int (1 : Int32)), .val (.ref b), .val (.int (9 : Int32)), .val (.int (254 : Int32)), .val (.int (1 : Int32))] [(.int (1 : Int32))]))
            refine GoOn.step (fun t₀ k₀ => XS.goto X80.here hx rfl (pc0 := 340) (pc' := 344) rfl (hb hby at_340) (by decide) (by decide) k₀) ?_
            show GoOn p e below _ (T80.setTop (mkF m 344 #[.val (.int q0), .val (.int q1), .val (.int q2), .val (.long q3), .second, .val (.int o), .val (.int fl), .val (.ref a), .val (.int u), .val (.int v9), .val (.int (1 : Int32)), .val (.ref b), .val (.int (9 : Int32)), .val (.int (254 : Int32)), .val (.int (1 : Int32))] [(.int (1 : Int32))]))
            exact GoOn.retN X80 hx hrt hlk (by simp) (hb hby at_344) (by decide) (by decide) (by first | exact ⟨rfl, N0⟩ | (rw [e80]; exact ⟨rfl, N0⟩))
  by_cases c0 : u = (252 : Int32)
  · refine GoOn.step (fun t₀ k₀ => XS.icmpNo X15.here hx rfl (hb hby at_35) rfl (teq c0).2 k₀) ?_
    show GoOn p e below _ (T15.setTop (mkF m 38 #[.val (.int q0), .val (.int q1), .val (.int q2), .val (.long q3), .second, .val (.int o), .val (.int fl), .val (.ref a), .val (.int u), .unset, .unset, .unset, .unset, .unset, .unset] []))
    refine GoOn.step (fun t₀ k₀ => XS.iconst X15.here hx rfl (hb hby at_38) k₀) ?_
    show GoOn p e below _ (T15.setTop (mkF m 39 #[.val (.int q0), .val (.int q1), .val (.int q2), .val (.long q3), .second, .val (.int o), .val (.int fl), .val (.ref a), .val (.int u), .unset, .unset, .unset, .unset, .unset, .unset] [(.int (3 : Int32))]))
    refine GoOn.step (fun t₀ k₀ => XS.goto X15.here hx rfl (pc0 := 39) (pc' := 68) rfl (hb hby at_39) (by decide) (by decide) k₀) ?_
    show GoOn p e below _ (T15.setTop (mkF m 68 #[.val (.int q0), .val (.int q1), .val (.int q2), .val (.long q3), .second, .val (.int o), .val (.int fl), .val (.ref a), .val (.int u), .unset, .unset, .unset, .unset, .unset, .unset] [(.int (3 : Int32))]))
    exact J _ (by rw [lesz, if_pos c0])
  · refine GoOn.step (fun t₀ k₀ => XS.icmpYes X15.here hx rfl (pc0 := 35) (pc' := 42) rfl (hb hby at_35) rfl (feq c0).2 (by decide) (by decide) k₀) ?_
    show GoOn p e below _ (T15.setTop (mkF m 42 #[.val (.int q0), .val (.int q1), .val (.int q2), .val (.long q3), .second, .val (.int o), .val (.int fl), .val (.ref a), .val (.int u), .unset, .unset, .unset, .unset, .unset, .unset] []))
    refine GoOn.step (fun t₀ k₀ => XS.iload X15.here hx rfl (hb hby at_42) rfl k₀) ?_
    show GoOn p e below _ (T15.setTop (mkF m 44 #[.val (.int q0), .val (.int q1), .val (.int q2), .val (.long q3), .second, .val (.int o), .val (.int fl), .val (.ref a), .val (.int u), .unset, .unset, .unset, .unset, .unset, .unset] [(.int u)]))
    refine GoOn.step (fun t₀ k₀ => XS.sipush X15.here hx rfl (hb hby at_44) k₀) ?_
    show GoOn p e below _ (T15.setTop (mkF m 47 #[.val (.int q0), .val (.int q1), .val (.int q2), .val (.long q3), .second, .val (.int o), .val (.int fl), .val (.ref a), .val (.int u), .unset, .unset, .unset, .unset, .unset, .unset] [(.int (253 : Int32)), (.int u)]))
    by_cases c1 : u = (253 : Int32)
    · refine GoOn.step (fun t₀ k₀ => XS.icmpNo X15.here hx rfl (hb hby at_47) rfl (teq c1).2 k₀) ?_
      show GoOn p e below _ (T15.setTop (mkF m 50 #[.val (.int q0), .val (.int q1), .val (.int q2), .val (.long q3), .second, .val (.int o), .val (.int fl), .val (.ref a), .val (.int u), .unset, .unset, .unset, .unset, .unset, .unset] []))
      refine GoOn.step (fun t₀ k₀ => XS.iconst X15.here hx rfl (hb hby at_50) k₀) ?_
      show GoOn p e below _ (T15.setTop (mkF m 51 #[.val (.int q0), .val (.int q1), .val (.int q2), .val (.long q3), .second, .val (.int o), .val (.int fl), .val (.ref a), .val (.int u), .unset, .unset, .unset, .unset, .unset, .unset] [(.int (4 : Int32))]))
      refine GoOn.step (fun t₀ k₀ => XS.goto X15.here hx rfl (pc0 := 51) (pc' := 68) rfl (hb hby at_51) (by decide) (by decide) k₀) ?_
      show GoOn p e below _ (T15.setTop (mkF m 68 #[.val (.int q0), .val (.int q1), .val (.int q2), .val (.long q3), .second, .val (.int o), .val (.int fl), .val (.ref a), .val (.int u), .unset, .unset, .unset, .unset, .unset, .unset] [(.int (4 : Int32))]))
      exact J _ (by rw [lesz, if_neg c0, if_pos c1])
    · refine GoOn.step (fun t₀ k₀ => XS.icmpYes X15.here hx rfl (pc0 := 47) (pc' := 54) rfl (hb hby at_47) rfl (feq c1).2 (by decide) (by decide) k₀) ?_
      show GoOn p e below _ (T15.setTop (mkF m 54 #[.val (.int q0), .val (.int q1), .val (.int q2), .val (.long q3), .second, .val (.int o), .val (.int fl), .val (.ref a), .val (.int u), .unset, .unset, .unset, .unset, .unset, .unset] []))
      refine GoOn.step (fun t₀ k₀ => XS.iload X15.here hx rfl (hb hby at_54) rfl k₀) ?_
      show GoOn p e below _ (T15.setTop (mkF m 56 #[.val (.int q0), .val (.int q1), .val (.int q2), .val (.long q3), .second, .val (.int o), .val (.int fl), .val (.ref a), .val (.int u), .unset, .unset, .unset, .unset, .unset, .unset] [(.int u)]))
      refine GoOn.step (fun t₀ k₀ => XS.sipush X15.here hx rfl (hb hby at_56) k₀) ?_
      show GoOn p e below _ (T15.setTop (mkF m 59 #[.val (.int q0), .val (.int q1), .val (.int q2), .val (.long q3), .second, .val (.int o), .val (.int fl), .val (.ref a), .val (.int u), .unset, .unset, .unset, .unset, .unset, .unset] [(.int (254 : Int32)), (.int u)]))
      by_cases c2 : u = (254 : Int32)
      · refine GoOn.step (fun t₀ k₀ => XS.icmpNo X15.here hx rfl (hb hby at_59) rfl (teq c2).2 k₀) ?_
        show GoOn p e below _ (T15.setTop (mkF m 62 #[.val (.int q0), .val (.int q1), .val (.int q2), .val (.long q3), .second, .val (.int o), .val (.int fl), .val (.ref a), .val (.int u), .unset, .unset, .unset, .unset, .unset, .unset] []))
        refine GoOn.step (fun t₀ k₀ => XS.bipush X15.here hx rfl (hb hby at_62) k₀) ?_
        show GoOn p e below _ (T15.setTop (mkF m 64 #[.val (.int q0), .val (.int q1), .val (.int q2), .val (.long q3), .second, .val (.int o), .val (.int fl), .val (.ref a), .val (.int u), .unset, .unset, .unset, .unset, .unset, .unset] [(.int (9 : Int32))]))
        refine GoOn.step (fun t₀ k₀ => XS.goto X15.here hx rfl (pc0 := 64) (pc' := 68) rfl (hb hby at_64) (by decide) (by decide) k₀) ?_
        show GoOn p e below _ (T15.setTop (mkF m 68 #[.val (.int q0), .val (.int q1), .val (.int q2), .val (.long q3), .second, .val (.int o), .val (.int fl), .val (.ref a), .val (.int u), .unset, .unset, .unset, .unset, .unset, .unset] [(.int (9 : Int32))]))
        exact J _ (by rw [lesz, if_neg c0, if_neg c1, if_pos c2])
      · refine GoOn.step (fun t₀ k₀ => XS.icmpYes X15.here hx rfl (pc0 := 59) (pc' := 67) rfl (hb hby at_59) rfl (feq c2).2 (by decide) (by decide) k₀) ?_
        show GoOn p e below _ (T15.setTop (mkF m 67 #[.val (.int q0), .val (.int q1), .val (.int q2), .val (.long q3), .second, .val (.int o), .val (.int fl), .val (.ref a), .val (.int u), .unset, .unset, .unset, .unset, .unset, .unset] []))
        refine GoOn.step (fun t₀ k₀ => XS.iconst X15.here hx rfl (hb hby at_67) k₀) ?_
        show GoOn p e below _ (T15.setTop (mkF m 68 #[.val (.int q0), .val (.int q1), .val (.int q2), .val (.long q3), .second, .val (.int o), .val (.int fl), .val (.ref a), .val (.int u), .unset, .unset, .unset, .unset, .unset, .unset] [(.int (1 : Int32))]))
        exact J _ (by rw [lesz, if_neg c0, if_neg c1, if_neg c2])
set_option maxRecDepth 65536 in
set_option maxHeartbeats 40000000 in
theorem comes_1 {Post : Tables → Env → Array Value → State → Outcome → State → Prop} (hpost : ∀ tb e args s v u, (limb_1_1.after args s (.returned v) u = true ∧ limb_1_2.after args s (.returned v) u = true ∧ True) → FrameEnd s (.returned v) u (Jvm.fieldLocs frame_1_writes args s ++ Jvm.arrayLocs frame_1_arrays args s ++ Jvm.staticLocs frame_1_statics s) 16 128 → Post tb e args s (.returned v) u) :
    ArmFor flags0 classFile x code maxLocals ret World_1 tables_1 room_1 Calls_1 rest_1 Pre_1 Post := by
  intro l hfl _ _ p e ha hc hk s m args below hf hA hF happ hP
  obtain ⟨hcalls, hrest, hpre⟩ := hP
  obtain ⟨-, -, -, hnamed, -, -, -, hat⟩ := (Spec.applies_iff hf).mp happ
  obtain ⟨hg, hn⟩ := and_e (Cond.before_iff.mp (show (Jvm.Cond.and given_1 narrow_1).before args s = true from hpre))
  obtain ⟨g0, r0⟩ := and_e hg
  obtain ⟨g1, r1⟩ := and_e r0
  obtain ⟨g2, r2⟩ := and_e r1
  obtain ⟨g3, r3⟩ := and_e r2
  obtain ⟨w0, w1, w2, w3, rfl⟩ : ∃ w0 w1 w2 w3 : Value, args = #[w0, w1, w2, w3] := by
    have hs : args.size = 4 := by simpa [Cond.value, given_1] using g0
    obtain ⟨L⟩ := args
    match L, hs with
    | [w0, w1, w2, w3], _ => exact ⟨w0, w1, w2, w3, rfl⟩
  have hw := fun d (hd : d ∈ tables_1) => atoms_spec (ws := Jvm.Cond.code x code maxLocals ret :: tables_1) hat d (List.mem_cons_of_mem _ hd)
  have hfit : Fit s := fun {y c} hc i hi => by
    obtain ⟨ha, rfl⟩ := Array.getElem?_eq_some_iff.mp hc
    have q := List.all_eq_true.mp ((Array.all_eq_true_iff_forall_mem.mp hF) _ (Array.getElem_mem ha)) i (List.mem_range.mpr hi)
    simpa [Array.getElem?_eq_getElem hi] using q
  obtain ⟨i0, ei0⟩ := is_v g1
  obtain rfl : w0 = (.int i0) := Option.some.inj ei0
  obtain ⟨i1, ei1⟩ := is_v g2
  obtain rfl : w1 = (.int i1) := Option.some.inj ei1
  obtain ⟨i2, ei2⟩ := is_v g3
  obtain rfl : w2 = (.int i2) := Option.some.inj ei2
  obtain ⟨i3, ei3⟩ := isL_v r3
  obtain rfl : w3 = (.long i3) := Option.some.inj ei3
  obtain ⟨n, o, h1, h2, h3, _, L, rfl, ⟨rfl, N⟩, hq⟩ := law_ok l s _ hw i0 i1 i2 i3 s.heap s.heap.size (Nat.le_refl _) tables_1 p e ha hc hk s m _ below hf ((Spec.applies_iff_loose hf).mp happ).1 ⟨rfl, State.Warmed39.refl s, rfl⟩ trivial
  refine ⟨n, _, h1, h2, h3, hpost _ _ _ _ _ _ ⟨Cond.after_iff.mpr rfl, Cond.after_iff.mpr (eq_i res_at (Term.int_eval (1)) rfl), trivial⟩ ⟨hq.1, hq.2.1, (hq.2.2.sift fun y hy => Or.inr (N y hy)).mono (by decide) (by decide)⟩⟩
theorem main_1_1 : Claimed_1_1 := comes_1 fun _ _ _ _ _ _ h hF => ⟨h.1, hF⟩
theorem main_1_2 : Claimed_1_2 := comes_1 fun _ _ _ _ _ _ h hF => ⟨h.2.1, hF⟩
end Jvm.Pilot.@@N@@
namespace Jvm.Pilot.@@N@@
open Jvm Jvm.ClassFile Sem Op Lib Jvm.Free Jvm.Stand Jvm.Pilot.@@N@@.Jvm.D
/-! MADE BY PROGRAM (witnessworld.py) out of the Statement's table words and the real class files: 8 classes; the members and pool entries that the words name. The judged class is class 1, her method 2. -/
namespace start1
open Jvm.ClassFile
def u (s : String) : CpInfo := .utf8 (stringToUtf16 s)
/-- a pool by its gaps: so many unusable entries, then the entry; so many at the end -/
def gap : Nat → List CpInfo → List CpInfo
  | 0, r => r
  | n + 1, r => .unusable :: gap n r
def poolList (es : List (Nat × CpInfo)) (last : Nat) : List CpInfo := es.foldr (fun e r => gap e.1 (e.2 :: r)) (gap last [])
def pool (es : List (Nat × CpInfo)) (last : Nat) : Array CpInfo := ⟨poolList es last⟩
def fileOf (pool : Array CpInfo) (this : Nat) (attrs : Array Attribute := #[]) (ms : Array MethodInfo := #[]) (fl : Nat := 33) (sup : Nat := 0) (ifs : Array Nat := #[]) (fds : Array FieldInfo := #[]) : ClassFile where
  minorVersion := 0
  majorVersion := 65
  constantPool := pool
  accessFlags := fl
  thisClass := this
  superClass := sup
  interfaces := ifs
  fields := fds
  methods := ms
  attributes := attrs
def plain (name : String) (sup : Option ClassId) : Class where
  name := name
  kind := .ordinary
  loader := none
  accessFlags := 33
  super := sup
  interfaces := #[]
  cf := none
  fields := #[]
  methods := #[]
  instanceTypes := #[]
  staticTypes := #[]
  resolved := #[]
  callSites := []
  init := .initialized
  statics := none
  mirror := none

def pool0 : Array CpInfo := pool [(5, u "<init>"), (0, u "()V"), (1, .class_ 10), (1, u "java/lang/Object")] 113

def k0m0 : Method := { name := "<init>", desc := "()V", sig := { parameters := [], returnType := none }, accessFlags := 1, code := none }
/-- java/lang/Object -/
def k0 : Class := { plain "java/lang/Object" none with
  accessFlags := 33
  interfaces := #[]
  cf := some (fileOf pool0 8 #[] #[{ accessFlags := 1, nameIndex := 5, descriptorIndex := 6, attributes := #[] }] 33 0 #[] #[])
  fields := #[]
  methods := #[k0m0]
  instanceTypes := #[]
  staticTypes := #[]
  resolved := Array.replicate 124 none
  statics := none }

def pool1 : Array CpInfo := pool [(2, .class_ 4), (1, u "java/lang/Object"), (0, u "<init>"), (0, u "()V"), (0, .methodref 8 9), (0, .class_ 10), (0, .nameAndType 11 12), (0, u "com/example/query_warden/querywarden/PacketLengthEncodedSizePinLaw"), (0, u "filled"), (0, u "(B)[B"), (0, .methodref 14 15), (0, .class_ 16), (0, .nameAndType 17 18), (0, u "com/example/query_warden/querywarden/Packet"), (0, u "lengthEncodedSize"), (0, u "([BI)I"), (0, .long 251), (1, .long 65536), (1, .long 16777216), (3, u "law"), (0, u "(IIIJ)Z")] 5

def k1m0 : Method := { name := "<init>", desc := "()V", sig := { parameters := [], returnType := none }, accessFlags := 1, code := none }
def k1c1 : Code := { maxStack := 3, maxLocals := 2, code := method_2_code, exceptionTable := #[], attributes := #[] }
def k1m1 : Method := { name := "filled", desc := "(B)[B", sig := { parameters := [.byte], returnType := some (.array .byte) }, accessFlags := 10, code := some k1c1 }
def k1c2 : Code := { maxStack := 5, maxLocals := 15, code := code, exceptionTable := #[], attributes := #[] }
def k1m2 : Method := { name := "law", desc := "(IIIJ)Z", sig := { parameters := [.int, .int, .int, .long], returnType := some .boolean }, accessFlags := 9, code := some k1c2 }
/-- com/example/query_warden/querywarden/PacketLengthEncodedSizePinLaw -/
def k1 : Class := { plain "com/example/query_warden/querywarden/PacketLengthEncodedSizePinLaw" (some 0) with
  accessFlags := 49
  interfaces := #[]
  cf := some (fileOf pool1 8 #[] #[{ accessFlags := 1, nameIndex := 5, descriptorIndex := 6, attributes := #[] }, { accessFlags := 10, nameIndex := 11, descriptorIndex := 12, attributes := #[] }, { accessFlags := 9, nameIndex := 27, descriptorIndex := 28, attributes := #[] }] 49 2 #[] #[])
  fields := #[]
  methods := #[k1m0, k1m1, k1m2]
  instanceTypes := #[]
  staticTypes := #[]
  resolved := Array.replicate 34 none
  statics := none }

def pool2 : Array CpInfo := pool [(2, .class_ 4), (1, u "java/lang/Object"), (0, u "<init>"), (0, u "()V"), (0, .class_ 8), (0, u "java/lang/Record")] 13

def k2m0 : Method := { name := "<init>", desc := "()V", sig := { parameters := [], returnType := none }, accessFlags := 4, code := none }
/-- java/lang/Record -/
def k2 : Class := { plain "java/lang/Record" (some 0) with
  accessFlags := 1057
  interfaces := #[]
  cf := some (fileOf pool2 7 #[] #[{ accessFlags := 4, nameIndex := 5, descriptorIndex := 6, attributes := #[] }] 1057 2 #[] #[])
  fields := #[]
  methods := #[k2m0]
  instanceTypes := #[]
  staticTypes := #[]
  resolved := Array.replicate 22 none
  statics := none }

def pool3 : Array CpInfo := pool [(2, .class_ 4), (1, u "java/lang/Record"), (3, .class_ 10), (1, u "com/example/query_warden/querywarden/Packet"), (0, u "sequence"), (0, u "I"), (2, u "payload"), (0, u "[B"), (35, u "lengthEncodedSize"), (0, u "([BI)I"), (16, u "MAX_PAYLOAD"), (1, u "OK"), (1, u "ERR"), (1, u "EOF")] 39

def k3c0 : Code := { maxStack := 2, maxLocals := 2, code := prog_22_method_10_code, exceptionTable := #[], attributes := #[] }
def k3m0 : Method := { name := "lengthEncodedSize", desc := "([BI)I", sig := { parameters := [(.array .byte), .int], returnType := some .int }, accessFlags := 8, code := some k3c0 }
/-- com/example/query_warden/querywarden/Packet -/
def k3 : Class := { plain "com/example/query_warden/querywarden/Packet" (some 2) with
  accessFlags := 48
  interfaces := #[]
  cf := some (fileOf pool3 8 #[] #[{ accessFlags := 8, nameIndex := 52, descriptorIndex := 53, attributes := #[] }] 48 2 #[] #[{ accessFlags := 18, nameIndex := 11, descriptorIndex := 12, attributes := #[] }, { accessFlags := 18, nameIndex := 15, descriptorIndex := 16, attributes := #[] }, { accessFlags := 24, nameIndex := 70, descriptorIndex := 12, attributes := #[] }, { accessFlags := 24, nameIndex := 72, descriptorIndex := 12, attributes := #[] }, { accessFlags := 24, nameIndex := 74, descriptorIndex := 12, attributes := #[] }, { accessFlags := 24, nameIndex := 76, descriptorIndex := 12, attributes := #[] }])
  fields := #[{ name := "sequence", type := .int, accessFlags := 18, slot := 0, constantValue := 0 }, { name := "payload", type := (.array .byte), accessFlags := 18, slot := 1, constantValue := 0 }, { name := "MAX_PAYLOAD", type := .int, accessFlags := 24, slot := 0, constantValue := 0 }, { name := "OK", type := .int, accessFlags := 24, slot := 1, constantValue := 0 }, { name := "ERR", type := .int, accessFlags := 24, slot := 2, constantValue := 0 }, { name := "EOF", type := .int, accessFlags := 24, slot := 3, constantValue := 0 }]
  methods := #[k3m0]
  instanceTypes := #[.int, (.array .byte)]
  staticTypes := #[.int, .int, .int, .int]
  resolved := Array.replicate 116 none
  statics := none }

def pool4 : Array CpInfo := pool [(1, u "java/lang/Cloneable"), (0, .class_ 1), (0, u "java/lang/Object"), (0, .class_ 3)] 3

/-- java/lang/Cloneable -/
def k4 : Class := { plain "java/lang/Cloneable" (some 0) with
  accessFlags := 1537
  interfaces := #[]
  cf := some (fileOf pool4 2 #[] #[] 1537 4 #[] #[])
  fields := #[]
  methods := #[]
  instanceTypes := #[]
  staticTypes := #[]
  resolved := Array.replicate 8 none
  statics := none }

def pool5 : Array CpInfo := pool [(1, u "java/io/Serializable"), (0, .class_ 1), (0, u "java/lang/Object"), (0, .class_ 3)] 3

/-- java/io/Serializable -/
def k5 : Class := { plain "java/io/Serializable" (some 0) with
  accessFlags := 1537
  interfaces := #[]
  cf := some (fileOf pool5 2 #[] #[] 1537 4 #[] #[])
  fields := #[]
  methods := #[]
  instanceTypes := #[]
  staticTypes := #[]
  resolved := Array.replicate 8 none
  statics := none }

/-- the primitive byte -/
def k6 : Class := { plain "byte" none with kind := .primitive 'B', accessFlags := 0x411 }
/-- [B -/
def k7 : Class := { plain "[B" (some 0) with kind := .array 6 .byte, interfaces := #[4, 5], accessFlags := 1041 }

def heap : Heap := #[]
def classes : Array Class := #[k0, k1, k2, k3, k4, k5, k6, k7]
def interned : List (Array UInt16 × Addr) := []
def slotsUsed : Nat := 0
def theMethod : MethodId := ⟨1, 2⟩
def args0 : Array Value := #[.int 50, .int 7, .int 2, .long 3]
def aboutOver (below : List Frame) : State where
  vm := { classes := classes, interned := interned.toArray }
  heap := heap
  slotsUsed := slotsUsed
  threads := #[{ frames := .invoking theMethod args0 :: below }]
def below0 : List Frame := [.native { method := ⟨0, 0⟩, args := #[] }]
def about1 : State := aboutOver below0
def p0 : Program := .bare "" "" ""
def e0 : Env := launch0.env 0 0 0
theorem w_frames : about1.frames = Frame.invoking theMethod args0 :: below0 := rfl
set_option maxRecDepth 65536 in
theorem w_args : argsFit about1.vm theMethod args0 = true := by decide +kernel
set_option maxRecDepth 65536 in
theorem w_heap : heapFits about1 = true := by decide +kernel
set_option maxRecDepth 65536 in
theorem w_runnable : about1.curStatus? = some .runnable := by decide +kernel
set_option maxRecDepth 65536 in
theorem w_alone : about1.alone = true := by decide +kernel
set_option maxRecDepth 65536 in
theorem w_named : about1.methodNamed? x = some theMethod := by decide +kernel
set_option maxRecDepth 65536 in
theorem w_hears : about1.hears theMethod below0 = true := by decide +kernel
set_option maxRecDepth 65536 in
theorem w_ripe : about1.ripe theMethod args0 below0 = true := by decide +kernel
theorem w_running : about1.status = .running := rfl
set_option maxRecDepth 65536 in
theorem w_room : about1.hasRoom e0.platform room_1 = true :=
  launch0.hasRoom_least _ room_1 (by decide +kernel) (by decide +kernel) (by decide +kernel) (by decide +kernel) (by decide +kernel) (by decide +kernel)
theorem allAtoms_all (ts : List Jvm.Cond) (a : Array Jvm.Value) (st : Jvm.State) : (allAtoms ts).before a st = ts.all (fun c => c.before a st) := by
  induction ts with
  | nil => rfl
  | cons c t ih =>
    show (Jvm.Cond.and c (allAtoms t)).before a st = _
    rw [Jvm.Cond.before_and, ih, List.all_cons]
def words1 : List Jvm.Cond := Jvm.Cond.code x code maxLocals ret :: tables_1
/-- a 'code' word, met by the world's own term for the bytes: nothing is compared byte by byte -/
theorem code_word {y : MethodName} {bytes : ByteArray} {mx : Nat} {rt : Option FieldType} {a : Array Value} {s : State} {m : MethodId} {meth : Method} {c : Code} (h1 : s.methodNamed? y = some m) (h2 : s.vm.method? m = some meth) (h3 : meth.code = some c) (h4 : c.code = bytes)
    (h5 : (c.maxLocals == mx && c.exceptionTable.isEmpty && decide (c.maxStack ≤ mostOperands) && decide (meth.sig.returnType = rt) && !meth.locks && decide (parseMethodDescriptor y.desc = some meth.sig)) = true) : (Jvm.Cond.code y bytes mx rt).before a s = true := by
  simp only [Bool.and_eq_true, beq_iff_eq, Bool.not_eq_true', decide_eq_true_eq] at h5
  obtain ⟨⟨⟨⟨⟨g1, g2⟩, g3⟩, g4⟩, g5⟩, g6⟩ := h5
  simp [Cond.before, Cond.holds, Cond.value, h1, h2, h3, h4, g1, g2, g3, g4, g5, g6]
def isCode : Jvm.Cond → Bool
  | .code _ _ _ _ => true
  | _ => false
theorem all_split {L : List Jvm.Cond} {P : Jvm.Cond → Bool} (h1 : L.all (fun c => isCode c || P c) = true) (h2 : ∀ c ∈ L.filter isCode, P c = true) : L.all P = true := by
  refine List.all_eq_true.mpr fun c hc => ?_
  have h := List.all_eq_true.mp h1 c hc
  rcases Bool.eq_false_or_eq_true (isCode c) with hi | hi
  · exact h2 c (List.mem_filter.mpr ⟨hc, hi⟩)
  · simpa [hi] using h
set_option maxRecDepth 65536 in
theorem w_c0 : (Jvm.Cond.code x code maxLocals ret).before args0 about1 = true := code_word (m := ⟨1, 2⟩) (meth := k1m2) (c := k1c2) (by decide +kernel) rfl rfl rfl (by decide +kernel)
set_option maxRecDepth 65536 in
theorem w_c1 : (Jvm.Cond.code ({ cls := "com/example/query_warden/querywarden/PacketLengthEncodedSizePinLaw", name := "filled", desc := "(B)[B" } : Jvm.MethodName) method_2_code (2 : Nat) (Option.some (Jvm.ClassFile.FieldType.array Jvm.ClassFile.FieldType.byte))).before args0 about1 = true := code_word (m := ⟨1, 1⟩) (meth := k1m1) (c := k1c1) (by decide +kernel) rfl rfl rfl (by decide +kernel)
set_option maxRecDepth 65536 in
theorem w_c2 : (Jvm.Cond.code ({ cls := "com/example/query_warden/querywarden/Packet", name := "lengthEncodedSize", desc := "([BI)I" } : Jvm.MethodName) prog_22_method_10_code (2 : Nat) (Option.some Jvm.ClassFile.FieldType.int)).before args0 about1 = true := code_word (m := ⟨3, 0⟩) (meth := k3m0) (c := k3c0) (by decide +kernel) rfl rfl rfl (by decide +kernel)
def codes1 : List Jvm.Cond := [Jvm.Cond.code x code maxLocals ret, Jvm.Cond.code ({ cls := "com/example/query_warden/querywarden/PacketLengthEncodedSizePinLaw", name := "filled", desc := "(B)[B" } : Jvm.MethodName) method_2_code (2 : Nat) (Option.some (Jvm.ClassFile.FieldType.array Jvm.ClassFile.FieldType.byte)), Jvm.Cond.code ({ cls := "com/example/query_warden/querywarden/Packet", name := "lengthEncodedSize", desc := "([BI)I" } : Jvm.MethodName) prog_22_method_10_code (2 : Nat) (Option.some Jvm.ClassFile.FieldType.int)]
set_option maxRecDepth 65536 in
theorem codes_eq : words1.filter isCode = codes1 := rfl
theorem w_codes : ∀ c ∈ words1.filter isCode, c.before args0 about1 = true := by
  rw [codes_eq]
  intro c hc
  simp only [codes1, List.mem_cons, List.not_mem_nil, or_false] at hc
  rcases hc with rfl | rfl | rfl
  · exact w_c0
  · exact w_c1
  · exact w_c2
set_option maxRecDepth 65536 in
theorem w_t1 : words1.all (fun c => isCode c || c.before args0 about1) = true := by decide +kernel
theorem w_tables : (allAtoms (Jvm.Cond.code x code maxLocals ret :: tables_1)).before args0 about1 = true := by
  rw [allAtoms_all]
  show words1.all (fun c => c.before args0 about1) = true
  refine all_split ?_ w_codes
  rw [w_t1]
set_option maxRecDepth 65536 in
theorem w_case : (Jvm.Cond.and given_1 narrow_1).before args0 about1 = true := by decide +kernel
theorem w_applies : (headSpec (Jvm.Cond.code x code maxLocals ret :: tables_1) room_1).applies x e0.platform about1 = true :=
  (Spec.applies_iff w_frames).mpr ⟨w_running, w_runnable, w_alone, w_named, w_hears, w_ripe, w_room, w_tables⟩
theorem atStart : AtStart classFile x code maxLocals ret World_1 tables_1 room_1 Calls_1 rest_1 Pre_1 launch0 p0 e0 about1 theMethod args0 below0 :=
  ⟨lists_1, trivial, launch0.admits_env _ _ _, launch0.least_env, fairChoices_fair.cas, fairChoices_fair.clock, w_frames, w_args, w_heap, w_applies, trivial, trivial, w_case⟩
end start1
theorem witness_1 : WitnessClaimed_1 := ⟨start1.p0, start1.e0, start1.about1, start1.theMethod, start1.args0, start1.below0, start1.atStart⟩
end Jvm.Pilot.@@N@@
