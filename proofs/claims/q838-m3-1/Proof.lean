import JvmDerived
import JvmDerived.Pilot.@@N@@Statement
import JvmDerived.Pilot.@@N@@Code
set_option linter.unusedVariables false
set_option linter.unusedSimpArgs false
namespace Jvm.Pilot.@@N@@
open Jvm Jvm.ClassFile Sem Op Lib Jvm.Free Jvm.Stand Jvm.LawKit Jvm.RoadKit Bundle Jvm.Pilot.@@N@@.Jvm.D
/-! ## own kit: a walk in continuation style over the library's steps -/
section OwnKit
variable {p : Program} {l : Launch} {e : Env} {R : Room} {s : State} {m : MethodId} {args : Array Value} {below : List Frame} {meth : Method} {c : Code} {T : State} {locs : List Loc} {cells slots : Nat} {Z : State} {a0 : Array Value} {h h' : Heap}
/-- from U the run ends, and then E holds -/
def GoOn (p : Program) (e : Env) (below : List Frame) (E : State → Outcome → Prop) (U : State) : Prop :=
  ∃ t o, Steps p.tables e below U t ∧ t.status = .running ∧ Ended t below o ∧ E t o
theorem GoOn.step {E : State → Outcome → Prop} {U U' : State} (hs : ∀ t, Steps p.tables e below U' t → Steps p.tables e below U t) (g : GoOn p e below E U') : GoOn p e below E U := by
  obtain ⟨t, o, h1, h2⟩ := g
  exact ⟨t, o, hs _ h1, h2⟩
/-- how a body ends: what it returns, its heap, the places that it wrote -/
abbrev EndQ (s : State) (rm : Room) (Q : Option Value → Heap → List Loc → Prop) : State → Outcome → Prop :=
  fun U o => ∃ v L, o = .returned v ∧ Q v U.heap L ∧ FrameEnd s o U L rm.cells rm.slots
/-- a body's contract at one array of arguments and one heap -/
def Con (l : Launch) (Z : State) (y : MethodName) (bytes : ByteArray) (mx : Nat) (rt : Option FieldType) (rm : Room) (as : Array Value) (h : Heap) (Q : Option Value → Heap → List Loc → Prop) : Prop :=
  ∀ ws : List Jvm.Cond, MetFree l y (head1 (Jvm.Cond.code y bytes mx rt :: ws) rm) (fun a U => a = as ∧ Z.Warmed39 U.vm ∧ U.heap = h) (fun _ _ _ _ _ => True) (fun _ U o U' => ∃ v L, o = .returned v ∧ Q v U'.heap L ∧ FrameEnd U o U' L rm.cells rm.slots)
theorem Con.intro {y : MethodName} {bytes : ByteArray} {mx : Nat} {rt : Option FieldType} {rm : Room} {as : Array Value} {Q : Option Value → Heap → List Loc → Prop} (hp : plainFor y = true)
    (body : ∀ (p : Program) (e : Env) (s : State) (m : MethodId) (below : List Frame) (meth : Method) (c : Code) (s₁ : State), p.tables.exec = Jvm.exec → c.code = bytes → c.maxLocals = mx → meth.sig.returnType = rt → meth.locks = false → Z.Warmed39 s.vm → s.vm.findClass y.cls = some m.cls → meth.name = y.name →
      Stand p l e rm s m as below meth c s₁ [] 0 0 → s₁.heap = h → GoOn p e below (EndQ s rm Q) (s₁.setTop (entryFrame m as mx))) : Con l Z y bytes mx rt rm as h Q := fun ws => by
  refine MetFree.of_bodySF hp hisR ?_
  intro p e s m args below meth c s₁ Bd hml0 hP hK
  obtain ⟨rfl, hZ, hh⟩ := hP
  have X0 : Stand p l e rm s m args below meth c s₁ [] 0 0 := Stand.of_body Bd
  obtain ⟨t, o, h1, h2, h3, h4⟩ := body p e s m below meth c s₁ Bd.exec Bd.bytes hml0 Bd.returns Bd.notSynchronized hZ (findClass_of_methodNamed Bd.named) (name_of_methodNamed Bd.named Bd.method).1 X0 (by rw [← hh, Bd.state]; rfl)
  exact ⟨t, o, h1, h2, h3, h4⟩
theorem GoOn.cast {E : State → Outcome → Prop} {g g' : JFrame} (q : g = g') (k : GoOn p e below E (T.setTop g')) : GoOn p e below E (T.setTop g) := q ▸ k
theorem GoOn.retI (X : Stand p l e R s m args below meth c T locs cells slots) (hx : p.tables.exec = Jvm.exec) (hrt : meth.sig.returnType = some .int) (hlk : meth.locks = false) {rm : Room} {Q : Option Value → Heap → List Loc → Prop} {pc : Nat} {Ls : Array Slot} {z : Int32} {rest : List Value}
    (hd : decode c.code pc = .ok (.ireturn, 1)) (hc : cells ≤ rm.cells) (hs : slots ≤ rm.slots) (hQ : Q (some (.int z)) T.heap locs) : GoOn p e below (EndQ s rm Q) (T.setTop (mkF m pc Ls (.int z :: rest))) := by
  obtain ⟨fs, hr, hrun, hended, hW, hsame⟩ := X.leave (v := some (.int z)) (fun h => by rw [hrt] at h; cases h) hlk
  exact ⟨_, _, Jvm.RoadKit.retOut X hx hrt rfl (Or.inl ⟨rfl, Or.inl rfl, _, rfl⟩) hd hr, hrun, hended, _, _, rfl, hQ, ⟨_, rfl⟩, hW, hsame.mono hc hs⟩
theorem GoOn.retN (X : Stand p l e R s m args below meth c T locs cells slots) (hx : p.tables.exec = Jvm.exec) {t : FieldType} (hrt : meth.sig.returnType = some t) (hlk : meth.locks = false) {rm : Room} {Q : Option Value → Heap → List Loc → Prop} {pc : Nat} {Ls : Array Slot} {z : Int32} {rest : List Value} (ht : t = .boolean ∨ t = .byte ∨ t = .char ∨ t = .short)
    (hd : decode c.code pc = .ok (.ireturn, 1)) (hc : cells ≤ rm.cells) (hs : slots ≤ rm.slots) (hQ : Q (some (.int (nar t z))) T.heap locs) : GoOn p e below (EndQ s rm Q) (T.setTop (mkF m pc Ls (.int z :: rest))) := by
  obtain ⟨fs, hr, hrun, hended, hW, hsame⟩ := X.leave (v := some (.int (nar t z))) (fun h => by rw [hrt] at h; cases h) hlk
  exact ⟨_, _, Jvm.RoadKit.retN X hx hrt ht hd hr, hrun, hended, _, _, rfl, hQ, ⟨_, rfl⟩, hW, hsame.mono hc hs⟩
theorem GoOn.retJ (X : Stand p l e R s m args below meth c T locs cells slots) (hx : p.tables.exec = Jvm.exec) (hrt : meth.sig.returnType = some .long) (hlk : meth.locks = false) {rm : Room} {Q : Option Value → Heap → List Loc → Prop} {pc : Nat} {Ls : Array Slot} {z : Int64} {rest : List Value}
    (hd : decode c.code pc = .ok (.lreturn, 1)) (hc : cells ≤ rm.cells) (hs : slots ≤ rm.slots) (hQ : Q (some (.long z)) T.heap locs) : GoOn p e below (EndQ s rm Q) (T.setTop (mkF m pc Ls (.long z :: rest))) := by
  obtain ⟨fs, hr, hrun, hended, hW, hsame⟩ := X.leave (v := some (.long z)) (fun h => by rw [hrt] at h; cases h) hlk
  exact ⟨_, _, Jvm.RoadKit.retOut X hx hrt rfl (Or.inr (Or.inl ⟨rfl, rfl, _, rfl⟩)) hd hr, hrun, hended, _, _, rfl, hQ, ⟨_, rfl⟩, hW, hsame.mono hc hs⟩
theorem GoOn.retR (X : Stand p l e R s m args below meth c T locs cells slots) (hx : p.tables.exec = Jvm.exec) {t : FieldType} (hrt : meth.sig.returnType = some t) (htr : t.isReference = true) (hlk : meth.locks = false) {rm : Room} {Q : Option Value → Heap → List Loc → Prop} {pc : Nat} {Ls : Array Slot} {z : Value} (hz : z.isRef = true) {rest : List Value}
    (hd : decode c.code pc = .ok (.areturn, 1)) (hc : cells ≤ rm.cells) (hs : slots ≤ rm.slots) (hQ : Q (some z) T.heap locs) : GoOn p e below (EndQ s rm Q) (T.setTop (mkF m pc Ls (z :: rest))) := by
  obtain ⟨fs, hr, hrun, hended, hW, hsame⟩ := X.leave (v := some z) (fun h => by rw [hrt] at h; cases h) hlk
  refine ⟨_, _, Jvm.RoadKit.retOut X hx hrt ?_ (Or.inr (Or.inr (Or.inr (Or.inr ⟨rfl, htr, hz⟩)))) hd hr, hrun, hended, _, _, rfl, hQ, ⟨_, rfl⟩, hW, hsame.mono hc hs⟩
  cases z <;> first | (cases t <;> rfl) | (simp [Value.isRef] at hz)
theorem GoOn.ret0 (X : Stand p l e R s m args below meth c T locs cells slots) (hx : p.tables.exec = Jvm.exec) (hrt : meth.sig.returnType = none) (hlk : meth.locks = false) {rm : Room} {Q : Option Value → Heap → List Loc → Prop} {pc : Nat} {Ls : Array Slot}
    (hd : decode c.code pc = .ok (.return_, 1)) (hc : cells ≤ rm.cells) (hs : slots ≤ rm.slots) (hQ : Q none T.heap locs) : GoOn p e below (EndQ s rm Q) (T.setTop (mkF m pc Ls [])) := by
  obtain ⟨fs, hr, hrun, hended, hW, hsame⟩ := X.leave (v := none) (fun _ => rfl) hlk
  exact ⟨_, _, X.returnOut hx hrt hd hr, hrun, hended, _, _, rfl, hQ, ⟨_, rfl⟩, hW, hsame.mono hc hs⟩
/-- a static call by its contract -/
theorem kCallS (X : Stand p l e R s m args below meth c T locs cells slots) (hx : p.tables.exec = Jvm.exec) (hZ : Z.Warmed39 s.vm) {own : String} {index : Nat} {y : MethodName} {bytes : ByteArray} {mx : Nat} {rt : Option FieldType} {rm : Room} {Q : Option Value → Heap → List Loc → Prop} {argsL rest : List Value}
    (K : Con l Z y bytes mx rt rm argsL.toArray h Q) (hown : s.vm.findClass own = some m.cls) (w1 : (Jvm.Cond.methodLink own index y).before a0 Z = true) (w2 : (Jvm.Cond.static y).before a0 Z = true) (w3 : (Jvm.Cond.initialized y.cls).before a0 Z = true) (w4 : (Jvm.Cond.code y bytes mx rt).before a0 Z = true)
    (hy : y.cls ≠ "java/lang/invoke/MethodHandle" ∧ y.cls ≠ "java/lang/invoke/VarHandle") (eT : T.heap = h) {g : JFrame} (hg : g.method = m) (hsize : g.locals.size = c.maxLocals) (hlen : ∀ sig, parseMethodDescriptor y.desc = some sig → argsL.length = sig.parameters.length) (hstack : g.stack = argsL.reverse ++ rest)
    {W : Nat} (hW : 2 * g.monitorRoom + (rest.map fun v => v.category).sum ≤ W) (hd : decode c.code g.pc = .ok (.invokestatic index, 3)) (hf : rm.frames + 1 ≤ R.frames) (hl : W + (mx + 11) + rm.locals ≤ R.locals) (hc : cells + rm.cells ≤ R.cells) (hs : slots + rm.slots ≤ R.slots) :
    ∃ v T' L, Stand p l e R s m args below meth c T' (locs ++ L) (cells + rm.cells) (slots + rm.slots) ∧ Q v T'.heap L ∧ ∀ target, Steps p.tables e below (T'.setTop { g with pc := g.pc + 3, stack := v.toList ++ rest }) target → Steps p.tables e below (T.setTop g) target := by
  obtain ⟨v, _, ⟨T', L', k', n'⟩, -, X', ⟨L, hQ, l1, l2, l3⟩, st⟩ := Jvm.LawKit.callS X hx (y := y) hown (mvT hZ w1) (mvT hZ w2) (mvT hZ w3) (mvT hZ w4) hy (backOf (W := W) (K []) hZ w4 w3 hf hl) hg hsize hlen hstack hW hd (fun _ _ => ⟨rfl, eT, hc, hs⟩)
  dsimp only [Pt.U, Pt.locs, Pt.cells, Pt.slots] at X' l1 l2 l3 hQ st
  subst l1 l2 l3
  exact ⟨v, T', L, X', hQ, fun t k => st _ k⟩
/-- a constructor by its contract -/
theorem kCallI (X : Stand p l e R s m args below meth c T locs cells slots) (hx : p.tables.exec = Jvm.exec) (hZ : Z.Warmed39 s.vm) {own : String} {index : Nat} {y : MethodName} {bytes : ByteArray} {mx : Nat} {rm : Room} {Q : Option Value → Heap → List Loc → Prop} {a : Addr} {argsL rest : List Value}
    (K : Con l Z y bytes mx none rm (.ref a :: argsL).toArray h Q) (hy1 : y.name = "<init>") (hown : s.vm.findClass own = some m.cls) (w1 : (Jvm.Cond.methodLink own index y).before a0 Z = true) (w2 : (Jvm.Cond.instanceMethod y).before a0 Z = true) (w3 : (Jvm.Cond.initialized y.cls).before a0 Z = true) (w4 : (Jvm.Cond.code y bytes mx none).before a0 Z = true)
    (hy : y.cls ≠ "java/lang/invoke/MethodHandle" ∧ y.cls ≠ "java/lang/invoke/VarHandle") (eT : T.heap = h) {g : JFrame} (hg : g.method = m) (hsize : g.locals.size = c.maxLocals) (hlen : ∀ sig, parseMethodDescriptor y.desc = some sig → argsL.length = sig.parameters.length) (hstack : g.stack = argsL.reverse ++ .ref a :: rest)
    {W : Nat} (hW : 2 * g.monitorRoom + (rest.map fun v => v.category).sum ≤ W) (hd : decode c.code g.pc = .ok (.invokespecial index, 3)) (hf : rm.frames + 1 ≤ R.frames) (hl : W + (mx + 11) + rm.locals ≤ R.locals) (hc : cells + rm.cells ≤ R.cells) (hs : slots + rm.slots ≤ R.slots) :
    ∃ v T' L, Stand p l e R s m args below meth c T' (locs ++ L) (cells + rm.cells) (slots + rm.slots) ∧ Q v T'.heap L ∧ ∀ target, Steps p.tables e below (T'.setTop { g with pc := g.pc + 3, stack := v.toList ++ rest }) target → Steps p.tables e below (T.setTop g) target := by
  obtain ⟨v, _, ⟨T', L', k', n'⟩, -, X', ⟨L, hQ, l1, l2, l3⟩, st⟩ := X.specialBack hx (y := y) hy1 hown (mvT hZ w1) (mvT hZ w2) (mvT hZ w4) hy (backOf (W := W) (K []) hZ w4 w3 hf hl) hg hsize (Steps.refl _) (a := a) hlen hstack hW hd (fun _ _ => ⟨rfl, eT, hc, hs⟩)
  dsimp only [Pt.U, Pt.locs, Pt.cells, Pt.slots] at X' l1 l2 l3 hQ st
  subst l1 l2 l3
  exact ⟨v, T', L, X', hQ, fun t k => st.trans k⟩
/-- an instance method by its contract, on an object of that very class -/
theorem kCallV (X : Stand p l e R s m args below meth c T locs cells slots) (hx : p.tables.exec = Jvm.exec) (hZ : Z.Warmed39 s.vm) {own C : String} {index : Nat} {y z : MethodName} {bytes : ByteArray} {mx : Nat} {rt : Option FieldType} {rm : Room} {Q : Option Value → Heap → List Loc → Prop} {a : Addr} {argsL rest : List Value}
    (K : Con l Z z bytes mx rt rm (.ref a :: argsL).toArray h Q) (hown : s.vm.findClass own = some m.cls) (w1 : (Jvm.Cond.methodLink own index y).before a0 Z = true) (wd : (Jvm.Cond.declares y).before a0 Z = true) (hnf : NotFace s y) (ws : (Jvm.Cond.selects C y z).before a0 Z = true) (w2 : (Jvm.Cond.instanceMethod z).before a0 Z = true) (w3 : (Jvm.Cond.initialized z.cls).before a0 Z = true) (w4 : (Jvm.Cond.code z bytes mx rt).before a0 Z = true)
    (hy : y.cls ≠ "java/lang/invoke/MethodHandle" ∧ y.cls ≠ "java/lang/invoke/VarHandle") (eT : T.heap = h) (E : Exa Z h a C) {g : JFrame} (hg : g.method = m) (hsize : g.locals.size = c.maxLocals) (hlen : ∀ sig, parseMethodDescriptor y.desc = some sig → argsL.length = sig.parameters.length) (hstack : g.stack = argsL.reverse ++ .ref a :: rest)
    {W : Nat} (hW : 2 * g.monitorRoom + (rest.map fun v => v.category).sum ≤ W) (hd : decode c.code g.pc = .ok (.invokevirtual index, 3)) (hf : rm.frames + 1 ≤ R.frames) (hl : W + (mx + 11) + rm.locals ≤ R.locals) (hc : cells + rm.cells ≤ R.cells) (hs : slots + rm.slots ≤ R.slots) :
    ∃ v T' L, Stand p l e R s m args below meth c T' (locs ++ L) (cells + rm.cells) (slots + rm.slots) ∧ Q v T'.heap L ∧ ∀ target, Steps p.tables e below (T'.setTop { g with pc := g.pc + 3, stack := v.toList ++ rest }) target → Steps p.tables e below (T.setTop g) target := by
  obtain ⟨cB, kB, q1, q2, q3⟩ := isOf hZ eT E
  obtain ⟨v, _, ⟨T', L', k', n'⟩, -, X', ⟨L, hQ, l1, l2, l3⟩, st⟩ := X.virtualBack hx (y := y) (z := z) hown (mvT hZ w1) (mvT hZ wd) hnf (mvT hZ ws) (mvT hZ w2) hy (backOf (W := W) (K []) hZ w4 w3 hf hl) q1 q3 hg hsize (Steps.refl _) hlen hstack hW hd (fun _ _ => ⟨rfl, eT, hc, hs⟩)
  dsimp only [Pt.U, Pt.locs, Pt.cells, Pt.slots] at X' l1 l2 l3 hQ st
  subst l1 l2 l3
  exact ⟨v, T', L, X', hQ, fun t k => st.trans k⟩
/-- a private method by its contract ('invokevirtual'); y2: a method of the same class of which is known that its class is no interface -/
theorem kCallP (X : Stand p l e R s m args below meth c T locs cells slots) (hx : p.tables.exec = Jvm.exec) (hZ : Z.Warmed39 s.vm) {own C : String} {index : Nat} {y y2 : MethodName} {bytes : ByteArray} {mx : Nat} {rt : Option FieldType} {rm : Room} {Q : Option Value → Heap → List Loc → Prop} {a : Addr} {argsL rest : List Value}
    (K : Con l Z y bytes mx rt rm (.ref a :: argsL).toArray h Q) (hown : s.vm.findClass own = some m.cls) (w1 : (Jvm.Cond.methodLink own index y).before a0 Z = true) (w2 : (Jvm.Cond.instanceMethod y).before a0 Z = true) (wp : (Jvm.Cond.privateMethod y).before a0 Z = true) (w3 : (Jvm.Cond.initialized y.cls).before a0 Z = true) (w4 : (Jvm.Cond.code y bytes mx rt).before a0 Z = true)
    (hnf : NotFace s y2) (hcl : y2.cls = y.cls) (w5 : (Jvm.Cond.instanceMethod y2).before a0 Z = true)
    (hy : y.cls ≠ "java/lang/invoke/MethodHandle" ∧ y.cls ≠ "java/lang/invoke/VarHandle") (eT : T.heap = h) (E : Exa Z h a C) {g : JFrame} (hg : g.method = m) (hsize : g.locals.size = c.maxLocals) (hlen : ∀ sig, parseMethodDescriptor y.desc = some sig → argsL.length = sig.parameters.length) (hstack : g.stack = argsL.reverse ++ .ref a :: rest)
    {W : Nat} (hW : 2 * g.monitorRoom + (rest.map fun v => v.category).sum ≤ W) (hd : decode c.code g.pc = .ok (.invokevirtual index, 3)) (hf : rm.frames + 1 ≤ R.frames) (hl : W + (mx + 11) + rm.locals ≤ R.locals) (hc : cells + rm.cells ≤ R.cells) (hs : slots + rm.slots ≤ R.slots) :
    ∃ v T' L, Stand p l e R s m args below meth c T' (locs ++ L) (cells + rm.cells) (slots + rm.slots) ∧ Q v T'.heap L ∧ ∀ target, Steps p.tables e below (T'.setTop { g with pc := g.pc + 3, stack := v.toList ++ rest }) target → Steps p.tables e below (T.setTop g) target := by
  obtain ⟨cB, kB, q1, q2, cell, q3, q4, q5⟩ := isOf hZ eT E
  obtain ⟨mk, methM, hnamed, hmethM, hstM, habM⟩ := Cond.instanceMethod_spec (mvT (args := args) hZ w2)
  obtain ⟨methM', cM, hmethM', -, -, -, -, -, -, hsigM⟩ := Cond.code_spec hnamed (mvT (args := args) hZ w4)
  cases hmethM.symm.trans hmethM'
  obtain ⟨mk2, methM2, hnamed2, -⟩ := Cond.instanceMethod_spec (mvT (args := args) hZ w5)
  obtain ⟨kP, hkP, hkPi⟩ := hnf mk2 hnamed2
  have hcc : mk2.cls = mk.cls := by
    have u1 := findClass_of_methodNamed hnamed2
    rw [hcl] at u1
    exact Option.some.inj (u1.symm.trans (findClass_of_methodNamed hnamed))
  rw [hcc] at hkP
  have hpriv : s.PrivateAt y := Cond.privateMethod_at (mvP hZ wp (args := args))
  obtain ⟨vm₁, X₁, hstep₁⟩ := X.invokevirtual hx hown (mvT hZ w1) hnamed hmethM hstM hkP hkPi hy (a := a) (cell := cell) q3 (fun q z => by rw [z] at q5; cases q5) (selectMethod_private hmethM (hpriv mk methM hnamed hmethM)) hmethM habM hkP hkPi (g := g) hg (argsL := argsL) (rest := rest) (hlen _ hsigM) hstack hd
  obtain ⟨v, ⟨T', L', k', n'⟩, X', ⟨L, hQ, l1, l2, l3⟩, st⟩ := (backOf (W := W) (K []) hZ w4 w3 hf hl) m meth c ⟨T.setVm vm₁, locs, cells, slots⟩ { g with stack := rest } (.invokevirtual index) mk (.ref a :: argsL).toArray X₁ hg hsize hd hW (X₁.named hnamed) ⟨rfl, eT, hc, hs⟩
  dsimp only [Pt.U, Pt.locs, Pt.cells, Pt.slots] at X' l1 l2 l3 hQ st
  subst l1 l2 l3
  exact ⟨v, T', L, X', hQ, fun t k => (hstep₁ _ fun acts => by rw [doInvoke_state]; exact Steps.refl _).trans (st.trans k)⟩
/-- an array: its kind, its length, what each place holds -/
def Jar (Z : State) (h : Heap) (a : Addr) (ty : FieldType) (n : Nat) (f : Nat → Value) : Prop := ∃ cl : Cell, Arr Z h a cl ty ∧ cl.slots.size = n ∧ ∀ i, i < n → cl.slots[i]? = some (f i)
section JarS
variable {a b : Addr} {ty : FieldType} {n : Nat} {f g : Nat → Value} {v : Value} {sl : Nat} {ws : List Addr}
theorem Jar.lt (F : Jar Z h a ty n f) : a < h.size := by obtain ⟨cl, A, -⟩ := F; exact A.lt
theorem Jar.ext (F : Jar Z h a ty n f) (E : Ext h h') : Jar Z h' a ty n f := by obtain ⟨cl, A, r⟩ := F; exact ⟨cl, A.ext E, r⟩
theorem Jar.other (F : Jar Z h b ty n f) (W : Wr h h' a sl v) (q : b ≠ a) : Jar Z h' b ty n f := by obtain ⟨cl, A, r⟩ := F; exact ⟨cl, A.other W q, r⟩
theorem Jar.keep (F : Jar Z h a ty n f) (K : Keep h h' ws) (q : a ∉ ws) : Jar Z h' a ty n f := by obtain ⟨cl, A, r⟩ := F; exact ⟨cl, ⟨K.2.1 a cl A.1 q, A.2⟩, r⟩
theorem Jar.congr (F : Jar Z h a ty n f) (q : ∀ i, i < n → f i = g i) : Jar Z h a ty n g := by obtain ⟨cl, A, s1, s2⟩ := F; exact ⟨cl, A, s1, fun i hi => by rw [s2 i hi, q i hi]⟩
theorem Jar.new {k : ClassId} {z : Int32} (A : Arr Z h a (newA k ty z) ty) (hz : z.toNatClampNeg = n) : Jar Z h a ty n (fun _ => defaultValue ty) := ⟨_, A, (sz_new _ _ _).trans hz, fun i hi => by simp [newA, hz, hi]⟩
theorem Jar.set (F : Jar Z h a ty n f) (W : Wr h h' a sl v) : Jar Z h' a ty n (fun i => if i = sl then v else f i) := by
  obtain ⟨cl, A, s1, s2⟩ := F
  obtain ⟨c2, q1, -, q3, -⟩ := id W
  cases A.1.symm.trans q1
  refine ⟨_, Arr.same W A, by simp [Cell.setSlot, s1], fun i hi => ?_⟩
  by_cases q : i = sl
  · subst q; simp [Cell.setSlot, q3]
  · show (cl.slots.setIfInBounds sl v)[i]? = some (if i = sl then v else f i)
    rw [if_neg q, ← s2 i hi, Array.getElem?_setIfInBounds_ne (Ne.symm q)]
theorem Jar.ints (F : Jar Z h a ty n f) (H : ∀ i, ∃ x, f i = .int x) : ∃ g : Nat → Int32, Jar Z h a ty n (fun i => .int (g i)) := ⟨fun i => Classical.choose (H i), F.congr fun i _ => Classical.choose_spec (H i)⟩
theorem Jar.longs (F : Jar Z h a ty n f) (H : ∀ i, ∃ x, f i = .long x) : ∃ g : Nat → Int64, Jar Z h a ty n (fun i => .long (g i)) := ⟨fun i => Classical.choose (H i), F.congr fun i _ => Classical.choose_spec (H i)⟩
theorem inJ {cl : Cell} {j : Int32} (s1 : cl.slots.size = n) (hj : 0 ≤ j.toInt ∧ j.toInt < n) : ¬ (j < 0 ∨ cl.slots.size ≤ j.toNatClampNeg) := by
  rw [s1, Int32.lt_iff_toInt_lt]
  have e1 : (0 : Int32).toInt = 0 := rfl
  have e2 : j.toNatClampNeg = j.toInt.toNat := rfl
  omega
theorem natJ {j : Int32} (hj : 0 ≤ j.toInt ∧ j.toInt < n) : j.toNatClampNeg < n := by
  have e2 : j.toNatClampNeg = j.toInt.toNat := rfl
  omega
end JarS
theorem kLdI (X : Stand p l e R s m args below meth c T locs cells slots) (hx : p.tables.exec = Jvm.exec) (hZ : Z.Warmed39 s.vm) (eT : T.heap = h) {a : Addr} {n : Nat} {f : Nat → Value} (F : Jar Z h a .int n f) {j : Int32} {v : Value} (hj : 0 ≤ j.toInt ∧ j.toInt < n) (hv : f j.toNatClampNeg = v) {g : JFrame} (hg : g.method = m) {rest : List Value} (hs : g.stack = .int j :: .ref a :: rest) (hd : decode c.code g.pc = .ok (.iaload, 1)) :
    ∀ t, Steps p.tables e below (T.setTop { g with pc := g.pc + 1, stack := v :: rest }) t → Steps p.tables e below (T.setTop g) t := by
  obtain ⟨cl, A, s1, s2⟩ := F
  exact X.iaload hx (j := j) (v := v) (by rw [eT]; exact A.1) (State.isArrayOf_alike hZ.alike A.2.1) A.2.2 (inJ s1 hj) (by rw [s2 _ (natJ hj), hv]) hg hs hd
theorem kLdJ (X : Stand p l e R s m args below meth c T locs cells slots) (hx : p.tables.exec = Jvm.exec) (hZ : Z.Warmed39 s.vm) (eT : T.heap = h) {a : Addr} {n : Nat} {f : Nat → Value} (F : Jar Z h a .long n f) {j : Int32} {v : Value} (hj : 0 ≤ j.toInt ∧ j.toInt < n) (hv : f j.toNatClampNeg = v) {g : JFrame} (hg : g.method = m) {rest : List Value} (hs : g.stack = .int j :: .ref a :: rest) (hd : decode c.code g.pc = .ok (.laload, 1)) :
    ∀ t, Steps p.tables e below (T.setTop { g with pc := g.pc + 1, stack := v :: rest }) t → Steps p.tables e below (T.setTop g) t := by
  obtain ⟨cl, A, s1, s2⟩ := F
  exact X.laload hx (j := j) (v := v) (by rw [eT]; exact A.1) (State.isArrayOf_alike hZ.alike A.2.1) A.2.2 (inJ s1 hj) (by rw [s2 _ (natJ hj), hv]) hg hs hd
theorem kLdB (X : Stand p l e R s m args below meth c T locs cells slots) (hx : p.tables.exec = Jvm.exec) (hZ : Z.Warmed39 s.vm) (eT : T.heap = h) {a : Addr} {n : Nat} {f : Nat → Value} (F : Jar Z h a .byte n f) {j : Int32} {v : Value} (hj : 0 ≤ j.toInt ∧ j.toInt < n) (hv : f j.toNatClampNeg = v) {g : JFrame} (hg : g.method = m) {rest : List Value} (hs : g.stack = .int j :: .ref a :: rest) (hd : decode c.code g.pc = .ok (.baload, 1)) :
    ∀ t, Steps p.tables e below (T.setTop { g with pc := g.pc + 1, stack := v :: rest }) t → Steps p.tables e below (T.setTop g) t := by
  obtain ⟨cl, A, s1, s2⟩ := F
  exact X.baloadBytes hx (j := j) (v := v) (by rw [eT]; exact A.1) (State.isArrayOf_alike hZ.alike A.2.1) A.2.2 (inJ s1 hj) (by rw [s2 _ (natJ hj), hv]) hg hs hd
theorem kLdA (X : Stand p l e R s m args below meth c T locs cells slots) (hx : p.tables.exec = Jvm.exec) (hZ : Z.Warmed39 s.vm) (eT : T.heap = h) {a : Addr} {ty : FieldType} {n : Nat} {f : Nat → Value} (F : Jar Z h a ty n f) (hty : ty.isReference = true) {j : Int32} {v : Value} (hj : 0 ≤ j.toInt ∧ j.toInt < n) (hv : f j.toNatClampNeg = v) {g : JFrame} (hg : g.method = m) {rest : List Value} (hs : g.stack = .int j :: .ref a :: rest) (hd : decode c.code g.pc = .ok (.aaload, 1)) :
    ∀ t, Steps p.tables e below (T.setTop { g with pc := g.pc + 1, stack := v :: rest }) t → Steps p.tables e below (T.setTop g) t := by
  obtain ⟨cl, A, s1, s2⟩ := F
  exact X.aaload hx (j := j) (v := v) (by rw [eT]; exact A.1) (State.isArrayOf_alike hZ.alike A.2.1) hty A.2.2 (inJ s1 hj) (by rw [s2 _ (natJ hj), hv]) hg hs hd
theorem kLen (X : Stand p l e R s m args below meth c T locs cells slots) (hx : p.tables.exec = Jvm.exec) (hZ : Z.Warmed39 s.vm) (eT : T.heap = h) {a : Addr} {ty : FieldType} {n : Nat} {f : Nat → Value} (F : Jar Z h a ty n f) {z : Int32} (hz : n.toInt32 = z) {g : JFrame} (hg : g.method = m) {rest : List Value} (hs : g.stack = .ref a :: rest) (hd : decode c.code g.pc = .ok (.arraylength, 1)) :
    ∀ t, Steps p.tables e below (T.setTop { g with pc := g.pc + 1, stack := .int z :: rest }) t → Steps p.tables e below (T.setTop g) t := by
  obtain ⟨cl, A, s1, s2⟩ := F
  subst hz s1
  exact X.arraylength hx (by rw [eT]; exact A.1) (State.isArrayOf_alike hZ.alike A.2.1) hg hs hd
/-- a store: what the three kinds say alike -/
theorem kStI (X : Stand p l e R s m args below meth c T locs cells slots) (hx : p.tables.exec = Jvm.exec) (hZ : Z.Warmed39 s.vm) (eT : T.heap = h) {a : Addr} {n : Nat} {f : Nat → Value} (F : Jar Z h a .int n f) {j x : Int32} (hj : 0 ≤ j.toInt ∧ j.toInt < n) {g : JFrame} (hg : g.method = m) {rest : List Value} (hs : g.stack = .int x :: .int j :: .ref a :: rest) (hd : decode c.code g.pc = .ok (.iastore, 1)) :
    ∃ T' h', Stand p l e R s m args below meth c T' (locs ++ [⟨a, j.toNatClampNeg⟩]) cells slots ∧ T'.heap = h' ∧ Wr h h' a j.toNatClampNeg (.int x) ∧ ∀ target, Steps p.tables e below (T'.setTop { g with pc := g.pc + 1, stack := rest }) target → Steps p.tables e below (T.setTop g) target := by
  obtain ⟨cl, A, s1, s2⟩ := F
  exact stI X hx hZ eT A (inJ s1 hj) hg hs hd
theorem kStJ (X : Stand p l e R s m args below meth c T locs cells slots) (hx : p.tables.exec = Jvm.exec) (hZ : Z.Warmed39 s.vm) (eT : T.heap = h) {a : Addr} {n : Nat} {f : Nat → Value} (F : Jar Z h a .long n f) {j : Int32} {x : Int64} (hj : 0 ≤ j.toInt ∧ j.toInt < n) {g : JFrame} (hg : g.method = m) {rest : List Value} (hs : g.stack = .long x :: .int j :: .ref a :: rest) (hd : decode c.code g.pc = .ok (.lastore, 1)) :
    ∃ T' h', Stand p l e R s m args below meth c T' (locs ++ [⟨a, j.toNatClampNeg⟩]) cells slots ∧ T'.heap = h' ∧ Wr h h' a j.toNatClampNeg (.long x) ∧ ∀ target, Steps p.tables e below (T'.setTop { g with pc := g.pc + 1, stack := rest }) target → Steps p.tables e below (T.setTop g) target := by
  obtain ⟨cl, A, s1, s2⟩ := F
  exact stJ X hx hZ eT A (inJ s1 hj) hg hs hd
theorem kStB (X : Stand p l e R s m args below meth c T locs cells slots) (hx : p.tables.exec = Jvm.exec) (hZ : Z.Warmed39 s.vm) (eT : T.heap = h) {a : Addr} {n : Nat} {f : Nat → Value} (F : Jar Z h a .byte n f) {j x : Int32} (hj : 0 ≤ j.toInt ∧ j.toInt < n) {g : JFrame} (hg : g.method = m) {rest : List Value} (hs : g.stack = .int x :: .int j :: .ref a :: rest) (hd : decode c.code g.pc = .ok (.bastore, 1)) :
    ∃ T' h', Stand p l e R s m args below meth c T' (locs ++ [⟨a, j.toNatClampNeg⟩]) cells slots ∧ T'.heap = h' ∧ Wr h h' a j.toNatClampNeg (.int (x.toInt8.toInt32)) ∧ ∀ target, Steps p.tables e below (T'.setTop { g with pc := g.pc + 1, stack := rest }) target → Steps p.tables e below (T.setTop g) target := by
  obtain ⟨cl, A, s1, s2⟩ := F
  exact stB X hx hZ eT A (inJ s1 hj) hg hs hd
theorem kClone (X : Stand p l e R s m args below meth c T locs cells slots) (hx : p.tables.exec = Jvm.exec) (hZ : Z.Warmed39 s.vm) {own ad : String} {index : Nat} (hown : s.vm.findClass own = some m.cls)
    (w1 : (Jvm.Cond.methodLink own index ⟨ad, "clone", "()Ljava/lang/Object;"⟩).before a0 Z = true) (w2 : (Jvm.Cond.sameMethod ad "java/lang/Object" "clone" "()Ljava/lang/Object;").before a0 Z = true) (w3 : (Jvm.Cond.native ⟨"java/lang/Object", "clone", "()Ljava/lang/Object;"⟩).before a0 Z = true)
    (w4 : (Jvm.Cond.instanceMethod ⟨"java/lang/Object", "clone", "()Ljava/lang/Object;"⟩).before a0 Z = true) (w5 : (Jvm.Cond.selects ad ⟨ad, "clone", "()Ljava/lang/Object;"⟩ ⟨"java/lang/Object", "clone", "()Ljava/lang/Object;"⟩).before a0 Z = true) (w6 : (Jvm.Cond.castable ad "java/lang/Cloneable").before a0 Z = true)
    (eT : T.heap = h) {a : Addr} {ty : FieldType} {n : Nat} {f : Nat → Value} (F : Jar Z h a ty n f) (E : Exa Z h a ad) (hft : ∀ i, i < n → fits ty (f i) = true) {g : JFrame} (hg : g.method = m) (hsize : g.locals.size = c.maxLocals) {rest : List Value} (hs : g.stack = .ref a :: rest) (hd : decode c.code g.pc = .ok (.invokevirtual index, 3))
    (hf : 1 ≤ R.frames) {W cap : Nat} (hW : 2 * g.monitorRoom + (rest.map fun v => v.category).sum ≤ W) (hl : W + 14 ≤ R.locals) (hcap : n ≤ cap) (hc : cells + 1 ≤ R.cells) (hsl : slots + cap ≤ R.slots) :
    ∃ T' h', Stand p l e R s m args below meth c T' locs (cells + 1) (slots + cap) ∧ T'.heap = h' ∧ Ext h h' ∧ Jar Z h' h.size ty n f ∧ Exa Z h' h.size ad ∧
      ∀ target, Steps p.tables e below (T'.setTop { g with pc := g.pc + 3, stack := .ref h.size :: rest }) target → Steps p.tables e below (T.setTop g) target := by
  obtain ⟨cl, A, s1, s2⟩ := F
  have FC : FitC Z cl := fitC_of A fun i hi v hv => by rw [s2 i (s1 ▸ hi)] at hv; cases hv; exact hft i (s1 ▸ hi)
  obtain ⟨T', h', X', e', ex, A', E', st⟩ := cloneA X hx hZ hown w1 w2 w3 w4 w5 w6 eT A E FC hg hsize hs hd hf hW hl (by rw [s1]; exact hcap) hc hsl
  exact ⟨T', h', X', e', ex, ⟨cloneOf cl, A', s1, s2⟩, E', st⟩
theorem narO {C : String} (v : Value) : narrow (.object C) v = v := by cases v <;> rfl
theorem fitO {C : String} {v : Value} (h : v.isRef = true) : fits (.object C) v = true := by cases v <;> first | rfl | (simp [Value.isRef] at h)
/-- what a body that writes nothing and makes nothing leaves -/
def PQ (r : Option Value) (h0 : Heap) : Option Value → Heap → List Loc → Prop := fun v h L => v = r ∧ L = [] ∧ h = h0
/-- what the law leaves -/
def LQ (n0 : Nat) : Option Value → Heap → List Loc → Prop := fun v _ L => v = some (.int 1) ∧ Fr n0 L
end OwnKit
theorem pn_0 : plainName "com/example/query_warden/querywarden/Packet" = true := by first | (simp [plainName, overriddenIn]; done) | decide +kernel
theorem d1_0 : decode prog_22_method_6_code 0 = .ok (.iconst 0, 1) := by decide +kernel
theorem d1_1 : decode prog_22_method_6_code 1 = .ok (.istore_n 3, 1) := by decide +kernel
theorem d1_2 : decode prog_22_method_6_code 2 = .ok (.iload_n 2, 1) := by decide +kernel
theorem d1_3 : decode prog_22_method_6_code 3 = .ok (.iconst 1, 1) := by decide +kernel
theorem d1_4 : decode prog_22_method_6_code 4 = .ok (.isub, 1) := by decide +kernel
theorem d1_5 : decode prog_22_method_6_code 5 = .ok (.istore 4, 2) := by decide +kernel
theorem d1_7 : decode prog_22_method_6_code 7 = .ok (.iload 4, 2) := by decide +kernel
theorem d1_9 : decode prog_22_method_6_code 9 = .ok (.ifCond .lt 25, 3) := by decide +kernel
theorem d1_34 : decode prog_22_method_6_code 34 = .ok (.iload_n 3, 1) := by decide +kernel
theorem d1_35 : decode prog_22_method_6_code 35 = .ok (.ireturn, 1) := by decide +kernel
theorem d1_12 : decode prog_22_method_6_code 12 = .ok (.iload_n 3, 1) := by decide +kernel
theorem d1_13 : decode prog_22_method_6_code 13 = .ok (.bipush 8, 2) := by decide +kernel
theorem d1_15 : decode prog_22_method_6_code 15 = .ok (.ishl, 1) := by decide +kernel
theorem d1_16 : decode prog_22_method_6_code 16 = .ok (.aload_n 0, 1) := by decide +kernel
theorem d1_17 : decode prog_22_method_6_code 17 = .ok (.iload_n 1, 1) := by decide +kernel
theorem d1_18 : decode prog_22_method_6_code 18 = .ok (.iload 4, 2) := by decide +kernel
theorem d1_20 : decode prog_22_method_6_code 20 = .ok (.iadd, 1) := by decide +kernel
theorem d1_21 : decode prog_22_method_6_code 21 = .ok (.baload, 1) := by decide +kernel
theorem d1_22 : decode prog_22_method_6_code 22 = .ok (.sipush 255, 3) := by decide +kernel
theorem d1_25 : decode prog_22_method_6_code 25 = .ok (.iand, 1) := by decide +kernel
theorem d1_26 : decode prog_22_method_6_code 26 = .ok (.ior, 1) := by decide +kernel
theorem d1_27 : decode prog_22_method_6_code 27 = .ok (.istore_n 3, 1) := by decide +kernel
theorem d1_28 : decode prog_22_method_6_code 28 = .ok (.iinc 4 (-1), 3) := by decide +kernel
theorem d1_31 : decode prog_22_method_6_code 31 = .ok (.goto (-24), 3) := by decide +kernel
theorem pn_1 : plainName "com/example/query_warden/querywarden/PacketReadIntPinLaw" = true := by first | (simp [plainName, overriddenIn]; done) | decide +kernel
theorem d2_0 : decode method_2_code 0 = .ok (.iload_n 2, 1) := by decide +kernel
theorem d2_1 : decode method_2_code 1 = .ok (.iload_n 3, 1) := by decide +kernel
theorem d2_2 : decode method_2_code 2 = .ok (.if_icmp .ge 13, 3) := by decide +kernel
theorem d2_5 : decode method_2_code 5 = .ok (.aload_n 0, 1) := by decide +kernel
theorem d2_6 : decode method_2_code 6 = .ok (.iload_n 1, 1) := by decide +kernel
theorem d2_7 : decode method_2_code 7 = .ok (.iload_n 2, 1) := by decide +kernel
theorem d2_8 : decode method_2_code 8 = .ok (.iadd, 1) := by decide +kernel
theorem d2_9 : decode method_2_code 9 = .ok (.baload, 1) := by decide +kernel
theorem d2_10 : decode method_2_code 10 = .ok (.sipush 255, 3) := by decide +kernel
theorem d2_13 : decode method_2_code 13 = .ok (.iand, 1) := by decide +kernel
theorem d2_14 : decode method_2_code 14 = .ok (.ireturn, 1) := by decide +kernel
theorem d2_15 : decode method_2_code 15 = .ok (.iconst 0, 1) := by decide +kernel
theorem d2_16 : decode method_2_code 16 = .ok (.ireturn, 1) := by decide +kernel
theorem pd_0 : parseMethodDescriptor "([BII)I" = some ⟨[(.array .byte), .int, .int], some .int⟩ := by decide +kernel
theorem pd_1 : parseMethodDescriptor "([BIII)I" = some ⟨[(.array .byte), .int, .int, .int], some .int⟩ := by decide +kernel
theorem sh8 (x : Int32) : (x <<< ((8 : Int32) &&& 31)).toBitVec = x.toBitVec <<< 8 := by
  rw [Int32.toBitVec_shiftLeft]; rfl
theorem sh16 (x : Int32) : (x <<< ((16 : Int32) &&& 31)).toBitVec = x.toBitVec <<< 16 := by
  rw [Int32.toBitVec_shiftLeft]; rfl
theorem sh24 (x : Int32) : (x <<< ((24 : Int32) &&& 31)).toBitVec = x.toBitVec <<< 24 := by
  rw [Int32.toBitVec_shiftLeft]; rfl
def uV (g : Nat → Int32) (o k n : Int32) : Int32 := if k < n then (g (o + k).toNatClampNeg &&& (255 : Int32)) else 0
theorem uT {g : Nat → Int32} {o k n : Int32} (q : k < n) : uV g o k n = (g (o + k).toNatClampNeg &&& (255 : Int32)) := if_pos q
theorem uF {g : Nat → Int32} {o k n : Int32} (q : ¬ k < n) : uV g o k n = 0 := if_neg q
theorem ix {o k : Int32} (ho : 0 ≤ o.toInt ∧ o.toInt ≤ 3) (hk : 0 ≤ k.toInt ∧ k.toInt ≤ 3) : 0 ≤ (o + k).toInt ∧ (o + k).toInt < (8 : Nat) := by
  have := c_iadd o k; have := rng32 (o + k); omega
theorem pl0  : (0 : Int32) = ((((0 : Int32) ||| ((0 : Int32) <<< ((8 : Int32) &&& 31))) ||| ((0 : Int32) <<< ((16 : Int32) &&& 31))) ||| ((0 : Int32) <<< ((24 : Int32) &&& 31))) := by
  apply Int32.toBitVec_inj.mp
  have z : (0 : Int32).toBitVec = 0#32 := by decide
  simp only [Int32.toBitVec_or, sh8, sh16, sh24, BitVec.shiftLeft_or_distrib, ← BitVec.shiftLeft_add, z, BitVec.zero_shiftLeft, BitVec.zero_or, BitVec.or_zero, Nat.reduceAdd]
  all_goals (try generalize d.toBitVec <<< 24 = D); (try generalize c.toBitVec <<< 16 = C); (try generalize b.toBitVec <<< 8 = B); (try generalize a.toBitVec = A); (try ac_rfl)
theorem ef_c_read0 (m : MethodId) (x0 : Addr) (x1 : Int32) (x2 : Int32) : entryFrame m #[(.ref x0), (.int x1), (.int x2)] 5 = mkF m 0 #[.val (.ref x0), .val (.int x1), .val (.int x2), .unset, .unset] [] := by first | (simp [entryFrame, mkF, argsToLocals, Value.category]; done) | rfl
set_option maxRecDepth 65536 in
set_option maxHeartbeats 40000000 in
theorem c_read0 (l : Launch) (Z : State) (a0 : Array Value) (hw : ∀ d ∈ tables_1, d.before a0 Z = true) (a : Addr) (o : Int32) (g : Nat → Int32) (h0 : Heap) (F : Jar Z h0 a .byte 8 (fun i => .int (g i))) (ho : 0 ≤ o.toInt ∧ o.toInt ≤ 3) :
    Con l Z (⟨"com/example/query_warden/querywarden/Packet", "readInt", "([BII)I"⟩ : MethodName) prog_22_method_6_code 5 (some .int) ({ frames := 0, cells := 0, slots := 0, locals := 0 } : Room) #[(.ref a), (.int o), (.int (0 : Int32))] h0 (PQ (some (.int (0 : Int32))) h0) := by
  refine Con.intro (plainFor_of_name pn_0) ?_
  intro p e s m below meth c s₁ hx hby hml hrt hlk hZ hown hnm X0 e0
  replace hown : s.vm.findClass "com/example/query_warden/querywarden/Packet" = some m.cls := hown
  refine GoOn.cast (ef_c_read0 m a o (0 : Int32)) ?_
  show GoOn p e below _ (s₁.setTop (mkF m 0 #[.val (.ref a), .val (.int o), .val (.int (0 : Int32)), .unset, .unset] []))
  refine GoOn.step (fun t₀ k₀ => XS.iconst X0.here hx rfl (hb hby d1_0) k₀) ?_
  show GoOn p e below _ (s₁.setTop (mkF m 1 #[.val (.ref a), .val (.int o), .val (.int (0 : Int32)), .unset, .unset] [(.int (0 : Int32))]))
  refine GoOn.step (fun t₀ k₀ => XS.istoreN X0.here hx rfl (hb hby d1_1) rfl (l' := #[.val (.ref a), .val (.int o), .val (.int (0 : Int32)), .val (.int (0 : Int32)), .unset]) rfl k₀) ?_
  show GoOn p e below _ (s₁.setTop (mkF m 2 #[.val (.ref a), .val (.int o), .val (.int (0 : Int32)), .val (.int (0 : Int32)), .unset] []))
  refine GoOn.step (fun t₀ k₀ => XS.iloadN X0.here hx rfl (hb hby d1_2) rfl k₀) ?_
  show GoOn p e below _ (s₁.setTop (mkF m 3 #[.val (.ref a), .val (.int o), .val (.int (0 : Int32)), .val (.int (0 : Int32)), .unset] [(.int (0 : Int32))]))
  refine GoOn.step (fun t₀ k₀ => XS.iconst X0.here hx rfl (hb hby d1_3) k₀) ?_
  show GoOn p e below _ (s₁.setTop (mkF m 4 #[.val (.ref a), .val (.int o), .val (.int (0 : Int32)), .val (.int (0 : Int32)), .unset] [(.int (1 : Int32)), (.int (0 : Int32))]))
  refine GoOn.step (fun t₀ k₀ => XS.isub X0.here hx rfl (hb hby d1_4) rfl k₀) ?_
  show GoOn p e below _ (s₁.setTop (mkF m 5 #[.val (.ref a), .val (.int o), .val (.int (0 : Int32)), .val (.int (0 : Int32)), .unset] [(.int ((0 : Int32) - (1 : Int32)))]))
  refine GoOn.step (fun t₀ k₀ => XS.istore X0.here hx rfl (hb hby d1_5) rfl (l' := #[.val (.ref a), .val (.int o), .val (.int (0 : Int32)), .val (.int (0 : Int32)), .val (.int ((0 : Int32) - (1 : Int32)))]) rfl k₀) ?_
  show GoOn p e below _ (s₁.setTop (mkF m 7 #[.val (.ref a), .val (.int o), .val (.int (0 : Int32)), .val (.int (0 : Int32)), .val (.int ((0 : Int32) - (1 : Int32)))] []))
  rw [show ((0 : Int32) - (1 : Int32)) = (-1 : Int32) from (by decide)]
  refine GoOn.step (fun t₀ k₀ => XS.iload X0.here hx rfl (hb hby d1_7) rfl k₀) ?_
  show GoOn p e below _ (s₁.setTop (mkF m 9 #[.val (.ref a), .val (.int o), .val (.int (0 : Int32)), .val (.int (0 : Int32)), .val (.int (-1 : Int32))] [(.int (-1 : Int32))]))
  have hf1 : (-1 : Int32) < (0 : Int32) := (by decide)
  refine GoOn.step (fun t₀ k₀ => XS.ifYes X0.here hx rfl (pc0 := 9) (pc' := 34) rfl (hb hby d1_9) rfl ((if0 _ _).trans (tlt hf1).1) (by decide) (by decide) k₀) ?_
  show GoOn p e below _ (s₁.setTop (mkF m 34 #[.val (.ref a), .val (.int o), .val (.int (0 : Int32)), .val (.int (0 : Int32)), .val (.int (-1 : Int32))] []))
  refine GoOn.step (fun t₀ k₀ => XS.iloadN X0.here hx rfl (hb hby d1_34) rfl k₀) ?_
  show GoOn p e below _ (s₁.setTop (mkF m 35 #[.val (.ref a), .val (.int o), .val (.int (0 : Int32)), .val (.int (0 : Int32)), .val (.int (-1 : Int32))] [(.int (0 : Int32))]))
  exact GoOn.retI X0 hx hrt hlk (hb hby d1_35) (by decide) (by decide) (by first | exact ⟨rfl, rfl, rfl⟩ | (rw [e0]; exact ⟨rfl, rfl, rfl⟩))
theorem pl1 (a : Int32) : (((0 : Int32) <<< ((8 : Int32) &&& 31)) ||| a) = (((a ||| ((0 : Int32) <<< ((8 : Int32) &&& 31))) ||| ((0 : Int32) <<< ((16 : Int32) &&& 31))) ||| ((0 : Int32) <<< ((24 : Int32) &&& 31))) := by
  apply Int32.toBitVec_inj.mp
  have z : (0 : Int32).toBitVec = 0#32 := by decide
  simp only [Int32.toBitVec_or, sh8, sh16, sh24, BitVec.shiftLeft_or_distrib, ← BitVec.shiftLeft_add, z, BitVec.zero_shiftLeft, BitVec.zero_or, BitVec.or_zero, Nat.reduceAdd]
  all_goals (try generalize d.toBitVec <<< 24 = D); (try generalize c.toBitVec <<< 16 = C); (try generalize b.toBitVec <<< 8 = B); (try generalize a.toBitVec = A); (try ac_rfl)
theorem ef_c_read1 (m : MethodId) (x0 : Addr) (x1 : Int32) (x2 : Int32) : entryFrame m #[(.ref x0), (.int x1), (.int x2)] 5 = mkF m 0 #[.val (.ref x0), .val (.int x1), .val (.int x2), .unset, .unset] [] := by first | (simp [entryFrame, mkF, argsToLocals, Value.category]; done) | rfl
set_option maxRecDepth 65536 in
set_option maxHeartbeats 40000000 in
theorem c_read1 (l : Launch) (Z : State) (a0 : Array Value) (hw : ∀ d ∈ tables_1, d.before a0 Z = true) (a : Addr) (o : Int32) (g : Nat → Int32) (h0 : Heap) (F : Jar Z h0 a .byte 8 (fun i => .int (g i))) (ho : 0 ≤ o.toInt ∧ o.toInt ≤ 3) :
    Con l Z (⟨"com/example/query_warden/querywarden/Packet", "readInt", "([BII)I"⟩ : MethodName) prog_22_method_6_code 5 (some .int) ({ frames := 0, cells := 0, slots := 0, locals := 0 } : Room) #[(.ref a), (.int o), (.int (1 : Int32))] h0 (PQ (some (.int (((0 : Int32) <<< ((8 : Int32) &&& 31)) ||| (g (o + (0 : Int32)).toNatClampNeg &&& (255 : Int32))))) h0) := by
  refine Con.intro (plainFor_of_name pn_0) ?_
  intro p e s m below meth c s₁ hx hby hml hrt hlk hZ hown hnm X0 e0
  replace hown : s.vm.findClass "com/example/query_warden/querywarden/Packet" = some m.cls := hown
  refine GoOn.cast (ef_c_read1 m a o (1 : Int32)) ?_
  show GoOn p e below _ (s₁.setTop (mkF m 0 #[.val (.ref a), .val (.int o), .val (.int (1 : Int32)), .unset, .unset] []))
  refine GoOn.step (fun t₀ k₀ => XS.iconst X0.here hx rfl (hb hby d1_0) k₀) ?_
  show GoOn p e below _ (s₁.setTop (mkF m 1 #[.val (.ref a), .val (.int o), .val (.int (1 : Int32)), .unset, .unset] [(.int (0 : Int32))]))
  refine GoOn.step (fun t₀ k₀ => XS.istoreN X0.here hx rfl (hb hby d1_1) rfl (l' := #[.val (.ref a), .val (.int o), .val (.int (1 : Int32)), .val (.int (0 : Int32)), .unset]) rfl k₀) ?_
  show GoOn p e below _ (s₁.setTop (mkF m 2 #[.val (.ref a), .val (.int o), .val (.int (1 : Int32)), .val (.int (0 : Int32)), .unset] []))
  refine GoOn.step (fun t₀ k₀ => XS.iloadN X0.here hx rfl (hb hby d1_2) rfl k₀) ?_
  show GoOn p e below _ (s₁.setTop (mkF m 3 #[.val (.ref a), .val (.int o), .val (.int (1 : Int32)), .val (.int (0 : Int32)), .unset] [(.int (1 : Int32))]))
  refine GoOn.step (fun t₀ k₀ => XS.iconst X0.here hx rfl (hb hby d1_3) k₀) ?_
  show GoOn p e below _ (s₁.setTop (mkF m 4 #[.val (.ref a), .val (.int o), .val (.int (1 : Int32)), .val (.int (0 : Int32)), .unset] [(.int (1 : Int32)), (.int (1 : Int32))]))
  refine GoOn.step (fun t₀ k₀ => XS.isub X0.here hx rfl (hb hby d1_4) rfl k₀) ?_
  show GoOn p e below _ (s₁.setTop (mkF m 5 #[.val (.ref a), .val (.int o), .val (.int (1 : Int32)), .val (.int (0 : Int32)), .unset] [(.int ((1 : Int32) - (1 : Int32)))]))
  refine GoOn.step (fun t₀ k₀ => XS.istore X0.here hx rfl (hb hby d1_5) rfl (l' := #[.val (.ref a), .val (.int o), .val (.int (1 : Int32)), .val (.int (0 : Int32)), .val (.int ((1 : Int32) - (1 : Int32)))]) rfl k₀) ?_
  show GoOn p e below _ (s₁.setTop (mkF m 7 #[.val (.ref a), .val (.int o), .val (.int (1 : Int32)), .val (.int (0 : Int32)), .val (.int ((1 : Int32) - (1 : Int32)))] []))
  rw [show ((1 : Int32) - (1 : Int32)) = (0 : Int32) from (by decide)]
  refine GoOn.step (fun t₀ k₀ => XS.iload X0.here hx rfl (hb hby d1_7) rfl k₀) ?_
  show GoOn p e below _ (s₁.setTop (mkF m 9 #[.val (.ref a), .val (.int o), .val (.int (1 : Int32)), .val (.int (0 : Int32)), .val (.int (0 : Int32))] [(.int (0 : Int32))]))
  have hf2 : ¬ ((0 : Int32) < (0 : Int32)) := (by decide)
  refine GoOn.step (fun t₀ k₀ => XS.ifNo X0.here hx rfl (hb hby d1_9) rfl ((if0 _ _).trans (flt hf2).1) k₀) ?_
  show GoOn p e below _ (s₁.setTop (mkF m 12 #[.val (.ref a), .val (.int o), .val (.int (1 : Int32)), .val (.int (0 : Int32)), .val (.int (0 : Int32))] []))
  refine GoOn.step (fun t₀ k₀ => XS.iloadN X0.here hx rfl (hb hby d1_12) rfl k₀) ?_
  show GoOn p e below _ (s₁.setTop (mkF m 13 #[.val (.ref a), .val (.int o), .val (.int (1 : Int32)), .val (.int (0 : Int32)), .val (.int (0 : Int32))] [(.int (0 : Int32))]))
  refine GoOn.step (fun t₀ k₀ => XS.bipush X0.here hx rfl (hb hby d1_13) k₀) ?_
  show GoOn p e below _ (s₁.setTop (mkF m 15 #[.val (.ref a), .val (.int o), .val (.int (1 : Int32)), .val (.int (0 : Int32)), .val (.int (0 : Int32))] [(.int (8 : Int32)), (.int (0 : Int32))]))
  refine GoOn.step (fun t₀ k₀ => XS.ishl X0.here hx rfl (hb hby d1_15) rfl k₀) ?_
  show GoOn p e below _ (s₁.setTop (mkF m 16 #[.val (.ref a), .val (.int o), .val (.int (1 : Int32)), .val (.int (0 : Int32)), .val (.int (0 : Int32))] [(.int ((0 : Int32) <<< ((8 : Int32) &&& 31)))]))
  refine GoOn.step (fun t₀ k₀ => XS.aloadN X0.here hx rfl (hb hby d1_16) rfl rfl k₀) ?_
  show GoOn p e below _ (s₁.setTop (mkF m 17 #[.val (.ref a), .val (.int o), .val (.int (1 : Int32)), .val (.int (0 : Int32)), .val (.int (0 : Int32))] [(.ref a), (.int ((0 : Int32) <<< ((8 : Int32) &&& 31)))]))
  refine GoOn.step (fun t₀ k₀ => XS.iloadN X0.here hx rfl (hb hby d1_17) rfl k₀) ?_
  show GoOn p e below _ (s₁.setTop (mkF m 18 #[.val (.ref a), .val (.int o), .val (.int (1 : Int32)), .val (.int (0 : Int32)), .val (.int (0 : Int32))] [(.int o), (.ref a), (.int ((0 : Int32) <<< ((8 : Int32) &&& 31)))]))
  refine GoOn.step (fun t₀ k₀ => XS.iload X0.here hx rfl (hb hby d1_18) rfl k₀) ?_
  show GoOn p e below _ (s₁.setTop (mkF m 20 #[.val (.ref a), .val (.int o), .val (.int (1 : Int32)), .val (.int (0 : Int32)), .val (.int (0 : Int32))] [(.int (0 : Int32)), (.int o), (.ref a), (.int ((0 : Int32) <<< ((8 : Int32) &&& 31)))]))
  refine GoOn.step (fun t₀ k₀ => XS.iadd X0.here hx rfl (hb hby d1_20) rfl k₀) ?_
  show GoOn p e below _ (s₁.setTop (mkF m 21 #[.val (.ref a), .val (.int o), .val (.int (1 : Int32)), .val (.int (0 : Int32)), .val (.int (0 : Int32))] [(.int (o + (0 : Int32))), (.ref a), (.int ((0 : Int32) <<< ((8 : Int32) &&& 31)))]))
  refine GoOn.step (fun t₀ k₀ => kLdB X0 hx hZ e0 F (j := (o + (0 : Int32))) (v := (.int (g (o + (0 : Int32)).toNatClampNeg))) (ix ho ⟨by decide, by decide⟩) rfl (g := (mkF m 21 #[.val (.ref a), .val (.int o), .val (.int (1 : Int32)), .val (.int (0 : Int32)), .val (.int (0 : Int32))] [(.int (o + (0 : Int32))), (.ref a), (.int ((0 : Int32) <<< ((8 : Int32) &&& 31)))])) rfl rfl (hb hby d1_21) t₀ k₀) ?_
  show GoOn p e below _ (s₁.setTop (mkF m 22 #[.val (.ref a), .val (.int o), .val (.int (1 : Int32)), .val (.int (0 : Int32)), .val (.int (0 : Int32))] [(.int (g (o + (0 : Int32)).toNatClampNeg)), (.int ((0 : Int32) <<< ((8 : Int32) &&& 31)))]))
  refine GoOn.step (fun t₀ k₀ => XS.sipush X0.here hx rfl (hb hby d1_22) k₀) ?_
  show GoOn p e below _ (s₁.setTop (mkF m 25 #[.val (.ref a), .val (.int o), .val (.int (1 : Int32)), .val (.int (0 : Int32)), .val (.int (0 : Int32))] [(.int (255 : Int32)), (.int (g (o + (0 : Int32)).toNatClampNeg)), (.int ((0 : Int32) <<< ((8 : Int32) &&& 31)))]))
  refine GoOn.step (fun t₀ k₀ => XS.iand X0.here hx rfl (hb hby d1_25) rfl k₀) ?_
  show GoOn p e below _ (s₁.setTop (mkF m 26 #[.val (.ref a), .val (.int o), .val (.int (1 : Int32)), .val (.int (0 : Int32)), .val (.int (0 : Int32))] [(.int ((g (o + (0 : Int32)).toNatClampNeg) &&& (255 : Int32))), (.int ((0 : Int32) <<< ((8 : Int32) &&& 31)))]))
  refine GoOn.step (fun t₀ k₀ => XS.ior X0.here hx rfl (hb hby d1_26) rfl k₀) ?_
  show GoOn p e below _ (s₁.setTop (mkF m 27 #[.val (.ref a), .val (.int o), .val (.int (1 : Int32)), .val (.int (0 : Int32)), .val (.int (0 : Int32))] [(.int (((0 : Int32) <<< ((8 : Int32) &&& 31)) ||| ((g (o + (0 : Int32)).toNatClampNeg) &&& (255 : Int32))))]))
  refine GoOn.step (fun t₀ k₀ => XS.istoreN X0.here hx rfl (hb hby d1_27) rfl (l' := #[.val (.ref a), .val (.int o), .val (.int (1 : Int32)), .val (.int (((0 : Int32) <<< ((8 : Int32) &&& 31)) ||| ((g (o + (0 : Int32)).toNatClampNeg) &&& (255 : Int32)))), .val (.int (0 : Int32))]) rfl k₀) ?_
  show GoOn p e below _ (s₁.setTop (mkF m 28 #[.val (.ref a), .val (.int o), .val (.int (1 : Int32)), .val (.int (((0 : Int32) <<< ((8 : Int32) &&& 31)) ||| ((g (o + (0 : Int32)).toNatClampNeg) &&& (255 : Int32)))), .val (.int (0 : Int32))] []))
  refine GoOn.step (fun t₀ k₀ => XS.iinc X0.here hx rfl (hb hby d1_28) rfl (l' := #[.val (.ref a), .val (.int o), .val (.int (1 : Int32)), .val (.int (((0 : Int32) <<< ((8 : Int32) &&& 31)) ||| ((g (o + (0 : Int32)).toNatClampNeg) &&& (255 : Int32)))), .val (.int ((0 : Int32) + (-1 : Int32)))]) rfl k₀) ?_
  show GoOn p e below _ (s₁.setTop (mkF m 31 #[.val (.ref a), .val (.int o), .val (.int (1 : Int32)), .val (.int (((0 : Int32) <<< ((8 : Int32) &&& 31)) ||| ((g (o + (0 : Int32)).toNatClampNeg) &&& (255 : Int32)))), .val (.int ((0 : Int32) + (-1 : Int32)))] []))
  refine GoOn.step (fun t₀ k₀ => XS.goto X0.here hx rfl (pc0 := 31) (pc' := 7) rfl (hb hby d1_31) (by decide) (by decide) k₀) ?_
  show GoOn p e below _ (s₁.setTop (mkF m 7 #[.val (.ref a), .val (.int o), .val (.int (1 : Int32)), .val (.int (((0 : Int32) <<< ((8 : Int32) &&& 31)) ||| ((g (o + (0 : Int32)).toNatClampNeg) &&& (255 : Int32)))), .val (.int ((0 : Int32) + (-1 : Int32)))] []))
  rw [show ((0 : Int32) + (-1 : Int32)) = (-1 : Int32) from (by decide)]
  refine GoOn.step (fun t₀ k₀ => XS.iload X0.here hx rfl (hb hby d1_7) rfl k₀) ?_
  show GoOn p e below _ (s₁.setTop (mkF m 9 #[.val (.ref a), .val (.int o), .val (.int (1 : Int32)), .val (.int (((0 : Int32) <<< ((8 : Int32) &&& 31)) ||| ((g (o + (0 : Int32)).toNatClampNeg) &&& (255 : Int32)))), .val (.int (-1 : Int32))] [(.int (-1 : Int32))]))
  have hf3 : (-1 : Int32) < (0 : Int32) := (by decide)
  refine GoOn.step (fun t₀ k₀ => XS.ifYes X0.here hx rfl (pc0 := 9) (pc' := 34) rfl (hb hby d1_9) rfl ((if0 _ _).trans (tlt hf3).1) (by decide) (by decide) k₀) ?_
  show GoOn p e below _ (s₁.setTop (mkF m 34 #[.val (.ref a), .val (.int o), .val (.int (1 : Int32)), .val (.int (((0 : Int32) <<< ((8 : Int32) &&& 31)) ||| ((g (o + (0 : Int32)).toNatClampNeg) &&& (255 : Int32)))), .val (.int (-1 : Int32))] []))
  refine GoOn.step (fun t₀ k₀ => XS.iloadN X0.here hx rfl (hb hby d1_34) rfl k₀) ?_
  show GoOn p e below _ (s₁.setTop (mkF m 35 #[.val (.ref a), .val (.int o), .val (.int (1 : Int32)), .val (.int (((0 : Int32) <<< ((8 : Int32) &&& 31)) ||| ((g (o + (0 : Int32)).toNatClampNeg) &&& (255 : Int32)))), .val (.int (-1 : Int32))] [(.int (((0 : Int32) <<< ((8 : Int32) &&& 31)) ||| ((g (o + (0 : Int32)).toNatClampNeg) &&& (255 : Int32))))]))
  exact GoOn.retI X0 hx hrt hlk (hb hby d1_35) (by decide) (by decide) (by first | exact ⟨rfl, rfl, rfl⟩ | (rw [e0]; exact ⟨rfl, rfl, rfl⟩))
theorem pl2 (a b : Int32) : (((((0 : Int32) <<< ((8 : Int32) &&& 31)) ||| b) <<< ((8 : Int32) &&& 31)) ||| a) = (((a ||| (b <<< ((8 : Int32) &&& 31))) ||| ((0 : Int32) <<< ((16 : Int32) &&& 31))) ||| ((0 : Int32) <<< ((24 : Int32) &&& 31))) := by
  apply Int32.toBitVec_inj.mp
  have z : (0 : Int32).toBitVec = 0#32 := by decide
  simp only [Int32.toBitVec_or, sh8, sh16, sh24, BitVec.shiftLeft_or_distrib, ← BitVec.shiftLeft_add, z, BitVec.zero_shiftLeft, BitVec.zero_or, BitVec.or_zero, Nat.reduceAdd]
  all_goals (try generalize d.toBitVec <<< 24 = D); (try generalize c.toBitVec <<< 16 = C); (try generalize b.toBitVec <<< 8 = B); (try generalize a.toBitVec = A); (try ac_rfl)
theorem ef_c_read2 (m : MethodId) (x0 : Addr) (x1 : Int32) (x2 : Int32) : entryFrame m #[(.ref x0), (.int x1), (.int x2)] 5 = mkF m 0 #[.val (.ref x0), .val (.int x1), .val (.int x2), .unset, .unset] [] := by first | (simp [entryFrame, mkF, argsToLocals, Value.category]; done) | rfl
set_option maxRecDepth 65536 in
set_option maxHeartbeats 40000000 in
theorem c_read2 (l : Launch) (Z : State) (a0 : Array Value) (hw : ∀ d ∈ tables_1, d.before a0 Z = true) (a : Addr) (o : Int32) (g : Nat → Int32) (h0 : Heap) (F : Jar Z h0 a .byte 8 (fun i => .int (g i))) (ho : 0 ≤ o.toInt ∧ o.toInt ≤ 3) :
    Con l Z (⟨"com/example/query_warden/querywarden/Packet", "readInt", "([BII)I"⟩ : MethodName) prog_22_method_6_code 5 (some .int) ({ frames := 0, cells := 0, slots := 0, locals := 0 } : Room) #[(.ref a), (.int o), (.int (2 : Int32))] h0 (PQ (some (.int (((((0 : Int32) <<< ((8 : Int32) &&& 31)) ||| (g (o + (1 : Int32)).toNatClampNeg &&& (255 : Int32))) <<< ((8 : Int32) &&& 31)) ||| (g (o + (0 : Int32)).toNatClampNeg &&& (255 : Int32))))) h0) := by
  refine Con.intro (plainFor_of_name pn_0) ?_
  intro p e s m below meth c s₁ hx hby hml hrt hlk hZ hown hnm X0 e0
  replace hown : s.vm.findClass "com/example/query_warden/querywarden/Packet" = some m.cls := hown
  refine GoOn.cast (ef_c_read2 m a o (2 : Int32)) ?_
  show GoOn p e below _ (s₁.setTop (mkF m 0 #[.val (.ref a), .val (.int o), .val (.int (2 : Int32)), .unset, .unset] []))
  refine GoOn.step (fun t₀ k₀ => XS.iconst X0.here hx rfl (hb hby d1_0) k₀) ?_
  show GoOn p e below _ (s₁.setTop (mkF m 1 #[.val (.ref a), .val (.int o), .val (.int (2 : Int32)), .unset, .unset] [(.int (0 : Int32))]))
  refine GoOn.step (fun t₀ k₀ => XS.istoreN X0.here hx rfl (hb hby d1_1) rfl (l' := #[.val (.ref a), .val (.int o), .val (.int (2 : Int32)), .val (.int (0 : Int32)), .unset]) rfl k₀) ?_
  show GoOn p e below _ (s₁.setTop (mkF m 2 #[.val (.ref a), .val (.int o), .val (.int (2 : Int32)), .val (.int (0 : Int32)), .unset] []))
  refine GoOn.step (fun t₀ k₀ => XS.iloadN X0.here hx rfl (hb hby d1_2) rfl k₀) ?_
  show GoOn p e below _ (s₁.setTop (mkF m 3 #[.val (.ref a), .val (.int o), .val (.int (2 : Int32)), .val (.int (0 : Int32)), .unset] [(.int (2 : Int32))]))
  refine GoOn.step (fun t₀ k₀ => XS.iconst X0.here hx rfl (hb hby d1_3) k₀) ?_
  show GoOn p e below _ (s₁.setTop (mkF m 4 #[.val (.ref a), .val (.int o), .val (.int (2 : Int32)), .val (.int (0 : Int32)), .unset] [(.int (1 : Int32)), (.int (2 : Int32))]))
  refine GoOn.step (fun t₀ k₀ => XS.isub X0.here hx rfl (hb hby d1_4) rfl k₀) ?_
  show GoOn p e below _ (s₁.setTop (mkF m 5 #[.val (.ref a), .val (.int o), .val (.int (2 : Int32)), .val (.int (0 : Int32)), .unset] [(.int ((2 : Int32) - (1 : Int32)))]))
  refine GoOn.step (fun t₀ k₀ => XS.istore X0.here hx rfl (hb hby d1_5) rfl (l' := #[.val (.ref a), .val (.int o), .val (.int (2 : Int32)), .val (.int (0 : Int32)), .val (.int ((2 : Int32) - (1 : Int32)))]) rfl k₀) ?_
  show GoOn p e below _ (s₁.setTop (mkF m 7 #[.val (.ref a), .val (.int o), .val (.int (2 : Int32)), .val (.int (0 : Int32)), .val (.int ((2 : Int32) - (1 : Int32)))] []))
  rw [show ((2 : Int32) - (1 : Int32)) = (1 : Int32) from (by decide)]
  refine GoOn.step (fun t₀ k₀ => XS.iload X0.here hx rfl (hb hby d1_7) rfl k₀) ?_
  show GoOn p e below _ (s₁.setTop (mkF m 9 #[.val (.ref a), .val (.int o), .val (.int (2 : Int32)), .val (.int (0 : Int32)), .val (.int (1 : Int32))] [(.int (1 : Int32))]))
  have hf4 : ¬ ((1 : Int32) < (0 : Int32)) := (by decide)
  refine GoOn.step (fun t₀ k₀ => XS.ifNo X0.here hx rfl (hb hby d1_9) rfl ((if0 _ _).trans (flt hf4).1) k₀) ?_
  show GoOn p e below _ (s₁.setTop (mkF m 12 #[.val (.ref a), .val (.int o), .val (.int (2 : Int32)), .val (.int (0 : Int32)), .val (.int (1 : Int32))] []))
  refine GoOn.step (fun t₀ k₀ => XS.iloadN X0.here hx rfl (hb hby d1_12) rfl k₀) ?_
  show GoOn p e below _ (s₁.setTop (mkF m 13 #[.val (.ref a), .val (.int o), .val (.int (2 : Int32)), .val (.int (0 : Int32)), .val (.int (1 : Int32))] [(.int (0 : Int32))]))
  refine GoOn.step (fun t₀ k₀ => XS.bipush X0.here hx rfl (hb hby d1_13) k₀) ?_
  show GoOn p e below _ (s₁.setTop (mkF m 15 #[.val (.ref a), .val (.int o), .val (.int (2 : Int32)), .val (.int (0 : Int32)), .val (.int (1 : Int32))] [(.int (8 : Int32)), (.int (0 : Int32))]))
  refine GoOn.step (fun t₀ k₀ => XS.ishl X0.here hx rfl (hb hby d1_15) rfl k₀) ?_
  show GoOn p e below _ (s₁.setTop (mkF m 16 #[.val (.ref a), .val (.int o), .val (.int (2 : Int32)), .val (.int (0 : Int32)), .val (.int (1 : Int32))] [(.int ((0 : Int32) <<< ((8 : Int32) &&& 31)))]))
  refine GoOn.step (fun t₀ k₀ => XS.aloadN X0.here hx rfl (hb hby d1_16) rfl rfl k₀) ?_
  show GoOn p e below _ (s₁.setTop (mkF m 17 #[.val (.ref a), .val (.int o), .val (.int (2 : Int32)), .val (.int (0 : Int32)), .val (.int (1 : Int32))] [(.ref a), (.int ((0 : Int32) <<< ((8 : Int32) &&& 31)))]))
  refine GoOn.step (fun t₀ k₀ => XS.iloadN X0.here hx rfl (hb hby d1_17) rfl k₀) ?_
  show GoOn p e below _ (s₁.setTop (mkF m 18 #[.val (.ref a), .val (.int o), .val (.int (2 : Int32)), .val (.int (0 : Int32)), .val (.int (1 : Int32))] [(.int o), (.ref a), (.int ((0 : Int32) <<< ((8 : Int32) &&& 31)))]))
  refine GoOn.step (fun t₀ k₀ => XS.iload X0.here hx rfl (hb hby d1_18) rfl k₀) ?_
  show GoOn p e below _ (s₁.setTop (mkF m 20 #[.val (.ref a), .val (.int o), .val (.int (2 : Int32)), .val (.int (0 : Int32)), .val (.int (1 : Int32))] [(.int (1 : Int32)), (.int o), (.ref a), (.int ((0 : Int32) <<< ((8 : Int32) &&& 31)))]))
  refine GoOn.step (fun t₀ k₀ => XS.iadd X0.here hx rfl (hb hby d1_20) rfl k₀) ?_
  show GoOn p e below _ (s₁.setTop (mkF m 21 #[.val (.ref a), .val (.int o), .val (.int (2 : Int32)), .val (.int (0 : Int32)), .val (.int (1 : Int32))] [(.int (o + (1 : Int32))), (.ref a), (.int ((0 : Int32) <<< ((8 : Int32) &&& 31)))]))
  refine GoOn.step (fun t₀ k₀ => kLdB X0 hx hZ e0 F (j := (o + (1 : Int32))) (v := (.int (g (o + (1 : Int32)).toNatClampNeg))) (ix ho ⟨by decide, by decide⟩) rfl (g := (mkF m 21 #[.val (.ref a), .val (.int o), .val (.int (2 : Int32)), .val (.int (0 : Int32)), .val (.int (1 : Int32))] [(.int (o + (1 : Int32))), (.ref a), (.int ((0 : Int32) <<< ((8 : Int32) &&& 31)))])) rfl rfl (hb hby d1_21) t₀ k₀) ?_
  show GoOn p e below _ (s₁.setTop (mkF m 22 #[.val (.ref a), .val (.int o), .val (.int (2 : Int32)), .val (.int (0 : Int32)), .val (.int (1 : Int32))] [(.int (g (o + (1 : Int32)).toNatClampNeg)), (.int ((0 : Int32) <<< ((8 : Int32) &&& 31)))]))
  refine GoOn.step (fun t₀ k₀ => XS.sipush X0.here hx rfl (hb hby d1_22) k₀) ?_
  show GoOn p e below _ (s₁.setTop (mkF m 25 #[.val (.ref a), .val (.int o), .val (.int (2 : Int32)), .val (.int (0 : Int32)), .val (.int (1 : Int32))] [(.int (255 : Int32)), (.int (g (o + (1 : Int32)).toNatClampNeg)), (.int ((0 : Int32) <<< ((8 : Int32) &&& 31)))]))
  refine GoOn.step (fun t₀ k₀ => XS.iand X0.here hx rfl (hb hby d1_25) rfl k₀) ?_
  show GoOn p e below _ (s₁.setTop (mkF m 26 #[.val (.ref a), .val (.int o), .val (.int (2 : Int32)), .val (.int (0 : Int32)), .val (.int (1 : Int32))] [(.int ((g (o + (1 : Int32)).toNatClampNeg) &&& (255 : Int32))), (.int ((0 : Int32) <<< ((8 : Int32) &&& 31)))]))
  refine GoOn.step (fun t₀ k₀ => XS.ior X0.here hx rfl (hb hby d1_26) rfl k₀) ?_
  show GoOn p e below _ (s₁.setTop (mkF m 27 #[.val (.ref a), .val (.int o), .val (.int (2 : Int32)), .val (.int (0 : Int32)), .val (.int (1 : Int32))] [(.int (((0 : Int32) <<< ((8 : Int32) &&& 31)) ||| ((g (o + (1 : Int32)).toNatClampNeg) &&& (255 : Int32))))]))
  refine GoOn.step (fun t₀ k₀ => XS.istoreN X0.here hx rfl (hb hby d1_27) rfl (l' := #[.val (.ref a), .val (.int o), .val (.int (2 : Int32)), .val (.int (((0 : Int32) <<< ((8 : Int32) &&& 31)) ||| ((g (o + (1 : Int32)).toNatClampNeg) &&& (255 : Int32)))), .val (.int (1 : Int32))]) rfl k₀) ?_
  show GoOn p e below _ (s₁.setTop (mkF m 28 #[.val (.ref a), .val (.int o), .val (.int (2 : Int32)), .val (.int (((0 : Int32) <<< ((8 : Int32) &&& 31)) ||| ((g (o + (1 : Int32)).toNatClampNeg) &&& (255 : Int32)))), .val (.int (1 : Int32))] []))
  refine GoOn.step (fun t₀ k₀ => XS.iinc X0.here hx rfl (hb hby d1_28) rfl (l' := #[.val (.ref a), .val (.int o), .val (.int (2 : Int32)), .val (.int (((0 : Int32) <<< ((8 : Int32) &&& 31)) ||| ((g (o + (1 : Int32)).toNatClampNeg) &&& (255 : Int32)))), .val (.int ((1 : Int32) + (-1 : Int32)))]) rfl k₀) ?_
  show GoOn p e below _ (s₁.setTop (mkF m 31 #[.val (.ref a), .val (.int o), .val (.int (2 : Int32)), .val (.int (((0 : Int32) <<< ((8 : Int32) &&& 31)) ||| ((g (o + (1 : Int32)).toNatClampNeg) &&& (255 : Int32)))), .val (.int ((1 : Int32) + (-1 : Int32)))] []))
  refine GoOn.step (fun t₀ k₀ => XS.goto X0.here hx rfl (pc0 := 31) (pc' := 7) rfl (hb hby d1_31) (by decide) (by decide) k₀) ?_
  show GoOn p e below _ (s₁.setTop (mkF m 7 #[.val (.ref a), .val (.int o), .val (.int (2 : Int32)), .val (.int (((0 : Int32) <<< ((8 : Int32) &&& 31)) ||| ((g (o + (1 : Int32)).toNatClampNeg) &&& (255 : Int32)))), .val (.int ((1 : Int32) + (-1 : Int32)))] []))
  rw [show ((1 : Int32) + (-1 : Int32)) = (0 : Int32) from (by decide)]
  refine GoOn.step (fun t₀ k₀ => XS.iload X0.here hx rfl (hb hby d1_7) rfl k₀) ?_
  show GoOn p e below _ (s₁.setTop (mkF m 9 #[.val (.ref a), .val (.int o), .val (.int (2 : Int32)), .val (.int (((0 : Int32) <<< ((8 : Int32) &&& 31)) ||| ((g (o + (1 : Int32)).toNatClampNeg) &&& (255 : Int32)))), .val (.int (0 : Int32))] [(.int (0 : Int32))]))
  have hf5 : ¬ ((0 : Int32) < (0 : Int32)) := (by decide)
  refine GoOn.step (fun t₀ k₀ => XS.ifNo X0.here hx rfl (hb hby d1_9) rfl ((if0 _ _).trans (flt hf5).1) k₀) ?_
  show GoOn p e below _ (s₁.setTop (mkF m 12 #[.val (.ref a), .val (.int o), .val (.int (2 : Int32)), .val (.int (((0 : Int32) <<< ((8 : Int32) &&& 31)) ||| ((g (o + (1 : Int32)).toNatClampNeg) &&& (255 : Int32)))), .val (.int (0 : Int32))] []))
  refine GoOn.step (fun t₀ k₀ => XS.iloadN X0.here hx rfl (hb hby d1_12) rfl k₀) ?_
  show GoOn p e below _ (s₁.setTop (mkF m 13 #[.val (.ref a), .val (.int o), .val (.int (2 : Int32)), .val (.int (((0 : Int32) <<< ((8 : Int32) &&& 31)) ||| ((g (o + (1 : Int32)).toNatClampNeg) &&& (255 : Int32)))), .val (.int (0 : Int32))] [(.int (((0 : Int32) <<< ((8 : Int32) &&& 31)) ||| ((g (o + (1 : Int32)).toNatClampNeg) &&& (255 : Int32))))]))
  refine GoOn.step (fun t₀ k₀ => XS.bipush X0.here hx rfl (hb hby d1_13) k₀) ?_
  show GoOn p e below _ (s₁.setTop (mkF m 15 #[.val (.ref a), .val (.int o), .val (.int (2 : Int32)), .val (.int (((0 : Int32) <<< ((8 : Int32) &&& 31)) ||| ((g (o + (1 : Int32)).toNatClampNeg) &&& (255 : Int32)))), .val (.int (0 : Int32))] [(.int (8 : Int32)), (.int (((0 : Int32) <<< ((8 : Int32) &&& 31)) ||| ((g (o + (1 : Int32)).toNatClampNeg) &&& (255 : Int32))))]))
  refine GoOn.step (fun t₀ k₀ => XS.ishl X0.here hx rfl (hb hby d1_15) rfl k₀) ?_
  show GoOn p e below _ (s₁.setTop (mkF m 16 #[.val (.ref a), .val (.int o), .val (.int (2 : Int32)), .val (.int (((0 : Int32) <<< ((8 : Int32) &&& 31)) ||| ((g (o + (1 : Int32)).toNatClampNeg) &&& (255 : Int32)))), .val (.int (0 : Int32))] [(.int ((((0 : Int32) <<< ((8 : Int32) &&& 31)) ||| ((g (o + (1 : Int32)).toNatClampNeg) &&& (255 : Int32))) <<< ((8 : Int32) &&& 31)))]))
  refine GoOn.step (fun t₀ k₀ => XS.aloadN X0.here hx rfl (hb hby d1_16) rfl rfl k₀) ?_
  show GoOn p e below _ (s₁.setTop (mkF m 17 #[.val (.ref a), .val (.int o), .val (.int (2 : Int32)), .val (.int (((0 : Int32) <<< ((8 : Int32) &&& 31)) ||| ((g (o + (1 : Int32)).toNatClampNeg) &&& (255 : Int32)))), .val (.int (0 : Int32))] [(.ref a), (.int ((((0 : Int32) <<< ((8 : Int32) &&& 31)) ||| ((g (o + (1 : Int32)).toNatClampNeg) &&& (255 : Int32))) <<< ((8 : Int32) &&& 31)))]))
  refine GoOn.step (fun t₀ k₀ => XS.iloadN X0.here hx rfl (hb hby d1_17) rfl k₀) ?_
  show GoOn p e below _ (s₁.setTop (mkF m 18 #[.val (.ref a), .val (.int o), .val (.int (2 : Int32)), .val (.int (((0 : Int32) <<< ((8 : Int32) &&& 31)) ||| ((g (o + (1 : Int32)).toNatClampNeg) &&& (255 : Int32)))), .val (.int (0 : Int32))] [(.int o), (.ref a), (.int ((((0 : Int32) <<< ((8 : Int32) &&& 31)) ||| ((g (o + (1 : Int32)).toNatClampNeg) &&& (255 : Int32))) <<< ((8 : Int32) &&& 31)))]))
  refine GoOn.step (fun t₀ k₀ => XS.iload X0.here hx rfl (hb hby d1_18) rfl k₀) ?_
  show GoOn p e below _ (s₁.setTop (mkF m 20 #[.val (.ref a), .val (.int o), .val (.int (2 : Int32)), .val (.int (((0 : Int32) <<< ((8 : Int32) &&& 31)) ||| ((g (o + (1 : Int32)).toNatClampNeg) &&& (255 : Int32)))), .val (.int (0 : Int32))] [(.int (0 : Int32)), (.int o), (.ref a), (.int ((((0 : Int32) <<< ((8 : Int32) &&& 31)) ||| ((g (o + (1 : Int32)).toNatClampNeg) &&& (255 : Int32))) <<< ((8 : Int32) &&& 31)))]))
  refine GoOn.step (fun t₀ k₀ => XS.iadd X0.here hx rfl (hb hby d1_20) rfl k₀) ?_
  show GoOn p e below _ (s₁.setTop (mkF m 21 #[.val (.ref a), .val (.int o), .val (.int (2 : Int32)), .val (.int (((0 : Int32) <<< ((8 : Int32) &&& 31)) ||| ((g (o + (1 : Int32)).toNatClampNeg) &&& (255 : Int32)))), .val (.int (0 : Int32))] [(.int (o + (0 : Int32))), (.ref a), (.int ((((0 : Int32) <<< ((8 : Int32) &&& 31)) ||| ((g (o + (1 : Int32)).toNatClampNeg) &&& (255 : Int32))) <<< ((8 : Int32) &&& 31)))]))
  refine GoOn.step (fun t₀ k₀ => kLdB X0 hx hZ e0 F (j := (o + (0 : Int32))) (v := (.int (g (o + (0 : Int32)).toNatClampNeg))) (ix ho ⟨by decide, by decide⟩) rfl (g := (mkF m 21 #[.val (.ref a), .val (.int o), .val (.int (2 : Int32)), .val (.int (((0 : Int32) <<< ((8 : Int32) &&& 31)) ||| ((g (o + (1 : Int32)).toNatClampNeg) &&& (255 : Int32)))), .val (.int (0 : Int32))] [(.int (o + (0 : Int32))), (.ref a), (.int ((((0 : Int32) <<< ((8 : Int32) &&& 31)) ||| ((g (o + (1 : Int32)).toNatClampNeg) &&& (255 : Int32))) <<< ((8 : Int32) &&& 31)))])) rfl rfl (hb hby d1_21) t₀ k₀) ?_
  show GoOn p e below _ (s₁.setTop (mkF m 22 #[.val (.ref a), .val (.int o), .val (.int (2 : Int32)), .val (.int (((0 : Int32) <<< ((8 : Int32) &&& 31)) ||| ((g (o + (1 : Int32)).toNatClampNeg) &&& (255 : Int32)))), .val (.int (0 : Int32))] [(.int (g (o + (0 : Int32)).toNatClampNeg)), (.int ((((0 : Int32) <<< ((8 : Int32) &&& 31)) ||| ((g (o + (1 : Int32)).toNatClampNeg) &&& (255 : Int32))) <<< ((8 : Int32) &&& 31)))]))
  refine GoOn.step (fun t₀ k₀ => XS.sipush X0.here hx rfl (hb hby d1_22) k₀) ?_
  show GoOn p e below _ (s₁.setTop (mkF m 25 #[.val (.ref a), .val (.int o), .val (.int (2 : Int32)), .val (.int (((0 : Int32) <<< ((8 : Int32) &&& 31)) ||| ((g (o + (1 : Int32)).toNatClampNeg) &&& (255 : Int32)))), .val (.int (0 : Int32))] [(.int (255 : Int32)), (.int (g (o + (0 : Int32)).toNatClampNeg)), (.int ((((0 : Int32) <<< ((8 : Int32) &&& 31)) ||| ((g (o + (1 : Int32)).toNatClampNeg) &&& (255 : Int32))) <<< ((8 : Int32) &&& 31)))]))
  refine GoOn.step (fun t₀ k₀ => XS.iand X0.here hx rfl (hb hby d1_25) rfl k₀) ?_
  show GoOn p e below _ (s₁.setTop (mkF m 26 #[.val (.ref a), .val (.int o), .val (.int (2 : Int32)), .val (.int (((0 : Int32) <<< ((8 : Int32) &&& 31)) ||| ((g (o + (1 : Int32)).toNatClampNeg) &&& (255 : Int32)))), .val (.int (0 : Int32))] [(.int ((g (o + (0 : Int32)).toNatClampNeg) &&& (255 : Int32))), (.int ((((0 : Int32) <<< ((8 : Int32) &&& 31)) ||| ((g (o + (1 : Int32)).toNatClampNeg) &&& (255 : Int32))) <<< ((8 : Int32) &&& 31)))]))
  refine GoOn.step (fun t₀ k₀ => XS.ior X0.here hx rfl (hb hby d1_26) rfl k₀) ?_
  show GoOn p e below _ (s₁.setTop (mkF m 27 #[.val (.ref a), .val (.int o), .val (.int (2 : Int32)), .val (.int (((0 : Int32) <<< ((8 : Int32) &&& 31)) ||| ((g (o + (1 : Int32)).toNatClampNeg) &&& (255 : Int32)))), .val (.int (0 : Int32))] [(.int (((((0 : Int32) <<< ((8 : Int32) &&& 31)) ||| ((g (o + (1 : Int32)).toNatClampNeg) &&& (255 : Int32))) <<< ((8 : Int32) &&& 31)) ||| ((g (o + (0 : Int32)).toNatClampNeg) &&& (255 : Int32))))]))
  refine GoOn.step (fun t₀ k₀ => XS.istoreN X0.here hx rfl (hb hby d1_27) rfl (l' := #[.val (.ref a), .val (.int o), .val (.int (2 : Int32)), .val (.int (((((0 : Int32) <<< ((8 : Int32) &&& 31)) ||| ((g (o + (1 : Int32)).toNatClampNeg) &&& (255 : Int32))) <<< ((8 : Int32) &&& 31)) ||| ((g (o + (0 : Int32)).toNatClampNeg) &&& (255 : Int32)))), .val (.int (0 : Int32))]) rfl k₀) ?_
  show GoOn p e below _ (s₁.setTop (mkF m 28 #[.val (.ref a), .val (.int o), .val (.int (2 : Int32)), .val (.int (((((0 : Int32) <<< ((8 : Int32) &&& 31)) ||| ((g (o + (1 : Int32)).toNatClampNeg) &&& (255 : Int32))) <<< ((8 : Int32) &&& 31)) ||| ((g (o + (0 : Int32)).toNatClampNeg) &&& (255 : Int32)))), .val (.int (0 : Int32))] []))
  refine GoOn.step (fun t₀ k₀ => XS.iinc X0.here hx rfl (hb hby d1_28) rfl (l' := #[.val (.ref a), .val (.int o), .val (.int (2 : Int32)), .val (.int (((((0 : Int32) <<< ((8 : Int32) &&& 31)) ||| ((g (o + (1 : Int32)).toNatClampNeg) &&& (255 : Int32))) <<< ((8 : Int32) &&& 31)) ||| ((g (o + (0 : Int32)).toNatClampNeg) &&& (255 : Int32)))), .val (.int ((0 : Int32) + (-1 : Int32)))]) rfl k₀) ?_
  show GoOn p e below _ (s₁.setTop (mkF m 31 #[.val (.ref a), .val (.int o), .val (.int (2 : Int32)), .val (.int (((((0 : Int32) <<< ((8 : Int32) &&& 31)) ||| ((g (o + (1 : Int32)).toNatClampNeg) &&& (255 : Int32))) <<< ((8 : Int32) &&& 31)) ||| ((g (o + (0 : Int32)).toNatClampNeg) &&& (255 : Int32)))), .val (.int ((0 : Int32) + (-1 : Int32)))] []))
  refine GoOn.step (fun t₀ k₀ => XS.goto X0.here hx rfl (pc0 := 31) (pc' := 7) rfl (hb hby d1_31) (by decide) (by decide) k₀) ?_
  show GoOn p e below _ (s₁.setTop (mkF m 7 #[.val (.ref a), .val (.int o), .val (.int (2 : Int32)), .val (.int (((((0 : Int32) <<< ((8 : Int32) &&& 31)) ||| ((g (o + (1 : Int32)).toNatClampNeg) &&& (255 : Int32))) <<< ((8 : Int32) &&& 31)) ||| ((g (o + (0 : Int32)).toNatClampNeg) &&& (255 : Int32)))), .val (.int ((0 : Int32) + (-1 : Int32)))] []))
  rw [show ((0 : Int32) + (-1 : Int32)) = (-1 : Int32) from (by decide)]
  refine GoOn.step (fun t₀ k₀ => XS.iload X0.here hx rfl (hb hby d1_7) rfl k₀) ?_
  show GoOn p e below _ (s₁.setTop (mkF m 9 #[.val (.ref a), .val (.int o), .val (.int (2 : Int32)), .val (.int (((((0 : Int32) <<< ((8 : Int32) &&& 31)) ||| ((g (o + (1 : Int32)).toNatClampNeg) &&& (255 : Int32))) <<< ((8 : Int32) &&& 31)) ||| ((g (o + (0 : Int32)).toNatClampNeg) &&& (255 : Int32)))), .val (.int (-1 : Int32))] [(.int (-1 : Int32))]))
  have hf6 : (-1 : Int32) < (0 : Int32) := (by decide)
  refine GoOn.step (fun t₀ k₀ => XS.ifYes X0.here hx rfl (pc0 := 9) (pc' := 34) rfl (hb hby d1_9) rfl ((if0 _ _).trans (tlt hf6).1) (by decide) (by decide) k₀) ?_
  show GoOn p e below _ (s₁.setTop (mkF m 34 #[.val (.ref a), .val (.int o), .val (.int (2 : Int32)), .val (.int (((((0 : Int32) <<< ((8 : Int32) &&& 31)) ||| ((g (o + (1 : Int32)).toNatClampNeg) &&& (255 : Int32))) <<< ((8 : Int32) &&& 31)) ||| ((g (o + (0 : Int32)).toNatClampNeg) &&& (255 : Int32)))), .val (.int (-1 : Int32))] []))
  refine GoOn.step (fun t₀ k₀ => XS.iloadN X0.here hx rfl (hb hby d1_34) rfl k₀) ?_
  show GoOn p e below _ (s₁.setTop (mkF m 35 #[.val (.ref a), .val (.int o), .val (.int (2 : Int32)), .val (.int (((((0 : Int32) <<< ((8 : Int32) &&& 31)) ||| ((g (o + (1 : Int32)).toNatClampNeg) &&& (255 : Int32))) <<< ((8 : Int32) &&& 31)) ||| ((g (o + (0 : Int32)).toNatClampNeg) &&& (255 : Int32)))), .val (.int (-1 : Int32))] [(.int (((((0 : Int32) <<< ((8 : Int32) &&& 31)) ||| ((g (o + (1 : Int32)).toNatClampNeg) &&& (255 : Int32))) <<< ((8 : Int32) &&& 31)) ||| ((g (o + (0 : Int32)).toNatClampNeg) &&& (255 : Int32))))]))
  exact GoOn.retI X0 hx hrt hlk (hb hby d1_35) (by decide) (by decide) (by first | exact ⟨rfl, rfl, rfl⟩ | (rw [e0]; exact ⟨rfl, rfl, rfl⟩))
theorem pl3 (a b c : Int32) : (((((((0 : Int32) <<< ((8 : Int32) &&& 31)) ||| c) <<< ((8 : Int32) &&& 31)) ||| b) <<< ((8 : Int32) &&& 31)) ||| a) = (((a ||| (b <<< ((8 : Int32) &&& 31))) ||| (c <<< ((16 : Int32) &&& 31))) ||| ((0 : Int32) <<< ((24 : Int32) &&& 31))) := by
  apply Int32.toBitVec_inj.mp
  have z : (0 : Int32).toBitVec = 0#32 := by decide
  simp only [Int32.toBitVec_or, sh8, sh16, sh24, BitVec.shiftLeft_or_distrib, ← BitVec.shiftLeft_add, z, BitVec.zero_shiftLeft, BitVec.zero_or, BitVec.or_zero, Nat.reduceAdd]
  all_goals (try generalize d.toBitVec <<< 24 = D); (try generalize c.toBitVec <<< 16 = C); (try generalize b.toBitVec <<< 8 = B); (try generalize a.toBitVec = A); (try ac_rfl)
theorem ef_c_read3 (m : MethodId) (x0 : Addr) (x1 : Int32) (x2 : Int32) : entryFrame m #[(.ref x0), (.int x1), (.int x2)] 5 = mkF m 0 #[.val (.ref x0), .val (.int x1), .val (.int x2), .unset, .unset] [] := by first | (simp [entryFrame, mkF, argsToLocals, Value.category]; done) | rfl
set_option maxRecDepth 65536 in
set_option maxHeartbeats 40000000 in
theorem c_read3 (l : Launch) (Z : State) (a0 : Array Value) (hw : ∀ d ∈ tables_1, d.before a0 Z = true) (a : Addr) (o : Int32) (g : Nat → Int32) (h0 : Heap) (F : Jar Z h0 a .byte 8 (fun i => .int (g i))) (ho : 0 ≤ o.toInt ∧ o.toInt ≤ 3) :
    Con l Z (⟨"com/example/query_warden/querywarden/Packet", "readInt", "([BII)I"⟩ : MethodName) prog_22_method_6_code 5 (some .int) ({ frames := 0, cells := 0, slots := 0, locals := 0 } : Room) #[(.ref a), (.int o), (.int (3 : Int32))] h0 (PQ (some (.int (((((((0 : Int32) <<< ((8 : Int32) &&& 31)) ||| (g (o + (2 : Int32)).toNatClampNeg &&& (255 : Int32))) <<< ((8 : Int32) &&& 31)) ||| (g (o + (1 : Int32)).toNatClampNeg &&& (255 : Int32))) <<< ((8 : Int32) &&& 31)) ||| (g (o + (0 : Int32)).toNatClampNeg &&& (255 : Int32))))) h0) := by
  refine Con.intro (plainFor_of_name pn_0) ?_
  intro p e s m below meth c s₁ hx hby hml hrt hlk hZ hown hnm X0 e0
  replace hown : s.vm.findClass "com/example/query_warden/querywarden/Packet" = some m.cls := hown
  refine GoOn.cast (ef_c_read3 m a o (3 : Int32)) ?_
  show GoOn p e below _ (s₁.setTop (mkF m 0 #[.val (.ref a), .val (.int o), .val (.int (3 : Int32)), .unset, .unset] []))
  refine GoOn.step (fun t₀ k₀ => XS.iconst X0.here hx rfl (hb hby d1_0) k₀) ?_
  show GoOn p e below _ (s₁.setTop (mkF m 1 #[.val (.ref a), .val (.int o), .val (.int (3 : Int32)), .unset, .unset] [(.int (0 : Int32))]))
  refine GoOn.step (fun t₀ k₀ => XS.istoreN X0.here hx rfl (hb hby d1_1) rfl (l' := #[.val (.ref a), .val (.int o), .val (.int (3 : Int32)), .val (.int (0 : Int32)), .unset]) rfl k₀) ?_
  show GoOn p e below _ (s₁.setTop (mkF m 2 #[.val (.ref a), .val (.int o), .val (.int (3 : Int32)), .val (.int (0 : Int32)), .unset] []))
  refine GoOn.step (fun t₀ k₀ => XS.iloadN X0.here hx rfl (hb hby d1_2) rfl k₀) ?_
  show GoOn p e below _ (s₁.setTop (mkF m 3 #[.val (.ref a), .val (.int o), .val (.int (3 : Int32)), .val (.int (0 : Int32)), .unset] [(.int (3 : Int32))]))
  refine GoOn.step (fun t₀ k₀ => XS.iconst X0.here hx rfl (hb hby d1_3) k₀) ?_
  show GoOn p e below _ (s₁.setTop (mkF m 4 #[.val (.ref a), .val (.int o), .val (.int (3 : Int32)), .val (.int (0 : Int32)), .unset] [(.int (1 : Int32)), (.int (3 : Int32))]))
  refine GoOn.step (fun t₀ k₀ => XS.isub X0.here hx rfl (hb hby d1_4) rfl k₀) ?_
  show GoOn p e below _ (s₁.setTop (mkF m 5 #[.val (.ref a), .val (.int o), .val (.int (3 : Int32)), .val (.int (0 : Int32)), .unset] [(.int ((3 : Int32) - (1 : Int32)))]))
  refine GoOn.step (fun t₀ k₀ => XS.istore X0.here hx rfl (hb hby d1_5) rfl (l' := #[.val (.ref a), .val (.int o), .val (.int (3 : Int32)), .val (.int (0 : Int32)), .val (.int ((3 : Int32) - (1 : Int32)))]) rfl k₀) ?_
  show GoOn p e below _ (s₁.setTop (mkF m 7 #[.val (.ref a), .val (.int o), .val (.int (3 : Int32)), .val (.int (0 : Int32)), .val (.int ((3 : Int32) - (1 : Int32)))] []))
  rw [show ((3 : Int32) - (1 : Int32)) = (2 : Int32) from (by decide)]
  refine GoOn.step (fun t₀ k₀ => XS.iload X0.here hx rfl (hb hby d1_7) rfl k₀) ?_
  show GoOn p e below _ (s₁.setTop (mkF m 9 #[.val (.ref a), .val (.int o), .val (.int (3 : Int32)), .val (.int (0 : Int32)), .val (.int (2 : Int32))] [(.int (2 : Int32))]))
  have hf7 : ¬ ((2 : Int32) < (0 : Int32)) := (by decide)
  refine GoOn.step (fun t₀ k₀ => XS.ifNo X0.here hx rfl (hb hby d1_9) rfl ((if0 _ _).trans (flt hf7).1) k₀) ?_
  show GoOn p e below _ (s₁.setTop (mkF m 12 #[.val (.ref a), .val (.int o), .val (.int (3 : Int32)), .val (.int (0 : Int32)), .val (.int (2 : Int32))] []))
  refine GoOn.step (fun t₀ k₀ => XS.iloadN X0.here hx rfl (hb hby d1_12) rfl k₀) ?_
  show GoOn p e below _ (s₁.setTop (mkF m 13 #[.val (.ref a), .val (.int o), .val (.int (3 : Int32)), .val (.int (0 : Int32)), .val (.int (2 : Int32))] [(.int (0 : Int32))]))
  refine GoOn.step (fun t₀ k₀ => XS.bipush X0.here hx rfl (hb hby d1_13) k₀) ?_
  show GoOn p e below _ (s₁.setTop (mkF m 15 #[.val (.ref a), .val (.int o), .val (.int (3 : Int32)), .val (.int (0 : Int32)), .val (.int (2 : Int32))] [(.int (8 : Int32)), (.int (0 : Int32))]))
  refine GoOn.step (fun t₀ k₀ => XS.ishl X0.here hx rfl (hb hby d1_15) rfl k₀) ?_
  show GoOn p e below _ (s₁.setTop (mkF m 16 #[.val (.ref a), .val (.int o), .val (.int (3 : Int32)), .val (.int (0 : Int32)), .val (.int (2 : Int32))] [(.int ((0 : Int32) <<< ((8 : Int32) &&& 31)))]))
  refine GoOn.step (fun t₀ k₀ => XS.aloadN X0.here hx rfl (hb hby d1_16) rfl rfl k₀) ?_
  show GoOn p e below _ (s₁.setTop (mkF m 17 #[.val (.ref a), .val (.int o), .val (.int (3 : Int32)), .val (.int (0 : Int32)), .val (.int (2 : Int32))] [(.ref a), (.int ((0 : Int32) <<< ((8 : Int32) &&& 31)))]))
  refine GoOn.step (fun t₀ k₀ => XS.iloadN X0.here hx rfl (hb hby d1_17) rfl k₀) ?_
  show GoOn p e below _ (s₁.setTop (mkF m 18 #[.val (.ref a), .val (.int o), .val (.int (3 : Int32)), .val (.int (0 : Int32)), .val (.int (2 : Int32))] [(.int o), (.ref a), (.int ((0 : Int32) <<< ((8 : Int32) &&& 31)))]))
  refine GoOn.step (fun t₀ k₀ => XS.iload X0.here hx rfl (hb hby d1_18) rfl k₀) ?_
  show GoOn p e below _ (s₁.setTop (mkF m 20 #[.val (.ref a), .val (.int o), .val (.int (3 : Int32)), .val (.int (0 : Int32)), .val (.int (2 : Int32))] [(.int (2 : Int32)), (.int o), (.ref a), (.int ((0 : Int32) <<< ((8 : Int32) &&& 31)))]))
  refine GoOn.step (fun t₀ k₀ => XS.iadd X0.here hx rfl (hb hby d1_20) rfl k₀) ?_
  show GoOn p e below _ (s₁.setTop (mkF m 21 #[.val (.ref a), .val (.int o), .val (.int (3 : Int32)), .val (.int (0 : Int32)), .val (.int (2 : Int32))] [(.int (o + (2 : Int32))), (.ref a), (.int ((0 : Int32) <<< ((8 : Int32) &&& 31)))]))
  refine GoOn.step (fun t₀ k₀ => kLdB X0 hx hZ e0 F (j := (o + (2 : Int32))) (v := (.int (g (o + (2 : Int32)).toNatClampNeg))) (ix ho ⟨by decide, by decide⟩) rfl (g := (mkF m 21 #[.val (.ref a), .val (.int o), .val (.int (3 : Int32)), .val (.int (0 : Int32)), .val (.int (2 : Int32))] [(.int (o + (2 : Int32))), (.ref a), (.int ((0 : Int32) <<< ((8 : Int32) &&& 31)))])) rfl rfl (hb hby d1_21) t₀ k₀) ?_
  show GoOn p e below _ (s₁.setTop (mkF m 22 #[.val (.ref a), .val (.int o), .val (.int (3 : Int32)), .val (.int (0 : Int32)), .val (.int (2 : Int32))] [(.int (g (o + (2 : Int32)).toNatClampNeg)), (.int ((0 : Int32) <<< ((8 : Int32) &&& 31)))]))
  refine GoOn.step (fun t₀ k₀ => XS.sipush X0.here hx rfl (hb hby d1_22) k₀) ?_
  show GoOn p e below _ (s₁.setTop (mkF m 25 #[.val (.ref a), .val (.int o), .val (.int (3 : Int32)), .val (.int (0 : Int32)), .val (.int (2 : Int32))] [(.int (255 : Int32)), (.int (g (o + (2 : Int32)).toNatClampNeg)), (.int ((0 : Int32) <<< ((8 : Int32) &&& 31)))]))
  refine GoOn.step (fun t₀ k₀ => XS.iand X0.here hx rfl (hb hby d1_25) rfl k₀) ?_
  show GoOn p e below _ (s₁.setTop (mkF m 26 #[.val (.ref a), .val (.int o), .val (.int (3 : Int32)), .val (.int (0 : Int32)), .val (.int (2 : Int32))] [(.int ((g (o + (2 : Int32)).toNatClampNeg) &&& (255 : Int32))), (.int ((0 : Int32) <<< ((8 : Int32) &&& 31)))]))
  refine GoOn.step (fun t₀ k₀ => XS.ior X0.here hx rfl (hb hby d1_26) rfl k₀) ?_
  show GoOn p e below _ (s₁.setTop (mkF m 27 #[.val (.ref a), .val (.int o), .val (.int (3 : Int32)), .val (.int (0 : Int32)), .val (.int (2 : Int32))] [(.int (((0 : Int32) <<< ((8 : Int32) &&& 31)) ||| ((g (o + (2 : Int32)).toNatClampNeg) &&& (255 : Int32))))]))
  refine GoOn.step (fun t₀ k₀ => XS.istoreN X0.here hx rfl (hb hby d1_27) rfl (l' := #[.val (.ref a), .val (.int o), .val (.int (3 : Int32)), .val (.int (((0 : Int32) <<< ((8 : Int32) &&& 31)) ||| ((g (o + (2 : Int32)).toNatClampNeg) &&& (255 : Int32)))), .val (.int (2 : Int32))]) rfl k₀) ?_
  show GoOn p e below _ (s₁.setTop (mkF m 28 #[.val (.ref a), .val (.int o), .val (.int (3 : Int32)), .val (.int (((0 : Int32) <<< ((8 : Int32) &&& 31)) ||| ((g (o + (2 : Int32)).toNatClampNeg) &&& (255 : Int32)))), .val (.int (2 : Int32))] []))
  refine GoOn.step (fun t₀ k₀ => XS.iinc X0.here hx rfl (hb hby d1_28) rfl (l' := #[.val (.ref a), .val (.int o), .val (.int (3 : Int32)), .val (.int (((0 : Int32) <<< ((8 : Int32) &&& 31)) ||| ((g (o + (2 : Int32)).toNatClampNeg) &&& (255 : Int32)))), .val (.int ((2 : Int32) + (-1 : Int32)))]) rfl k₀) ?_
  show GoOn p e below _ (s₁.setTop (mkF m 31 #[.val (.ref a), .val (.int o), .val (.int (3 : Int32)), .val (.int (((0 : Int32) <<< ((8 : Int32) &&& 31)) ||| ((g (o + (2 : Int32)).toNatClampNeg) &&& (255 : Int32)))), .val (.int ((2 : Int32) + (-1 : Int32)))] []))
  refine GoOn.step (fun t₀ k₀ => XS.goto X0.here hx rfl (pc0 := 31) (pc' := 7) rfl (hb hby d1_31) (by decide) (by decide) k₀) ?_
  show GoOn p e below _ (s₁.setTop (mkF m 7 #[.val (.ref a), .val (.int o), .val (.int (3 : Int32)), .val (.int (((0 : Int32) <<< ((8 : Int32) &&& 31)) ||| ((g (o + (2 : Int32)).toNatClampNeg) &&& (255 : Int32)))), .val (.int ((2 : Int32) + (-1 : Int32)))] []))
  rw [show ((2 : Int32) + (-1 : Int32)) = (1 : Int32) from (by decide)]
  refine GoOn.step (fun t₀ k₀ => XS.iload X0.here hx rfl (hb hby d1_7) rfl k₀) ?_
  show GoOn p e below _ (s₁.setTop (mkF m 9 #[.val (.ref a), .val (.int o), .val (.int (3 : Int32)), .val (.int (((0 : Int32) <<< ((8 : Int32) &&& 31)) ||| ((g (o + (2 : Int32)).toNatClampNeg) &&& (255 : Int32)))), .val (.int (1 : Int32))] [(.int (1 : Int32))]))
  have hf8 : ¬ ((1 : Int32) < (0 : Int32)) := (by decide)
  refine GoOn.step (fun t₀ k₀ => XS.ifNo X0.here hx rfl (hb hby d1_9) rfl ((if0 _ _).trans (flt hf8).1) k₀) ?_
  show GoOn p e below _ (s₁.setTop (mkF m 12 #[.val (.ref a), .val (.int o), .val (.int (3 : Int32)), .val (.int (((0 : Int32) <<< ((8 : Int32) &&& 31)) ||| ((g (o + (2 : Int32)).toNatClampNeg) &&& (255 : Int32)))), .val (.int (1 : Int32))] []))
  refine GoOn.step (fun t₀ k₀ => XS.iloadN X0.here hx rfl (hb hby d1_12) rfl k₀) ?_
  show GoOn p e below _ (s₁.setTop (mkF m 13 #[.val (.ref a), .val (.int o), .val (.int (3 : Int32)), .val (.int (((0 : Int32) <<< ((8 : Int32) &&& 31)) ||| ((g (o + (2 : Int32)).toNatClampNeg) &&& (255 : Int32)))), .val (.int (1 : Int32))] [(.int (((0 : Int32) <<< ((8 : Int32) &&& 31)) ||| ((g (o + (2 : Int32)).toNatClampNeg) &&& (255 : Int32))))]))
  refine GoOn.step (fun t₀ k₀ => XS.bipush X0.here hx rfl (hb hby d1_13) k₀) ?_
  show GoOn p e below _ (s₁.setTop (mkF m 15 #[.val (.ref a), .val (.int o), .val (.int (3 : Int32)), .val (.int (((0 : Int32) <<< ((8 : Int32) &&& 31)) ||| ((g (o + (2 : Int32)).toNatClampNeg) &&& (255 : Int32)))), .val (.int (1 : Int32))] [(.int (8 : Int32)), (.int (((0 : Int32) <<< ((8 : Int32) &&& 31)) ||| ((g (o + (2 : Int32)).toNatClampNeg) &&& (255 : Int32))))]))
  refine GoOn.step (fun t₀ k₀ => XS.ishl X0.here hx rfl (hb hby d1_15) rfl k₀) ?_
  show GoOn p e below _ (s₁.setTop (mkF m 16 #[.val (.ref a), .val (.int o), .val (.int (3 : Int32)), .val (.int (((0 : Int32) <<< ((8 : Int32) &&& 31)) ||| ((g (o + (2 : Int32)).toNatClampNeg) &&& (255 : Int32)))), .val (.int (1 : Int32))] [(.int ((((0 : Int32) <<< ((8 : Int32) &&& 31)) ||| ((g (o + (2 : Int32)).toNatClampNeg) &&& (255 : Int32))) <<< ((8 : Int32) &&& 31)))]))
  refine GoOn.step (fun t₀ k₀ => XS.aloadN X0.here hx rfl (hb hby d1_16) rfl rfl k₀) ?_
  show GoOn p e below _ (s₁.setTop (mkF m 17 #[.val (.ref a), .val (.int o), .val (.int (3 : Int32)), .val (.int (((0 : Int32) <<< ((8 : Int32) &&& 31)) ||| ((g (o + (2 : Int32)).toNatClampNeg) &&& (255 : Int32)))), .val (.int (1 : Int32))] [(.ref a), (.int ((((0 : Int32) <<< ((8 : Int32) &&& 31)) ||| ((g (o + (2 : Int32)).toNatClampNeg) &&& (255 : Int32))) <<< ((8 : Int32) &&& 31)))]))
  refine GoOn.step (fun t₀ k₀ => XS.iloadN X0.here hx rfl (hb hby d1_17) rfl k₀) ?_
  show GoOn p e below _ (s₁.setTop (mkF m 18 #[.val (.ref a), .val (.int o), .val (.int (3 : Int32)), .val (.int (((0 : Int32) <<< ((8 : Int32) &&& 31)) ||| ((g (o + (2 : Int32)).toNatClampNeg) &&& (255 : Int32)))), .val (.int (1 : Int32))] [(.int o), (.ref a), (.int ((((0 : Int32) <<< ((8 : Int32) &&& 31)) ||| ((g (o + (2 : Int32)).toNatClampNeg) &&& (255 : Int32))) <<< ((8 : Int32) &&& 31)))]))
  refine GoOn.step (fun t₀ k₀ => XS.iload X0.here hx rfl (hb hby d1_18) rfl k₀) ?_
  show GoOn p e below _ (s₁.setTop (mkF m 20 #[.val (.ref a), .val (.int o), .val (.int (3 : Int32)), .val (.int (((0 : Int32) <<< ((8 : Int32) &&& 31)) ||| ((g (o + (2 : Int32)).toNatClampNeg) &&& (255 : Int32)))), .val (.int (1 : Int32))] [(.int (1 : Int32)), (.int o), (.ref a), (.int ((((0 : Int32) <<< ((8 : Int32) &&& 31)) ||| ((g (o + (2 : Int32)).toNatClampNeg) &&& (255 : Int32))) <<< ((8 : Int32) &&& 31)))]))
  refine GoOn.step (fun t₀ k₀ => XS.iadd X0.here hx rfl (hb hby d1_20) rfl k₀) ?_
  show GoOn p e below _ (s₁.setTop (mkF m 21 #[.val (.ref a), .val (.int o), .val (.int (3 : Int32)), .val (.int (((0 : Int32) <<< ((8 : Int32) &&& 31)) ||| ((g (o + (2 : Int32)).toNatClampNeg) &&& (255 : Int32)))), .val (.int (1 : Int32))] [(.int (o + (1 : Int32))), (.ref a), (.int ((((0 : Int32) <<< ((8 : Int32) &&& 31)) ||| ((g (o + (2 : Int32)).toNatClampNeg) &&& (255 : Int32))) <<< ((8 : Int32) &&& 31)))]))
  refine GoOn.step (fun t₀ k₀ => kLdB X0 hx hZ e0 F (j := (o + (1 : Int32))) (v := (.int (g (o + (1 : Int32)).toNatClampNeg))) (ix ho ⟨by decide, by decide⟩) rfl (g := (mkF m 21 #[.val (.ref a), .val (.int o), .val (.int (3 : Int32)), .val (.int (((0 : Int32) <<< ((8 : Int32) &&& 31)) ||| ((g (o + (2 : Int32)).toNatClampNeg) &&& (255 : Int32)))), .val (.int (1 : Int32))] [(.int (o + (1 : Int32))), (.ref a), (.int ((((0 : Int32) <<< ((8 : Int32) &&& 31)) ||| ((g (o + (2 : Int32)).toNatClampNeg) &&& (255 : Int32))) <<< ((8 : Int32) &&& 31)))])) rfl rfl (hb hby d1_21) t₀ k₀) ?_
  show GoOn p e below _ (s₁.setTop (mkF m 22 #[.val (.ref a), .val (.int o), .val (.int (3 : Int32)), .val (.int (((0 : Int32) <<< ((8 : Int32) &&& 31)) ||| ((g (o + (2 : Int32)).toNatClampNeg) &&& (255 : Int32)))), .val (.int (1 : Int32))] [(.int (g (o + (1 : Int32)).toNatClampNeg)), (.int ((((0 : Int32) <<< ((8 : Int32) &&& 31)) ||| ((g (o + (2 : Int32)).toNatClampNeg) &&& (255 : Int32))) <<< ((8 : Int32) &&& 31)))]))
  refine GoOn.step (fun t₀ k₀ => XS.sipush X0.here hx rfl (hb hby d1_22) k₀) ?_
  show GoOn p e below _ (s₁.setTop (mkF m 25 #[.val (.ref a), .val (.int o), .val (.int (3 : Int32)), .val (.int (((0 : Int32) <<< ((8 : Int32) &&& 31)) ||| ((g (o + (2 : Int32)).toNatClampNeg) &&& (255 : Int32)))), .val (.int (1 : Int32))] [(.int (255 : Int32)), (.int (g (o + (1 : Int32)).toNatClampNeg)), (.int ((((0 : Int32) <<< ((8 : Int32) &&& 31)) ||| ((g (o + (2 : Int32)).toNatClampNeg) &&& (255 : Int32))) <<< ((8 : Int32) &&& 31)))]))
  refine GoOn.step (fun t₀ k₀ => XS.iand X0.here hx rfl (hb hby d1_25) rfl k₀) ?_
  show GoOn p e below _ (s₁.setTop (mkF m 26 #[.val (.ref a), .val (.int o), .val (.int (3 : Int32)), .val (.int (((0 : Int32) <<< ((8 : Int32) &&& 31)) ||| ((g (o + (2 : Int32)).toNatClampNeg) &&& (255 : Int32)))), .val (.int (1 : Int32))] [(.int ((g (o + (1 : Int32)).toNatClampNeg) &&& (255 : Int32))), (.int ((((0 : Int32) <<< ((8 : Int32) &&& 31)) ||| ((g (o + (2 : Int32)).toNatClampNeg) &&& (255 : Int32))) <<< ((8 : Int32) &&& 31)))]))
  refine GoOn.step (fun t₀ k₀ => XS.ior X0.here hx rfl (hb hby d1_26) rfl k₀) ?_
  show GoOn p e below _ (s₁.setTop (mkF m 27 #[.val (.ref a), .val (.int o), .val (.int (3 : Int32)), .val (.int (((0 : Int32) <<< ((8 : Int32) &&& 31)) ||| ((g (o + (2 : Int32)).toNatClampNeg) &&& (255 : Int32)))), .val (.int (1 : Int32))] [(.int (((((0 : Int32) <<< ((8 : Int32) &&& 31)) ||| ((g (o + (2 : Int32)).toNatClampNeg) &&& (255 : Int32))) <<< ((8 : Int32) &&& 31)) ||| ((g (o + (1 : Int32)).toNatClampNeg) &&& (255 : Int32))))]))
  refine GoOn.step (fun t₀ k₀ => XS.istoreN X0.here hx rfl (hb hby d1_27) rfl (l' := #[.val (.ref a), .val (.int o), .val (.int (3 : Int32)), .val (.int (((((0 : Int32) <<< ((8 : Int32) &&& 31)) ||| ((g (o + (2 : Int32)).toNatClampNeg) &&& (255 : Int32))) <<< ((8 : Int32) &&& 31)) ||| ((g (o + (1 : Int32)).toNatClampNeg) &&& (255 : Int32)))), .val (.int (1 : Int32))]) rfl k₀) ?_
  show GoOn p e below _ (s₁.setTop (mkF m 28 #[.val (.ref a), .val (.int o), .val (.int (3 : Int32)), .val (.int (((((0 : Int32) <<< ((8 : Int32) &&& 31)) ||| ((g (o + (2 : Int32)).toNatClampNeg) &&& (255 : Int32))) <<< ((8 : Int32) &&& 31)) ||| ((g (o + (1 : Int32)).toNatClampNeg) &&& (255 : Int32)))), .val (.int (1 : Int32))] []))
  refine GoOn.step (fun t₀ k₀ => XS.iinc X0.here hx rfl (hb hby d1_28) rfl (l' := #[.val (.ref a), .val (.int o), .val (.int (3 : Int32)), .val (.int (((((0 : Int32) <<< ((8 : Int32) &&& 31)) ||| ((g (o + (2 : Int32)).toNatClampNeg) &&& (255 : Int32))) <<< ((8 : Int32) &&& 31)) ||| ((g (o + (1 : Int32)).toNatClampNeg) &&& (255 : Int32)))), .val (.int ((1 : Int32) + (-1 : Int32)))]) rfl k₀) ?_
  show GoOn p e below _ (s₁.setTop (mkF m 31 #[.val (.ref a), .val (.int o), .val (.int (3 : Int32)), .val (.int (((((0 : Int32) <<< ((8 : Int32) &&& 31)) ||| ((g (o + (2 : Int32)).toNatClampNeg) &&& (255 : Int32))) <<< ((8 : Int32) &&& 31)) ||| ((g (o + (1 : Int32)).toNatClampNeg) &&& (255 : Int32)))), .val (.int ((1 : Int32) + (-1 : Int32)))] []))
  refine GoOn.step (fun t₀ k₀ => XS.goto X0.here hx rfl (pc0 := 31) (pc' := 7) rfl (hb hby d1_31) (by decide) (by decide) k₀) ?_
  show GoOn p e below _ (s₁.setTop (mkF m 7 #[.val (.ref a), .val (.int o), .val (.int (3 : Int32)), .val (.int (((((0 : Int32) <<< ((8 : Int32) &&& 31)) ||| ((g (o + (2 : Int32)).toNatClampNeg) &&& (255 : Int32))) <<< ((8 : Int32) &&& 31)) ||| ((g (o + (1 : Int32)).toNatClampNeg) &&& (255 : Int32)))), .val (.int ((1 : Int32) + (-1 : Int32)))] []))
  rw [show ((1 : Int32) + (-1 : Int32)) = (0 : Int32) from (by decide)]
  refine GoOn.step (fun t₀ k₀ => XS.iload X0.here hx rfl (hb hby d1_7) rfl k₀) ?_
  show GoOn p e below _ (s₁.setTop (mkF m 9 #[.val (.ref a), .val (.int o), .val (.int (3 : Int32)), .val (.int (((((0 : Int32) <<< ((8 : Int32) &&& 31)) ||| ((g (o + (2 : Int32)).toNatClampNeg) &&& (255 : Int32))) <<< ((8 : Int32) &&& 31)) ||| ((g (o + (1 : Int32)).toNatClampNeg) &&& (255 : Int32)))), .val (.int (0 : Int32))] [(.int (0 : Int32))]))
  have hf9 : ¬ ((0 : Int32) < (0 : Int32)) := (by decide)
  refine GoOn.step (fun t₀ k₀ => XS.ifNo X0.here hx rfl (hb hby d1_9) rfl ((if0 _ _).trans (flt hf9).1) k₀) ?_
  show GoOn p e below _ (s₁.setTop (mkF m 12 #[.val (.ref a), .val (.int o), .val (.int (3 : Int32)), .val (.int (((((0 : Int32) <<< ((8 : Int32) &&& 31)) ||| ((g (o + (2 : Int32)).toNatClampNeg) &&& (255 : Int32))) <<< ((8 : Int32) &&& 31)) ||| ((g (o + (1 : Int32)).toNatClampNeg) &&& (255 : Int32)))), .val (.int (0 : Int32))] []))
  refine GoOn.step (fun t₀ k₀ => XS.iloadN X0.here hx rfl (hb hby d1_12) rfl k₀) ?_
  show GoOn p e below _ (s₁.setTop (mkF m 13 #[.val (.ref a), .val (.int o), .val (.int (3 : Int32)), .val (.int (((((0 : Int32) <<< ((8 : Int32) &&& 31)) ||| ((g (o + (2 : Int32)).toNatClampNeg) &&& (255 : Int32))) <<< ((8 : Int32) &&& 31)) ||| ((g (o + (1 : Int32)).toNatClampNeg) &&& (255 : Int32)))), .val (.int (0 : Int32))] [(.int (((((0 : Int32) <<< ((8 : Int32) &&& 31)) ||| ((g (o + (2 : Int32)).toNatClampNeg) &&& (255 : Int32))) <<< ((8 : Int32) &&& 31)) ||| ((g (o + (1 : Int32)).toNatClampNeg) &&& (255 : Int32))))]))
  refine GoOn.step (fun t₀ k₀ => XS.bipush X0.here hx rfl (hb hby d1_13) k₀) ?_
  show GoOn p e below _ (s₁.setTop (mkF m 15 #[.val (.ref a), .val (.int o), .val (.int (3 : Int32)), .val (.int (((((0 : Int32) <<< ((8 : Int32) &&& 31)) ||| ((g (o + (2 : Int32)).toNatClampNeg) &&& (255 : Int32))) <<< ((8 : Int32) &&& 31)) ||| ((g (o + (1 : Int32)).toNatClampNeg) &&& (255 : Int32)))), .val (.int (0 : Int32))] [(.int (8 : Int32)), (.int (((((0 : Int32) <<< ((8 : Int32) &&& 31)) ||| ((g (o + (2 : Int32)).toNatClampNeg) &&& (255 : Int32))) <<< ((8 : Int32) &&& 31)) ||| ((g (o + (1 : Int32)).toNatClampNeg) &&& (255 : Int32))))]))
  refine GoOn.step (fun t₀ k₀ => XS.ishl X0.here hx rfl (hb hby d1_15) rfl k₀) ?_
  show GoOn p e below _ (s₁.setTop (mkF m 16 #[.val (.ref a), .val (.int o), .val (.int (3 : Int32)), .val (.int (((((0 : Int32) <<< ((8 : Int32) &&& 31)) ||| ((g (o + (2 : Int32)).toNatClampNeg) &&& (255 : Int32))) <<< ((8 : Int32) &&& 31)) ||| ((g (o + (1 : Int32)).toNatClampNeg) &&& (255 : Int32)))), .val (.int (0 : Int32))] [(.int ((((((0 : Int32) <<< ((8 : Int32) &&& 31)) ||| ((g (o + (2 : Int32)).toNatClampNeg) &&& (255 : Int32))) <<< ((8 : Int32) &&& 31)) ||| ((g (o + (1 : Int32)).toNatClampNeg) &&& (255 : Int32))) <<< ((8 : Int32) &&& 31)))]))
  refine GoOn.step (fun t₀ k₀ => XS.aloadN X0.here hx rfl (hb hby d1_16) rfl rfl k₀) ?_
  show GoOn p e below _ (s₁.setTop (mkF m 17 #[.val (.ref a), .val (.int o), .val (.int (3 : Int32)), .val (.int (((((0 : Int32) <<< ((8 : Int32) &&& 31)) ||| ((g (o + (2 : Int32)).toNatClampNeg) &&& (255 : Int32))) <<< ((8 : Int32) &&& 31)) ||| ((g (o + (1 : Int32)).toNatClampNeg) &&& (255 : Int32)))), .val (.int (0 : Int32))] [(.ref a), (.int ((((((0 : Int32) <<< ((8 : Int32) &&& 31)) ||| ((g (o + (2 : Int32)).toNatClampNeg) &&& (255 : Int32))) <<< ((8 : Int32) &&& 31)) ||| ((g (o + (1 : Int32)).toNatClampNeg) &&& (255 : Int32))) <<< ((8 : Int32) &&& 31)))]))
  refine GoOn.step (fun t₀ k₀ => XS.iloadN X0.here hx rfl (hb hby d1_17) rfl k₀) ?_
  show GoOn p e below _ (s₁.setTop (mkF m 18 #[.val (.ref a), .val (.int o), .val (.int (3 : Int32)), .val (.int (((((0 : Int32) <<< ((8 : Int32) &&& 31)) ||| ((g (o + (2 : Int32)).toNatClampNeg) &&& (255 : Int32))) <<< ((8 : Int32) &&& 31)) ||| ((g (o + (1 : Int32)).toNatClampNeg) &&& (255 : Int32)))), .val (.int (0 : Int32))] [(.int o), (.ref a), (.int ((((((0 : Int32) <<< ((8 : Int32) &&& 31)) ||| ((g (o + (2 : Int32)).toNatClampNeg) &&& (255 : Int32))) <<< ((8 : Int32) &&& 31)) ||| ((g (o + (1 : Int32)).toNatClampNeg) &&& (255 : Int32))) <<< ((8 : Int32) &&& 31)))]))
  refine GoOn.step (fun t₀ k₀ => XS.iload X0.here hx rfl (hb hby d1_18) rfl k₀) ?_
  show GoOn p e below _ (s₁.setTop (mkF m 20 #[.val (.ref a), .val (.int o), .val (.int (3 : Int32)), .val (.int (((((0 : Int32) <<< ((8 : Int32) &&& 31)) ||| ((g (o + (2 : Int32)).toNatClampNeg) &&& (255 : Int32))) <<< ((8 : Int32) &&& 31)) ||| ((g (o + (1 : Int32)).toNatClampNeg) &&& (255 : Int32)))), .val (.int (0 : Int32))] [(.int (0 : Int32)), (.int o), (.ref a), (.int ((((((0 : Int32) <<< ((8 : Int32) &&& 31)) ||| ((g (o + (2 : Int32)).toNatClampNeg) &&& (255 : Int32))) <<< ((8 : Int32) &&& 31)) ||| ((g (o + (1 : Int32)).toNatClampNeg) &&& (255 : Int32))) <<< ((8 : Int32) &&& 31)))]))
  refine GoOn.step (fun t₀ k₀ => XS.iadd X0.here hx rfl (hb hby d1_20) rfl k₀) ?_
  show GoOn p e below _ (s₁.setTop (mkF m 21 #[.val (.ref a), .val (.int o), .val (.int (3 : Int32)), .val (.int (((((0 : Int32) <<< ((8 : Int32) &&& 31)) ||| ((g (o + (2 : Int32)).toNatClampNeg) &&& (255 : Int32))) <<< ((8 : Int32) &&& 31)) ||| ((g (o + (1 : Int32)).toNatClampNeg) &&& (255 : Int32)))), .val (.int (0 : Int32))] [(.int (o + (0 : Int32))), (.ref a), (.int ((((((0 : Int32) <<< ((8 : Int32) &&& 31)) ||| ((g (o + (2 : Int32)).toNatClampNeg) &&& (255 : Int32))) <<< ((8 : Int32) &&& 31)) ||| ((g (o + (1 : Int32)).toNatClampNeg) &&& (255 : Int32))) <<< ((8 : Int32) &&& 31)))]))
  refine GoOn.step (fun t₀ k₀ => kLdB X0 hx hZ e0 F (j := (o + (0 : Int32))) (v := (.int (g (o + (0 : Int32)).toNatClampNeg))) (ix ho ⟨by decide, by decide⟩) rfl (g := (mkF m 21 #[.val (.ref a), .val (.int o), .val (.int (3 : Int32)), .val (.int (((((0 : Int32) <<< ((8 : Int32) &&& 31)) ||| ((g (o + (2 : Int32)).toNatClampNeg) &&& (255 : Int32))) <<< ((8 : Int32) &&& 31)) ||| ((g (o + (1 : Int32)).toNatClampNeg) &&& (255 : Int32)))), .val (.int (0 : Int32))] [(.int (o + (0 : Int32))), (.ref a), (.int ((((((0 : Int32) <<< ((8 : Int32) &&& 31)) ||| ((g (o + (2 : Int32)).toNatClampNeg) &&& (255 : Int32))) <<< ((8 : Int32) &&& 31)) ||| ((g (o + (1 : Int32)).toNatClampNeg) &&& (255 : Int32))) <<< ((8 : Int32) &&& 31)))])) rfl rfl (hb hby d1_21) t₀ k₀) ?_
  show GoOn p e below _ (s₁.setTop (mkF m 22 #[.val (.ref a), .val (.int o), .val (.int (3 : Int32)), .val (.int (((((0 : Int32) <<< ((8 : Int32) &&& 31)) ||| ((g (o + (2 : Int32)).toNatClampNeg) &&& (255 : Int32))) <<< ((8 : Int32) &&& 31)) ||| ((g (o + (1 : Int32)).toNatClampNeg) &&& (255 : Int32)))), .val (.int (0 : Int32))] [(.int (g (o + (0 : Int32)).toNatClampNeg)), (.int ((((((0 : Int32) <<< ((8 : Int32) &&& 31)) ||| ((g (o + (2 : Int32)).toNatClampNeg) &&& (255 : Int32))) <<< ((8 : Int32) &&& 31)) ||| ((g (o + (1 : Int32)).toNatClampNeg) &&& (255 : Int32))) <<< ((8 : Int32) &&& 31)))]))
  refine GoOn.step (fun t₀ k₀ => XS.sipush X0.here hx rfl (hb hby d1_22) k₀) ?_
  show GoOn p e below _ (s₁.setTop (mkF m 25 #[.val (.ref a), .val (.int o), .val (.int (3 : Int32)), .val (.int (((((0 : Int32) <<< ((8 : Int32) &&& 31)) ||| ((g (o + (2 : Int32)).toNatClampNeg) &&& (255 : Int32))) <<< ((8 : Int32) &&& 31)) ||| ((g (o + (1 : Int32)).toNatClampNeg) &&& (255 : Int32)))), .val (.int (0 : Int32))] [(.int (255 : Int32)), (.int (g (o + (0 : Int32)).toNatClampNeg)), (.int ((((((0 : Int32) <<< ((8 : Int32) &&& 31)) ||| ((g (o + (2 : Int32)).toNatClampNeg) &&& (255 : Int32))) <<< ((8 : Int32) &&& 31)) ||| ((g (o + (1 : Int32)).toNatClampNeg) &&& (255 : Int32))) <<< ((8 : Int32) &&& 31)))]))
  refine GoOn.step (fun t₀ k₀ => XS.iand X0.here hx rfl (hb hby d1_25) rfl k₀) ?_
  show GoOn p e below _ (s₁.setTop (mkF m 26 #[.val (.ref a), .val (.int o), .val (.int (3 : Int32)), .val (.int (((((0 : Int32) <<< ((8 : Int32) &&& 31)) ||| ((g (o + (2 : Int32)).toNatClampNeg) &&& (255 : Int32))) <<< ((8 : Int32) &&& 31)) ||| ((g (o + (1 : Int32)).toNatClampNeg) &&& (255 : Int32)))), .val (.int (0 : Int32))] [(.int ((g (o + (0 : Int32)).toNatClampNeg) &&& (255 : Int32))), (.int ((((((0 : Int32) <<< ((8 : Int32) &&& 31)) ||| ((g (o + (2 : Int32)).toNatClampNeg) &&& (255 : Int32))) <<< ((8 : Int32) &&& 31)) ||| ((g (o + (1 : Int32)).toNatClampNeg) &&& (255 : Int32))) <<< ((8 : Int32) &&& 31)))]))
  refine GoOn.step (fun t₀ k₀ => XS.ior X0.here hx rfl (hb hby d1_26) rfl k₀) ?_
  show GoOn p e below _ (s₁.setTop (mkF m 27 #[.val (.ref a), .val (.int o), .val (.int (3 : Int32)), .val (.int (((((0 : Int32) <<< ((8 : Int32) &&& 31)) ||| ((g (o + (2 : Int32)).toNatClampNeg) &&& (255 : Int32))) <<< ((8 : Int32) &&& 31)) ||| ((g (o + (1 : Int32)).toNatClampNeg) &&& (255 : Int32)))), .val (.int (0 : Int32))] [(.int (((((((0 : Int32) <<< ((8 : Int32) &&& 31)) ||| ((g (o + (2 : Int32)).toNatClampNeg) &&& (255 : Int32))) <<< ((8 : Int32) &&& 31)) ||| ((g (o + (1 : Int32)).toNatClampNeg) &&& (255 : Int32))) <<< ((8 : Int32) &&& 31)) ||| ((g (o + (0 : Int32)).toNatClampNeg) &&& (255 : Int32))))]))
  refine GoOn.step (fun t₀ k₀ => XS.istoreN X0.here hx rfl (hb hby d1_27) rfl (l' := #[.val (.ref a), .val (.int o), .val (.int (3 : Int32)), .val (.int (((((((0 : Int32) <<< ((8 : Int32) &&& 31)) ||| ((g (o + (2 : Int32)).toNatClampNeg) &&& (255 : Int32))) <<< ((8 : Int32) &&& 31)) ||| ((g (o + (1 : Int32)).toNatClampNeg) &&& (255 : Int32))) <<< ((8 : Int32) &&& 31)) ||| ((g (o + (0 : Int32)).toNatClampNeg) &&& (255 : Int32)))), .val (.int (0 : Int32))]) rfl k₀) ?_
  show GoOn p e below _ (s₁.setTop (mkF m 28 #[.val (.ref a), .val (.int o), .val (.int (3 : Int32)), .val (.int (((((((0 : Int32) <<< ((8 : Int32) &&& 31)) ||| ((g (o + (2 : Int32)).toNatClampNeg) &&& (255 : Int32))) <<< ((8 : Int32) &&& 31)) ||| ((g (o + (1 : Int32)).toNatClampNeg) &&& (255 : Int32))) <<< ((8 : Int32) &&& 31)) ||| ((g (o + (0 : Int32)).toNatClampNeg) &&& (255 : Int32)))), .val (.int (0 : Int32))] []))
  refine GoOn.step (fun t₀ k₀ => XS.iinc X0.here hx rfl (hb hby d1_28) rfl (l' := #[.val (.ref a), .val (.int o), .val (.int (3 : Int32)), .val (.int (((((((0 : Int32) <<< ((8 : Int32) &&& 31)) ||| ((g (o + (2 : Int32)).toNatClampNeg) &&& (255 : Int32))) <<< ((8 : Int32) &&& 31)) ||| ((g (o + (1 : Int32)).toNatClampNeg) &&& (255 : Int32))) <<< ((8 : Int32) &&& 31)) ||| ((g (o + (0 : Int32)).toNatClampNeg) &&& (255 : Int32)))), .val (.int ((0 : Int32) + (-1 : Int32)))]) rfl k₀) ?_
  show GoOn p e below _ (s₁.setTop (mkF m 31 #[.val (.ref a), .val (.int o), .val (.int (3 : Int32)), .val (.int (((((((0 : Int32) <<< ((8 : Int32) &&& 31)) ||| ((g (o + (2 : Int32)).toNatClampNeg) &&& (255 : Int32))) <<< ((8 : Int32) &&& 31)) ||| ((g (o + (1 : Int32)).toNatClampNeg) &&& (255 : Int32))) <<< ((8 : Int32) &&& 31)) ||| ((g (o + (0 : Int32)).toNatClampNeg) &&& (255 : Int32)))), .val (.int ((0 : Int32) + (-1 : Int32)))] []))
  refine GoOn.step (fun t₀ k₀ => XS.goto X0.here hx rfl (pc0 := 31) (pc' := 7) rfl (hb hby d1_31) (by decide) (by decide) k₀) ?_
  show GoOn p e below _ (s₁.setTop (mkF m 7 #[.val (.ref a), .val (.int o), .val (.int (3 : Int32)), .val (.int (((((((0 : Int32) <<< ((8 : Int32) &&& 31)) ||| ((g (o + (2 : Int32)).toNatClampNeg) &&& (255 : Int32))) <<< ((8 : Int32) &&& 31)) ||| ((g (o + (1 : Int32)).toNatClampNeg) &&& (255 : Int32))) <<< ((8 : Int32) &&& 31)) ||| ((g (o + (0 : Int32)).toNatClampNeg) &&& (255 : Int32)))), .val (.int ((0 : Int32) + (-1 : Int32)))] []))
  rw [show ((0 : Int32) + (-1 : Int32)) = (-1 : Int32) from (by decide)]
  refine GoOn.step (fun t₀ k₀ => XS.iload X0.here hx rfl (hb hby d1_7) rfl k₀) ?_
  show GoOn p e below _ (s₁.setTop (mkF m 9 #[.val (.ref a), .val (.int o), .val (.int (3 : Int32)), .val (.int (((((((0 : Int32) <<< ((8 : Int32) &&& 31)) ||| ((g (o + (2 : Int32)).toNatClampNeg) &&& (255 : Int32))) <<< ((8 : Int32) &&& 31)) ||| ((g (o + (1 : Int32)).toNatClampNeg) &&& (255 : Int32))) <<< ((8 : Int32) &&& 31)) ||| ((g (o + (0 : Int32)).toNatClampNeg) &&& (255 : Int32)))), .val (.int (-1 : Int32))] [(.int (-1 : Int32))]))
  have hf10 : (-1 : Int32) < (0 : Int32) := (by decide)
  refine GoOn.step (fun t₀ k₀ => XS.ifYes X0.here hx rfl (pc0 := 9) (pc' := 34) rfl (hb hby d1_9) rfl ((if0 _ _).trans (tlt hf10).1) (by decide) (by decide) k₀) ?_
  show GoOn p e below _ (s₁.setTop (mkF m 34 #[.val (.ref a), .val (.int o), .val (.int (3 : Int32)), .val (.int (((((((0 : Int32) <<< ((8 : Int32) &&& 31)) ||| ((g (o + (2 : Int32)).toNatClampNeg) &&& (255 : Int32))) <<< ((8 : Int32) &&& 31)) ||| ((g (o + (1 : Int32)).toNatClampNeg) &&& (255 : Int32))) <<< ((8 : Int32) &&& 31)) ||| ((g (o + (0 : Int32)).toNatClampNeg) &&& (255 : Int32)))), .val (.int (-1 : Int32))] []))
  refine GoOn.step (fun t₀ k₀ => XS.iloadN X0.here hx rfl (hb hby d1_34) rfl k₀) ?_
  show GoOn p e below _ (s₁.setTop (mkF m 35 #[.val (.ref a), .val (.int o), .val (.int (3 : Int32)), .val (.int (((((((0 : Int32) <<< ((8 : Int32) &&& 31)) ||| ((g (o + (2 : Int32)).toNatClampNeg) &&& (255 : Int32))) <<< ((8 : Int32) &&& 31)) ||| ((g (o + (1 : Int32)).toNatClampNeg) &&& (255 : Int32))) <<< ((8 : Int32) &&& 31)) ||| ((g (o + (0 : Int32)).toNatClampNeg) &&& (255 : Int32)))), .val (.int (-1 : Int32))] [(.int (((((((0 : Int32) <<< ((8 : Int32) &&& 31)) ||| ((g (o + (2 : Int32)).toNatClampNeg) &&& (255 : Int32))) <<< ((8 : Int32) &&& 31)) ||| ((g (o + (1 : Int32)).toNatClampNeg) &&& (255 : Int32))) <<< ((8 : Int32) &&& 31)) ||| ((g (o + (0 : Int32)).toNatClampNeg) &&& (255 : Int32))))]))
  exact GoOn.retI X0 hx hrt hlk (hb hby d1_35) (by decide) (by decide) (by first | exact ⟨rfl, rfl, rfl⟩ | (rw [e0]; exact ⟨rfl, rfl, rfl⟩))
theorem pl4 (a b c d : Int32) : (((((((((0 : Int32) <<< ((8 : Int32) &&& 31)) ||| d) <<< ((8 : Int32) &&& 31)) ||| c) <<< ((8 : Int32) &&& 31)) ||| b) <<< ((8 : Int32) &&& 31)) ||| a) = (((a ||| (b <<< ((8 : Int32) &&& 31))) ||| (c <<< ((16 : Int32) &&& 31))) ||| (d <<< ((24 : Int32) &&& 31))) := by
  apply Int32.toBitVec_inj.mp
  have z : (0 : Int32).toBitVec = 0#32 := by decide
  simp only [Int32.toBitVec_or, sh8, sh16, sh24, BitVec.shiftLeft_or_distrib, ← BitVec.shiftLeft_add, z, BitVec.zero_shiftLeft, BitVec.zero_or, BitVec.or_zero, Nat.reduceAdd]
  all_goals (try generalize d.toBitVec <<< 24 = D); (try generalize c.toBitVec <<< 16 = C); (try generalize b.toBitVec <<< 8 = B); (try generalize a.toBitVec = A); (try ac_rfl)
theorem ef_c_read4 (m : MethodId) (x0 : Addr) (x1 : Int32) (x2 : Int32) : entryFrame m #[(.ref x0), (.int x1), (.int x2)] 5 = mkF m 0 #[.val (.ref x0), .val (.int x1), .val (.int x2), .unset, .unset] [] := by first | (simp [entryFrame, mkF, argsToLocals, Value.category]; done) | rfl
set_option maxRecDepth 65536 in
set_option maxHeartbeats 40000000 in
theorem c_read4 (l : Launch) (Z : State) (a0 : Array Value) (hw : ∀ d ∈ tables_1, d.before a0 Z = true) (a : Addr) (o : Int32) (g : Nat → Int32) (h0 : Heap) (F : Jar Z h0 a .byte 8 (fun i => .int (g i))) (ho : 0 ≤ o.toInt ∧ o.toInt ≤ 3) :
    Con l Z (⟨"com/example/query_warden/querywarden/Packet", "readInt", "([BII)I"⟩ : MethodName) prog_22_method_6_code 5 (some .int) ({ frames := 0, cells := 0, slots := 0, locals := 0 } : Room) #[(.ref a), (.int o), (.int (4 : Int32))] h0 (PQ (some (.int (((((((((0 : Int32) <<< ((8 : Int32) &&& 31)) ||| (g (o + (3 : Int32)).toNatClampNeg &&& (255 : Int32))) <<< ((8 : Int32) &&& 31)) ||| (g (o + (2 : Int32)).toNatClampNeg &&& (255 : Int32))) <<< ((8 : Int32) &&& 31)) ||| (g (o + (1 : Int32)).toNatClampNeg &&& (255 : Int32))) <<< ((8 : Int32) &&& 31)) ||| (g (o + (0 : Int32)).toNatClampNeg &&& (255 : Int32))))) h0) := by
  refine Con.intro (plainFor_of_name pn_0) ?_
  intro p e s m below meth c s₁ hx hby hml hrt hlk hZ hown hnm X0 e0
  replace hown : s.vm.findClass "com/example/query_warden/querywarden/Packet" = some m.cls := hown
  refine GoOn.cast (ef_c_read4 m a o (4 : Int32)) ?_
  show GoOn p e below _ (s₁.setTop (mkF m 0 #[.val (.ref a), .val (.int o), .val (.int (4 : Int32)), .unset, .unset] []))
  refine GoOn.step (fun t₀ k₀ => XS.iconst X0.here hx rfl (hb hby d1_0) k₀) ?_
  show GoOn p e below _ (s₁.setTop (mkF m 1 #[.val (.ref a), .val (.int o), .val (.int (4 : Int32)), .unset, .unset] [(.int (0 : Int32))]))
  refine GoOn.step (fun t₀ k₀ => XS.istoreN X0.here hx rfl (hb hby d1_1) rfl (l' := #[.val (.ref a), .val (.int o), .val (.int (4 : Int32)), .val (.int (0 : Int32)), .unset]) rfl k₀) ?_
  show GoOn p e below _ (s₁.setTop (mkF m 2 #[.val (.ref a), .val (.int o), .val (.int (4 : Int32)), .val (.int (0 : Int32)), .unset] []))
  refine GoOn.step (fun t₀ k₀ => XS.iloadN X0.here hx rfl (hb hby d1_2) rfl k₀) ?_
  show GoOn p e below _ (s₁.setTop (mkF m 3 #[.val (.ref a), .val (.int o), .val (.int (4 : Int32)), .val (.int (0 : Int32)), .unset] [(.int (4 : Int32))]))
  refine GoOn.step (fun t₀ k₀ => XS.iconst X0.here hx rfl (hb hby d1_3) k₀) ?_
  show GoOn p e below _ (s₁.setTop (mkF m 4 #[.val (.ref a), .val (.int o), .val (.int (4 : Int32)), .val (.int (0 : Int32)), .unset] [(.int (1 : Int32)), (.int (4 : Int32))]))
  refine GoOn.step (fun t₀ k₀ => XS.isub X0.here hx rfl (hb hby d1_4) rfl k₀) ?_
  show GoOn p e below _ (s₁.setTop (mkF m 5 #[.val (.ref a), .val (.int o), .val (.int (4 : Int32)), .val (.int (0 : Int32)), .unset] [(.int ((4 : Int32) - (1 : Int32)))]))
  refine GoOn.step (fun t₀ k₀ => XS.istore X0.here hx rfl (hb hby d1_5) rfl (l' := #[.val (.ref a), .val (.int o), .val (.int (4 : Int32)), .val (.int (0 : Int32)), .val (.int ((4 : Int32) - (1 : Int32)))]) rfl k₀) ?_
  show GoOn p e below _ (s₁.setTop (mkF m 7 #[.val (.ref a), .val (.int o), .val (.int (4 : Int32)), .val (.int (0 : Int32)), .val (.int ((4 : Int32) - (1 : Int32)))] []))
  rw [show ((4 : Int32) - (1 : Int32)) = (3 : Int32) from (by decide)]
  refine GoOn.step (fun t₀ k₀ => XS.iload X0.here hx rfl (hb hby d1_7) rfl k₀) ?_
  show GoOn p e below _ (s₁.setTop (mkF m 9 #[.val (.ref a), .val (.int o), .val (.int (4 : Int32)), .val (.int (0 : Int32)), .val (.int (3 : Int32))] [(.int (3 : Int32))]))
  have hf11 : ¬ ((3 : Int32) < (0 : Int32)) := (by decide)
  refine GoOn.step (fun t₀ k₀ => XS.ifNo X0.here hx rfl (hb hby d1_9) rfl ((if0 _ _).trans (flt hf11).1) k₀) ?_
  show GoOn p e below _ (s₁.setTop (mkF m 12 #[.val (.ref a), .val (.int o), .val (.int (4 : Int32)), .val (.int (0 : Int32)), .val (.int (3 : Int32))] []))
  refine GoOn.step (fun t₀ k₀ => XS.iloadN X0.here hx rfl (hb hby d1_12) rfl k₀) ?_
  show GoOn p e below _ (s₁.setTop (mkF m 13 #[.val (.ref a), .val (.int o), .val (.int (4 : Int32)), .val (.int (0 : Int32)), .val (.int (3 : Int32))] [(.int (0 : Int32))]))
  refine GoOn.step (fun t₀ k₀ => XS.bipush X0.here hx rfl (hb hby d1_13) k₀) ?_
  show GoOn p e below _ (s₁.setTop (mkF m 15 #[.val (.ref a), .val (.int o), .val (.int (4 : Int32)), .val (.int (0 : Int32)), .val (.int (3 : Int32))] [(.int (8 : Int32)), (.int (0 : Int32))]))
  refine GoOn.step (fun t₀ k₀ => XS.ishl X0.here hx rfl (hb hby d1_15) rfl k₀) ?_
  show GoOn p e below _ (s₁.setTop (mkF m 16 #[.val (.ref a), .val (.int o), .val (.int (4 : Int32)), .val (.int (0 : Int32)), .val (.int (3 : Int32))] [(.int ((0 : Int32) <<< ((8 : Int32) &&& 31)))]))
  refine GoOn.step (fun t₀ k₀ => XS.aloadN X0.here hx rfl (hb hby d1_16) rfl rfl k₀) ?_
  show GoOn p e below _ (s₁.setTop (mkF m 17 #[.val (.ref a), .val (.int o), .val (.int (4 : Int32)), .val (.int (0 : Int32)), .val (.int (3 : Int32))] [(.ref a), (.int ((0 : Int32) <<< ((8 : Int32) &&& 31)))]))
  refine GoOn.step (fun t₀ k₀ => XS.iloadN X0.here hx rfl (hb hby d1_17) rfl k₀) ?_
  show GoOn p e below _ (s₁.setTop (mkF m 18 #[.val (.ref a), .val (.int o), .val (.int (4 : Int32)), .val (.int (0 : Int32)), .val (.int (3 : Int32))] [(.int o), (.ref a), (.int ((0 : Int32) <<< ((8 : Int32) &&& 31)))]))
  refine GoOn.step (fun t₀ k₀ => XS.iload X0.here hx rfl (hb hby d1_18) rfl k₀) ?_
  show GoOn p e below _ (s₁.setTop (mkF m 20 #[.val (.ref a), .val (.int o), .val (.int (4 : Int32)), .val (.int (0 : Int32)), .val (.int (3 : Int32))] [(.int (3 : Int32)), (.int o), (.ref a), (.int ((0 : Int32) <<< ((8 : Int32) &&& 31)))]))
  refine GoOn.step (fun t₀ k₀ => XS.iadd X0.here hx rfl (hb hby d1_20) rfl k₀) ?_
  show GoOn p e below _ (s₁.setTop (mkF m 21 #[.val (.ref a), .val (.int o), .val (.int (4 : Int32)), .val (.int (0 : Int32)), .val (.int (3 : Int32))] [(.int (o + (3 : Int32))), (.ref a), (.int ((0 : Int32) <<< ((8 : Int32) &&& 31)))]))
  refine GoOn.step (fun t₀ k₀ => kLdB X0 hx hZ e0 F (j := (o + (3 : Int32))) (v := (.int (g (o + (3 : Int32)).toNatClampNeg))) (ix ho ⟨by decide, by decide⟩) rfl (g := (mkF m 21 #[.val (.ref a), .val (.int o), .val (.int (4 : Int32)), .val (.int (0 : Int32)), .val (.int (3 : Int32))] [(.int (o + (3 : Int32))), (.ref a), (.int ((0 : Int32) <<< ((8 : Int32) &&& 31)))])) rfl rfl (hb hby d1_21) t₀ k₀) ?_
  show GoOn p e below _ (s₁.setTop (mkF m 22 #[.val (.ref a), .val (.int o), .val (.int (4 : Int32)), .val (.int (0 : Int32)), .val (.int (3 : Int32))] [(.int (g (o + (3 : Int32)).toNatClampNeg)), (.int ((0 : Int32) <<< ((8 : Int32) &&& 31)))]))
  refine GoOn.step (fun t₀ k₀ => XS.sipush X0.here hx rfl (hb hby d1_22) k₀) ?_
  show GoOn p e below _ (s₁.setTop (mkF m 25 #[.val (.ref a), .val (.int o), .val (.int (4 : Int32)), .val (.int (0 : Int32)), .val (.int (3 : Int32))] [(.int (255 : Int32)), (.int (g (o + (3 : Int32)).toNatClampNeg)), (.int ((0 : Int32) <<< ((8 : Int32) &&& 31)))]))
  refine GoOn.step (fun t₀ k₀ => XS.iand X0.here hx rfl (hb hby d1_25) rfl k₀) ?_
  show GoOn p e below _ (s₁.setTop (mkF m 26 #[.val (.ref a), .val (.int o), .val (.int (4 : Int32)), .val (.int (0 : Int32)), .val (.int (3 : Int32))] [(.int ((g (o + (3 : Int32)).toNatClampNeg) &&& (255 : Int32))), (.int ((0 : Int32) <<< ((8 : Int32) &&& 31)))]))
  refine GoOn.step (fun t₀ k₀ => XS.ior X0.here hx rfl (hb hby d1_26) rfl k₀) ?_
  show GoOn p e below _ (s₁.setTop (mkF m 27 #[.val (.ref a), .val (.int o), .val (.int (4 : Int32)), .val (.int (0 : Int32)), .val (.int (3 : Int32))] [(.int (((0 : Int32) <<< ((8 : Int32) &&& 31)) ||| ((g (o + (3 : Int32)).toNatClampNeg) &&& (255 : Int32))))]))
  refine GoOn.step (fun t₀ k₀ => XS.istoreN X0.here hx rfl (hb hby d1_27) rfl (l' := #[.val (.ref a), .val (.int o), .val (.int (4 : Int32)), .val (.int (((0 : Int32) <<< ((8 : Int32) &&& 31)) ||| ((g (o + (3 : Int32)).toNatClampNeg) &&& (255 : Int32)))), .val (.int (3 : Int32))]) rfl k₀) ?_
  show GoOn p e below _ (s₁.setTop (mkF m 28 #[.val (.ref a), .val (.int o), .val (.int (4 : Int32)), .val (.int (((0 : Int32) <<< ((8 : Int32) &&& 31)) ||| ((g (o + (3 : Int32)).toNatClampNeg) &&& (255 : Int32)))), .val (.int (3 : Int32))] []))
  refine GoOn.step (fun t₀ k₀ => XS.iinc X0.here hx rfl (hb hby d1_28) rfl (l' := #[.val (.ref a), .val (.int o), .val (.int (4 : Int32)), .val (.int (((0 : Int32) <<< ((8 : Int32) &&& 31)) ||| ((g (o + (3 : Int32)).toNatClampNeg) &&& (255 : Int32)))), .val (.int ((3 : Int32) + (-1 : Int32)))]) rfl k₀) ?_
  show GoOn p e below _ (s₁.setTop (mkF m 31 #[.val (.ref a), .val (.int o), .val (.int (4 : Int32)), .val (.int (((0 : Int32) <<< ((8 : Int32) &&& 31)) ||| ((g (o + (3 : Int32)).toNatClampNeg) &&& (255 : Int32)))), .val (.int ((3 : Int32) + (-1 : Int32)))] []))
  refine GoOn.step (fun t₀ k₀ => XS.goto X0.here hx rfl (pc0 := 31) (pc' := 7) rfl (hb hby d1_31) (by decide) (by decide) k₀) ?_
  show GoOn p e below _ (s₁.setTop (mkF m 7 #[.val (.ref a), .val (.int o), .val (.int (4 : Int32)), .val (.int (((0 : Int32) <<< ((8 : Int32) &&& 31)) ||| ((g (o + (3 : Int32)).toNatClampNeg) &&& (255 : Int32)))), .val (.int ((3 : Int32) + (-1 : Int32)))] []))
  rw [show ((3 : Int32) + (-1 : Int32)) = (2 : Int32) from (by decide)]
  refine GoOn.step (fun t₀ k₀ => XS.iload X0.here hx rfl (hb hby d1_7) rfl k₀) ?_
  show GoOn p e below _ (s₁.setTop (mkF m 9 #[.val (.ref a), .val (.int o), .val (.int (4 : Int32)), .val (.int (((0 : Int32) <<< ((8 : Int32) &&& 31)) ||| ((g (o + (3 : Int32)).toNatClampNeg) &&& (255 : Int32)))), .val (.int (2 : Int32))] [(.int (2 : Int32))]))
  have hf12 : ¬ ((2 : Int32) < (0 : Int32)) := (by decide)
  refine GoOn.step (fun t₀ k₀ => XS.ifNo X0.here hx rfl (hb hby d1_9) rfl ((if0 _ _).trans (flt hf12).1) k₀) ?_
  show GoOn p e below _ (s₁.setTop (mkF m 12 #[.val (.ref a), .val (.int o), .val (.int (4 : Int32)), .val (.int (((0 : Int32) <<< ((8 : Int32) &&& 31)) ||| ((g (o + (3 : Int32)).toNatClampNeg) &&& (255 : Int32)))), .val (.int (2 : Int32))] []))
  refine GoOn.step (fun t₀ k₀ => XS.iloadN X0.here hx rfl (hb hby d1_12) rfl k₀) ?_
  show GoOn p e below _ (s₁.setTop (mkF m 13 #[.val (.ref a), .val (.int o), .val (.int (4 : Int32)), .val (.int (((0 : Int32) <<< ((8 : Int32) &&& 31)) ||| ((g (o + (3 : Int32)).toNatClampNeg) &&& (255 : Int32)))), .val (.int (2 : Int32))] [(.int (((0 : Int32) <<< ((8 : Int32) &&& 31)) ||| ((g (o + (3 : Int32)).toNatClampNeg) &&& (255 : Int32))))]))
  refine GoOn.step (fun t₀ k₀ => XS.bipush X0.here hx rfl (hb hby d1_13) k₀) ?_
  show GoOn p e below _ (s₁.setTop (mkF m 15 #[.val (.ref a), .val (.int o), .val (.int (4 : Int32)), .val (.int (((0 : Int32) <<< ((8 : Int32) &&& 31)) ||| ((g (o + (3 : Int32)).toNatClampNeg) &&& (255 : Int32)))), .val (.int (2 : Int32))] [(.int (8 : Int32)), (.int (((0 : Int32) <<< ((8 : Int32) &&& 31)) ||| ((g (o + (3 : Int32)).toNatClampNeg) &&& (255 : Int32))))]))
  refine GoOn.step (fun t₀ k₀ => XS.ishl X0.here hx rfl (hb hby d1_15) rfl k₀) ?_
  show GoOn p e below _ (s₁.setTop (mkF m 16 #[.val (.ref a), .val (.int o), .val (.int (4 : Int32)), .val (.int (((0 : Int32) <<< ((8 : Int32) &&& 31)) ||| ((g (o + (3 : Int32)).toNatClampNeg) &&& (255 : Int32)))), .val (.int (2 : Int32))] [(.int ((((0 : Int32) <<< ((8 : Int32) &&& 31)) ||| ((g (o + (3 : Int32)).toNatClampNeg) &&& (255 : Int32))) <<< ((8 : Int32) &&& 31)))]))
  refine GoOn.step (fun t₀ k₀ => XS.aloadN X0.here hx rfl (hb hby d1_16) rfl rfl k₀) ?_
  show GoOn p e below _ (s₁.setTop (mkF m 17 #[.val (.ref a), .val (.int o), .val (.int (4 : Int32)), .val (.int (((0 : Int32) <<< ((8 : Int32) &&& 31)) ||| ((g (o + (3 : Int32)).toNatClampNeg) &&& (255 : Int32)))), .val (.int (2 : Int32))] [(.ref a), (.int ((((0 : Int32) <<< ((8 : Int32) &&& 31)) ||| ((g (o + (3 : Int32)).toNatClampNeg) &&& (255 : Int32))) <<< ((8 : Int32) &&& 31)))]))
  refine GoOn.step (fun t₀ k₀ => XS.iloadN X0.here hx rfl (hb hby d1_17) rfl k₀) ?_
  show GoOn p e below _ (s₁.setTop (mkF m 18 #[.val (.ref a), .val (.int o), .val (.int (4 : Int32)), .val (.int (((0 : Int32) <<< ((8 : Int32) &&& 31)) ||| ((g (o + (3 : Int32)).toNatClampNeg) &&& (255 : Int32)))), .val (.int (2 : Int32))] [(.int o), (.ref a), (.int ((((0 : Int32) <<< ((8 : Int32) &&& 31)) ||| ((g (o + (3 : Int32)).toNatClampNeg) &&& (255 : Int32))) <<< ((8 : Int32) &&& 31)))]))
  refine GoOn.step (fun t₀ k₀ => XS.iload X0.here hx rfl (hb hby d1_18) rfl k₀) ?_
  show GoOn p e below _ (s₁.setTop (mkF m 20 #[.val (.ref a), .val (.int o), .val (.int (4 : Int32)), .val (.int (((0 : Int32) <<< ((8 : Int32) &&& 31)) ||| ((g (o + (3 : Int32)).toNatClampNeg) &&& (255 : Int32)))), .val (.int (2 : Int32))] [(.int (2 : Int32)), (.int o), (.ref a), (.int ((((0 : Int32) <<< ((8 : Int32) &&& 31)) ||| ((g (o + (3 : Int32)).toNatClampNeg) &&& (255 : Int32))) <<< ((8 : Int32) &&& 31)))]))
  refine GoOn.step (fun t₀ k₀ => XS.iadd X0.here hx rfl (hb hby d1_20) rfl k₀) ?_
  show GoOn p e below _ (s₁.setTop (mkF m 21 #[.val (.ref a), .val (.int o), .val (.int (4 : Int32)), .val (.int (((0 : Int32) <<< ((8 : Int32) &&& 31)) ||| ((g (o + (3 : Int32)).toNatClampNeg) &&& (255 : Int32)))), .val (.int (2 : Int32))] [(.int (o + (2 : Int32))), (.ref a), (.int ((((0 : Int32) <<< ((8 : Int32) &&& 31)) ||| ((g (o + (3 : Int32)).toNatClampNeg) &&& (255 : Int32))) <<< ((8 : Int32) &&& 31)))]))
  refine GoOn.step (fun t₀ k₀ => kLdB X0 hx hZ e0 F (j := (o + (2 : Int32))) (v := (.int (g (o + (2 : Int32)).toNatClampNeg))) (ix ho ⟨by decide, by decide⟩) rfl (g := (mkF m 21 #[.val (.ref a), .val (.int o), .val (.int (4 : Int32)), .val (.int (((0 : Int32) <<< ((8 : Int32) &&& 31)) ||| ((g (o + (3 : Int32)).toNatClampNeg) &&& (255 : Int32)))), .val (.int (2 : Int32))] [(.int (o + (2 : Int32))), (.ref a), (.int ((((0 : Int32) <<< ((8 : Int32) &&& 31)) ||| ((g (o + (3 : Int32)).toNatClampNeg) &&& (255 : Int32))) <<< ((8 : Int32) &&& 31)))])) rfl rfl (hb hby d1_21) t₀ k₀) ?_
  show GoOn p e below _ (s₁.setTop (mkF m 22 #[.val (.ref a), .val (.int o), .val (.int (4 : Int32)), .val (.int (((0 : Int32) <<< ((8 : Int32) &&& 31)) ||| ((g (o + (3 : Int32)).toNatClampNeg) &&& (255 : Int32)))), .val (.int (2 : Int32))] [(.int (g (o + (2 : Int32)).toNatClampNeg)), (.int ((((0 : Int32) <<< ((8 : Int32) &&& 31)) ||| ((g (o + (3 : Int32)).toNatClampNeg) &&& (255 : Int32))) <<< ((8 : Int32) &&& 31)))]))
  refine GoOn.step (fun t₀ k₀ => XS.sipush X0.here hx rfl (hb hby d1_22) k₀) ?_
  show GoOn p e below _ (s₁.setTop (mkF m 25 #[.val (.ref a), .val (.int o), .val (.int (4 : Int32)), .val (.int (((0 : Int32) <<< ((8 : Int32) &&& 31)) ||| ((g (o + (3 : Int32)).toNatClampNeg) &&& (255 : Int32)))), .val (.int (2 : Int32))] [(.int (255 : Int32)), (.int (g (o + (2 : Int32)).toNatClampNeg)), (.int ((((0 : Int32) <<< ((8 : Int32) &&& 31)) ||| ((g (o + (3 : Int32)).toNatClampNeg) &&& (255 : Int32))) <<< ((8 : Int32) &&& 31)))]))
  refine GoOn.step (fun t₀ k₀ => XS.iand X0.here hx rfl (hb hby d1_25) rfl k₀) ?_
  show GoOn p e below _ (s₁.setTop (mkF m 26 #[.val (.ref a), .val (.int o), .val (.int (4 : Int32)), .val (.int (((0 : Int32) <<< ((8 : Int32) &&& 31)) ||| ((g (o + (3 : Int32)).toNatClampNeg) &&& (255 : Int32)))), .val (.int (2 : Int32))] [(.int ((g (o + (2 : Int32)).toNatClampNeg) &&& (255 : Int32))), (.int ((((0 : Int32) <<< ((8 : Int32) &&& 31)) ||| ((g (o + (3 : Int32)).toNatClampNeg) &&& (255 : Int32))) <<< ((8 : Int32) &&& 31)))]))
  refine GoOn.step (fun t₀ k₀ => XS.ior X0.here hx rfl (hb hby d1_26) rfl k₀) ?_
  show GoOn p e below _ (s₁.setTop (mkF m 27 #[.val (.ref a), .val (.int o), .val (.int (4 : Int32)), .val (.int (((0 : Int32) <<< ((8 : Int32) &&& 31)) ||| ((g (o + (3 : Int32)).toNatClampNeg) &&& (255 : Int32)))), .val (.int (2 : Int32))] [(.int (((((0 : Int32) <<< ((8 : Int32) &&& 31)) ||| ((g (o + (3 : Int32)).toNatClampNeg) &&& (255 : Int32))) <<< ((8 : Int32) &&& 31)) ||| ((g (o + (2 : Int32)).toNatClampNeg) &&& (255 : Int32))))]))
  refine GoOn.step (fun t₀ k₀ => XS.istoreN X0.here hx rfl (hb hby d1_27) rfl (l' := #[.val (.ref a), .val (.int o), .val (.int (4 : Int32)), .val (.int (((((0 : Int32) <<< ((8 : Int32) &&& 31)) ||| ((g (o + (3 : Int32)).toNatClampNeg) &&& (255 : Int32))) <<< ((8 : Int32) &&& 31)) ||| ((g (o + (2 : Int32)).toNatClampNeg) &&& (255 : Int32)))), .val (.int (2 : Int32))]) rfl k₀) ?_
  show GoOn p e below _ (s₁.setTop (mkF m 28 #[.val (.ref a), .val (.int o), .val (.int (4 : Int32)), .val (.int (((((0 : Int32) <<< ((8 : Int32) &&& 31)) ||| ((g (o + (3 : Int32)).toNatClampNeg) &&& (255 : Int32))) <<< ((8 : Int32) &&& 31)) ||| ((g (o + (2 : Int32)).toNatClampNeg) &&& (255 : Int32)))), .val (.int (2 : Int32))] []))
  refine GoOn.step (fun t₀ k₀ => XS.iinc X0.here hx rfl (hb hby d1_28) rfl (l' := #[.val (.ref a), .val (.int o), .val (.int (4 : Int32)), .val (.int (((((0 : Int32) <<< ((8 : Int32) &&& 31)) ||| ((g (o + (3 : Int32)).toNatClampNeg) &&& (255 : Int32))) <<< ((8 : Int32) &&& 31)) ||| ((g (o + (2 : Int32)).toNatClampNeg) &&& (255 : Int32)))), .val (.int ((2 : Int32) + (-1 : Int32)))]) rfl k₀) ?_
  show GoOn p e below _ (s₁.setTop (mkF m 31 #[.val (.ref a), .val (.int o), .val (.int (4 : Int32)), .val (.int (((((0 : Int32) <<< ((8 : Int32) &&& 31)) ||| ((g (o + (3 : Int32)).toNatClampNeg) &&& (255 : Int32))) <<< ((8 : Int32) &&& 31)) ||| ((g (o + (2 : Int32)).toNatClampNeg) &&& (255 : Int32)))), .val (.int ((2 : Int32) + (-1 : Int32)))] []))
  refine GoOn.step (fun t₀ k₀ => XS.goto X0.here hx rfl (pc0 := 31) (pc' := 7) rfl (hb hby d1_31) (by decide) (by decide) k₀) ?_
  show GoOn p e below _ (s₁.setTop (mkF m 7 #[.val (.ref a), .val (.int o), .val (.int (4 : Int32)), .val (.int (((((0 : Int32) <<< ((8 : Int32) &&& 31)) ||| ((g (o + (3 : Int32)).toNatClampNeg) &&& (255 : Int32))) <<< ((8 : Int32) &&& 31)) ||| ((g (o + (2 : Int32)).toNatClampNeg) &&& (255 : Int32)))), .val (.int ((2 : Int32) + (-1 : Int32)))] []))
  rw [show ((2 : Int32) + (-1 : Int32)) = (1 : Int32) from (by decide)]
  refine GoOn.step (fun t₀ k₀ => XS.iload X0.here hx rfl (hb hby d1_7) rfl k₀) ?_
  show GoOn p e below _ (s₁.setTop (mkF m 9 #[.val (.ref a), .val (.int o), .val (.int (4 : Int32)), .val (.int (((((0 : Int32) <<< ((8 : Int32) &&& 31)) ||| ((g (o + (3 : Int32)).toNatClampNeg) &&& (255 : Int32))) <<< ((8 : Int32) &&& 31)) ||| ((g (o + (2 : Int32)).toNatClampNeg) &&& (255 : Int32)))), .val (.int (1 : Int32))] [(.int (1 : Int32))]))
  have hf13 : ¬ ((1 : Int32) < (0 : Int32)) := (by decide)
  refine GoOn.step (fun t₀ k₀ => XS.ifNo X0.here hx rfl (hb hby d1_9) rfl ((if0 _ _).trans (flt hf13).1) k₀) ?_
  show GoOn p e below _ (s₁.setTop (mkF m 12 #[.val (.ref a), .val (.int o), .val (.int (4 : Int32)), .val (.int (((((0 : Int32) <<< ((8 : Int32) &&& 31)) ||| ((g (o + (3 : Int32)).toNatClampNeg) &&& (255 : Int32))) <<< ((8 : Int32) &&& 31)) ||| ((g (o + (2 : Int32)).toNatClampNeg) &&& (255 : Int32)))), .val (.int (1 : Int32))] []))
  refine GoOn.step (fun t₀ k₀ => XS.iloadN X0.here hx rfl (hb hby d1_12) rfl k₀) ?_
  show GoOn p e below _ (s₁.setTop (mkF m 13 #[.val (.ref a), .val (.int o), .val (.int (4 : Int32)), .val (.int (((((0 : Int32) <<< ((8 : Int32) &&& 31)) ||| ((g (o + (3 : Int32)).toNatClampNeg) &&& (255 : Int32))) <<< ((8 : Int32) &&& 31)) ||| ((g (o + (2 : Int32)).toNatClampNeg) &&& (255 : Int32)))), .val (.int (1 : Int32))] [(.int (((((0 : Int32) <<< ((8 : Int32) &&& 31)) ||| ((g (o + (3 : Int32)).toNatClampNeg) &&& (255 : Int32))) <<< ((8 : Int32) &&& 31)) ||| ((g (o + (2 : Int32)).toNatClampNeg) &&& (255 : Int32))))]))
  refine GoOn.step (fun t₀ k₀ => XS.bipush X0.here hx rfl (hb hby d1_13) k₀) ?_
  show GoOn p e below _ (s₁.setTop (mkF m 15 #[.val (.ref a), .val (.int o), .val (.int (4 : Int32)), .val (.int (((((0 : Int32) <<< ((8 : Int32) &&& 31)) ||| ((g (o + (3 : Int32)).toNatClampNeg) &&& (255 : Int32))) <<< ((8 : Int32) &&& 31)) ||| ((g (o + (2 : Int32)).toNatClampNeg) &&& (255 : Int32)))), .val (.int (1 : Int32))] [(.int (8 : Int32)), (.int (((((0 : Int32) <<< ((8 : Int32) &&& 31)) ||| ((g (o + (3 : Int32)).toNatClampNeg) &&& (255 : Int32))) <<< ((8 : Int32) &&& 31)) ||| ((g (o + (2 : Int32)).toNatClampNeg) &&& (255 : Int32))))]))
  refine GoOn.step (fun t₀ k₀ => XS.ishl X0.here hx rfl (hb hby d1_15) rfl k₀) ?_
  show GoOn p e below _ (s₁.setTop (mkF m 16 #[.val (.ref a), .val (.int o), .val (.int (4 : Int32)), .val (.int (((((0 : Int32) <<< ((8 : Int32) &&& 31)) ||| ((g (o + (3 : Int32)).toNatClampNeg) &&& (255 : Int32))) <<< ((8 : Int32) &&& 31)) ||| ((g (o + (2 : Int32)).toNatClampNeg) &&& (255 : Int32)))), .val (.int (1 : Int32))] [(.int ((((((0 : Int32) <<< ((8 : Int32) &&& 31)) ||| ((g (o + (3 : Int32)).toNatClampNeg) &&& (255 : Int32))) <<< ((8 : Int32) &&& 31)) ||| ((g (o + (2 : Int32)).toNatClampNeg) &&& (255 : Int32))) <<< ((8 : Int32) &&& 31)))]))
  refine GoOn.step (fun t₀ k₀ => XS.aloadN X0.here hx rfl (hb hby d1_16) rfl rfl k₀) ?_
  show GoOn p e below _ (s₁.setTop (mkF m 17 #[.val (.ref a), .val (.int o), .val (.int (4 : Int32)), .val (.int (((((0 : Int32) <<< ((8 : Int32) &&& 31)) ||| ((g (o + (3 : Int32)).toNatClampNeg) &&& (255 : Int32))) <<< ((8 : Int32) &&& 31)) ||| ((g (o + (2 : Int32)).toNatClampNeg) &&& (255 : Int32)))), .val (.int (1 : Int32))] [(.ref a), (.int ((((((0 : Int32) <<< ((8 : Int32) &&& 31)) ||| ((g (o + (3 : Int32)).toNatClampNeg) &&& (255 : Int32))) <<< ((8 : Int32) &&& 31)) ||| ((g (o + (2 : Int32)).toNatClampNeg) &&& (255 : Int32))) <<< ((8 : Int32) &&& 31)))]))
  refine GoOn.step (fun t₀ k₀ => XS.iloadN X0.here hx rfl (hb hby d1_17) rfl k₀) ?_
  show GoOn p e below _ (s₁.setTop (mkF m 18 #[.val (.ref a), .val (.int o), .val (.int (4 : Int32)), .val (.int (((((0 : Int32) <<< ((8 : Int32) &&& 31)) ||| ((g (o + (3 : Int32)).toNatClampNeg) &&& (255 : Int32))) <<< ((8 : Int32) &&& 31)) ||| ((g (o + (2 : Int32)).toNatClampNeg) &&& (255 : Int32)))), .val (.int (1 : Int32))] [(.int o), (.ref a), (.int ((((((0 : Int32) <<< ((8 : Int32) &&& 31)) ||| ((g (o + (3 : Int32)).toNatClampNeg) &&& (255 : Int32))) <<< ((8 : Int32) &&& 31)) ||| ((g (o + (2 : Int32)).toNatClampNeg) &&& (255 : Int32))) <<< ((8 : Int32) &&& 31)))]))
  refine GoOn.step (fun t₀ k₀ => XS.iload X0.here hx rfl (hb hby d1_18) rfl k₀) ?_
  show GoOn p e below _ (s₁.setTop (mkF m 20 #[.val (.ref a), .val (.int o), .val (.int (4 : Int32)), .val (.int (((((0 : Int32) <<< ((8 : Int32) &&& 31)) ||| ((g (o + (3 : Int32)).toNatClampNeg) &&& (255 : Int32))) <<< ((8 : Int32) &&& 31)) ||| ((g (o + (2 : Int32)).toNatClampNeg) &&& (255 : Int32)))), .val (.int (1 : Int32))] [(.int (1 : Int32)), (.int o), (.ref a), (.int ((((((0 : Int32) <<< ((8 : Int32) &&& 31)) ||| ((g (o + (3 : Int32)).toNatClampNeg) &&& (255 : Int32))) <<< ((8 : Int32) &&& 31)) ||| ((g (o + (2 : Int32)).toNatClampNeg) &&& (255 : Int32))) <<< ((8 : Int32) &&& 31)))]))
  refine GoOn.step (fun t₀ k₀ => XS.iadd X0.here hx rfl (hb hby d1_20) rfl k₀) ?_
  show GoOn p e below _ (s₁.setTop (mkF m 21 #[.val (.ref a), .val (.int o), .val (.int (4 : Int32)), .val (.int (((((0 : Int32) <<< ((8 : Int32) &&& 31)) ||| ((g (o + (3 : Int32)).toNatClampNeg) &&& (255 : Int32))) <<< ((8 : Int32) &&& 31)) ||| ((g (o + (2 : Int32)).toNatClampNeg) &&& (255 : Int32)))), .val (.int (1 : Int32))] [(.int (o + (1 : Int32))), (.ref a), (.int ((((((0 : Int32) <<< ((8 : Int32) &&& 31)) ||| ((g (o + (3 : Int32)).toNatClampNeg) &&& (255 : Int32))) <<< ((8 : Int32) &&& 31)) ||| ((g (o + (2 : Int32)).toNatClampNeg) &&& (255 : Int32))) <<< ((8 : Int32) &&& 31)))]))
  refine GoOn.step (fun t₀ k₀ => kLdB X0 hx hZ e0 F (j := (o + (1 : Int32))) (v := (.int (g (o + (1 : Int32)).toNatClampNeg))) (ix ho ⟨by decide, by decide⟩) rfl (g := (mkF m 21 #[.val (.ref a), .val (.int o), .val (.int (4 : Int32)), .val (.int (((((0 : Int32) <<< ((8 : Int32) &&& 31)) ||| ((g (o + (3 : Int32)).toNatClampNeg) &&& (255 : Int32))) <<< ((8 : Int32) &&& 31)) ||| ((g (o + (2 : Int32)).toNatClampNeg) &&& (255 : Int32)))), .val (.int (1 : Int32))] [(.int (o + (1 : Int32))), (.ref a), (.int ((((((0 : Int32) <<< ((8 : Int32) &&& 31)) ||| ((g (o + (3 : Int32)).toNatClampNeg) &&& (255 : Int32))) <<< ((8 : Int32) &&& 31)) ||| ((g (o + (2 : Int32)).toNatClampNeg) &&& (255 : Int32))) <<< ((8 : Int32) &&& 31)))])) rfl rfl (hb hby d1_21) t₀ k₀) ?_
  show GoOn p e below _ (s₁.setTop (mkF m 22 #[.val (.ref a), .val (.int o), .val (.int (4 : Int32)), .val (.int (((((0 : Int32) <<< ((8 : Int32) &&& 31)) ||| ((g (o + (3 : Int32)).toNatClampNeg) &&& (255 : Int32))) <<< ((8 : Int32) &&& 31)) ||| ((g (o + (2 : Int32)).toNatClampNeg) &&& (255 : Int32)))), .val (.int (1 : Int32))] [(.int (g (o + (1 : Int32)).toNatClampNeg)), (.int ((((((0 : Int32) <<< ((8 : Int32) &&& 31)) ||| ((g (o + (3 : Int32)).toNatClampNeg) &&& (255 : Int32))) <<< ((8 : Int32) &&& 31)) ||| ((g (o + (2 : Int32)).toNatClampNeg) &&& (255 : Int32))) <<< ((8 : Int32) &&& 31)))]))
  refine GoOn.step (fun t₀ k₀ => XS.sipush X0.here hx rfl (hb hby d1_22) k₀) ?_
  show GoOn p e below _ (s₁.setTop (mkF m 25 #[.val (.ref a), .val (.int o), .val (.int (4 : Int32)), .val (.int (((((0 : Int32) <<< ((8 : Int32) &&& 31)) ||| ((g (o + (3 : Int32)).toNatClampNeg) &&& (255 : Int32))) <<< ((8 : Int32) &&& 31)) ||| ((g (o + (2 : Int32)).toNatClampNeg) &&& (255 : Int32)))), .val (.int (1 : Int32))] [(.int (255 : Int32)), (.int (g (o + (1 : Int32)).toNatClampNeg)), (.int ((((((0 : Int32) <<< ((8 : Int32) &&& 31)) ||| ((g (o + (3 : Int32)).toNatClampNeg) &&& (255 : Int32))) <<< ((8 : Int32) &&& 31)) ||| ((g (o + (2 : Int32)).toNatClampNeg) &&& (255 : Int32))) <<< ((8 : Int32) &&& 31)))]))
  refine GoOn.step (fun t₀ k₀ => XS.iand X0.here hx rfl (hb hby d1_25) rfl k₀) ?_
  show GoOn p e below _ (s₁.setTop (mkF m 26 #[.val (.ref a), .val (.int o), .val (.int (4 : Int32)), .val (.int (((((0 : Int32) <<< ((8 : Int32) &&& 31)) ||| ((g (o + (3 : Int32)).toNatClampNeg) &&& (255 : Int32))) <<< ((8 : Int32) &&& 31)) ||| ((g (o + (2 : Int32)).toNatClampNeg) &&& (255 : Int32)))), .val (.int (1 : Int32))] [(.int ((g (o + (1 : Int32)).toNatClampNeg) &&& (255 : Int32))), (.int ((((((0 : Int32) <<< ((8 : Int32) &&& 31)) ||| ((g (o + (3 : Int32)).toNatClampNeg) &&& (255 : Int32))) <<< ((8 : Int32) &&& 31)) ||| ((g (o + (2 : Int32)).toNatClampNeg) &&& (255 : Int32))) <<< ((8 : Int32) &&& 31)))]))
  refine GoOn.step (fun t₀ k₀ => XS.ior X0.here hx rfl (hb hby d1_26) rfl k₀) ?_
  show GoOn p e below _ (s₁.setTop (mkF m 27 #[.val (.ref a), .val (.int o), .val (.int (4 : Int32)), .val (.int (((((0 : Int32) <<< ((8 : Int32) &&& 31)) ||| ((g (o + (3 : Int32)).toNatClampNeg) &&& (255 : Int32))) <<< ((8 : Int32) &&& 31)) ||| ((g (o + (2 : Int32)).toNatClampNeg) &&& (255 : Int32)))), .val (.int (1 : Int32))] [(.int (((((((0 : Int32) <<< ((8 : Int32) &&& 31)) ||| ((g (o + (3 : Int32)).toNatClampNeg) &&& (255 : Int32))) <<< ((8 : Int32) &&& 31)) ||| ((g (o + (2 : Int32)).toNatClampNeg) &&& (255 : Int32))) <<< ((8 : Int32) &&& 31)) ||| ((g (o + (1 : Int32)).toNatClampNeg) &&& (255 : Int32))))]))
  refine GoOn.step (fun t₀ k₀ => XS.istoreN X0.here hx rfl (hb hby d1_27) rfl (l' := #[.val (.ref a), .val (.int o), .val (.int (4 : Int32)), .val (.int (((((((0 : Int32) <<< ((8 : Int32) &&& 31)) ||| ((g (o + (3 : Int32)).toNatClampNeg) &&& (255 : Int32))) <<< ((8 : Int32) &&& 31)) ||| ((g (o + (2 : Int32)).toNatClampNeg) &&& (255 : Int32))) <<< ((8 : Int32) &&& 31)) ||| ((g (o + (1 : Int32)).toNatClampNeg) &&& (255 : Int32)))), .val (.int (1 : Int32))]) rfl k₀) ?_
  show GoOn p e below _ (s₁.setTop (mkF m 28 #[.val (.ref a), .val (.int o), .val (.int (4 : Int32)), .val (.int (((((((0 : Int32) <<< ((8 : Int32) &&& 31)) ||| ((g (o + (3 : Int32)).toNatClampNeg) &&& (255 : Int32))) <<< ((8 : Int32) &&& 31)) ||| ((g (o + (2 : Int32)).toNatClampNeg) &&& (255 : Int32))) <<< ((8 : Int32) &&& 31)) ||| ((g (o + (1 : Int32)).toNatClampNeg) &&& (255 : Int32)))), .val (.int (1 : Int32))] []))
  refine GoOn.step (fun t₀ k₀ => XS.iinc X0.here hx rfl (hb hby d1_28) rfl (l' := #[.val (.ref a), .val (.int o), .val (.int (4 : Int32)), .val (.int (((((((0 : Int32) <<< ((8 : Int32) &&& 31)) ||| ((g (o + (3 : Int32)).toNatClampNeg) &&& (255 : Int32))) <<< ((8 : Int32) &&& 31)) ||| ((g (o + (2 : Int32)).toNatClampNeg) &&& (255 : Int32))) <<< ((8 : Int32) &&& 31)) ||| ((g (o + (1 : Int32)).toNatClampNeg) &&& (255 : Int32)))), .val (.int ((1 : Int32) + (-1 : Int32)))]) rfl k₀) ?_
  show GoOn p e below _ (s₁.setTop (mkF m 31 #[.val (.ref a), .val (.int o), .val (.int (4 : Int32)), .val (.int (((((((0 : Int32) <<< ((8 : Int32) &&& 31)) ||| ((g (o + (3 : Int32)).toNatClampNeg) &&& (255 : Int32))) <<< ((8 : Int32) &&& 31)) ||| ((g (o + (2 : Int32)).toNatClampNeg) &&& (255 : Int32))) <<< ((8 : Int32) &&& 31)) ||| ((g (o + (1 : Int32)).toNatClampNeg) &&& (255 : Int32)))), .val (.int ((1 : Int32) + (-1 : Int32)))] []))
  refine GoOn.step (fun t₀ k₀ => XS.goto X0.here hx rfl (pc0 := 31) (pc' := 7) rfl (hb hby d1_31) (by decide) (by decide) k₀) ?_
  show GoOn p e below _ (s₁.setTop (mkF m 7 #[.val (.ref a), .val (.int o), .val (.int (4 : Int32)), .val (.int (((((((0 : Int32) <<< ((8 : Int32) &&& 31)) ||| ((g (o + (3 : Int32)).toNatClampNeg) &&& (255 : Int32))) <<< ((8 : Int32) &&& 31)) ||| ((g (o + (2 : Int32)).toNatClampNeg) &&& (255 : Int32))) <<< ((8 : Int32) &&& 31)) ||| ((g (o + (1 : Int32)).toNatClampNeg) &&& (255 : Int32)))), .val (.int ((1 : Int32) + (-1 : Int32)))] []))
  rw [show ((1 : Int32) + (-1 : Int32)) = (0 : Int32) from (by decide)]
  refine GoOn.step (fun t₀ k₀ => XS.iload X0.here hx rfl (hb hby d1_7) rfl k₀) ?_
  show GoOn p e below _ (s₁.setTop (mkF m 9 #[.val (.ref a), .val (.int o), .val (.int (4 : Int32)), .val (.int (((((((0 : Int32) <<< ((8 : Int32) &&& 31)) ||| ((g (o + (3 : Int32)).toNatClampNeg) &&& (255 : Int32))) <<< ((8 : Int32) &&& 31)) ||| ((g (o + (2 : Int32)).toNatClampNeg) &&& (255 : Int32))) <<< ((8 : Int32) &&& 31)) ||| ((g (o + (1 : Int32)).toNatClampNeg) &&& (255 : Int32)))), .val (.int (0 : Int32))] [(.int (0 : Int32))]))
  have hf14 : ¬ ((0 : Int32) < (0 : Int32)) := (by decide)
  refine GoOn.step (fun t₀ k₀ => XS.ifNo X0.here hx rfl (hb hby d1_9) rfl ((if0 _ _).trans (flt hf14).1) k₀) ?_
  show GoOn p e below _ (s₁.setTop (mkF m 12 #[.val (.ref a), .val (.int o), .val (.int (4 : Int32)), .val (.int (((((((0 : Int32) <<< ((8 : Int32) &&& 31)) ||| ((g (o + (3 : Int32)).toNatClampNeg) &&& (255 : Int32))) <<< ((8 : Int32) &&& 31)) ||| ((g (o + (2 : Int32)).toNatClampNeg) &&& (255 : Int32))) <<< ((8 : Int32) &&& 31)) ||| ((g (o + (1 : Int32)).toNatClampNeg) &&& (255 : Int32)))), .val (.int (0 : Int32))] []))
  refine GoOn.step (fun t₀ k₀ => XS.iloadN X0.here hx rfl (hb hby d1_12) rfl k₀) ?_
  show GoOn p e below _ (s₁.setTop (mkF m 13 #[.val (.ref a), .val (.int o), .val (.int (4 : Int32)), .val (.int (((((((0 : Int32) <<< ((8 : Int32) &&& 31)) ||| ((g (o + (3 : Int32)).toNatClampNeg) &&& (255 : Int32))) <<< ((8 : Int32) &&& 31)) ||| ((g (o + (2 : Int32)).toNatClampNeg) &&& (255 : Int32))) <<< ((8 : Int32) &&& 31)) ||| ((g (o + (1 : Int32)).toNatClampNeg) &&& (255 : Int32)))), .val (.int (0 : Int32))] [(.int (((((((0 : Int32) <<< ((8 : Int32) &&& 31)) ||| ((g (o + (3 : Int32)).toNatClampNeg) &&& (255 : Int32))) <<< ((8 : Int32) &&& 31)) ||| ((g (o + (2 : Int32)).toNatClampNeg) &&& (255 : Int32))) <<< ((8 : Int32) &&& 31)) ||| ((g (o + (1 : Int32)).toNatClampNeg) &&& (255 : Int32))))]))
  refine GoOn.step (fun t₀ k₀ => XS.bipush X0.here hx rfl (hb hby d1_13) k₀) ?_
  show GoOn p e below _ (s₁.setTop (mkF m 15 #[.val (.ref a), .val (.int o), .val (.int (4 : Int32)), .val (.int (((((((0 : Int32) <<< ((8 : Int32) &&& 31)) ||| ((g (o + (3 : Int32)).toNatClampNeg) &&& (255 : Int32))) <<< ((8 : Int32) &&& 31)) ||| ((g (o + (2 : Int32)).toNatClampNeg) &&& (255 : Int32))) <<< ((8 : Int32) &&& 31)) ||| ((g (o + (1 : Int32)).toNatClampNeg) &&& (255 : Int32)))), .val (.int (0 : Int32))] [(.int (8 : Int32)), (.int (((((((0 : Int32) <<< ((8 : Int32) &&& 31)) ||| ((g (o + (3 : Int32)).toNatClampNeg) &&& (255 : Int32))) <<< ((8 : Int32) &&& 31)) ||| ((g (o + (2 : Int32)).toNatClampNeg) &&& (255 : Int32))) <<< ((8 : Int32) &&& 31)) ||| ((g (o + (1 : Int32)).toNatClampNeg) &&& (255 : Int32))))]))
  refine GoOn.step (fun t₀ k₀ => XS.ishl X0.here hx rfl (hb hby d1_15) rfl k₀) ?_
  show GoOn p e below _ (s₁.setTop (mkF m 16 #[.val (.ref a), .val (.int o), .val (.int (4 : Int32)), .val (.int (((((((0 : Int32) <<< ((8 : Int32) &&& 31)) ||| ((g (o + (3 : Int32)).toNatClampNeg) &&& (255 : Int32))) <<< ((8 : Int32) &&& 31)) ||| ((g (o + (2 : Int32)).toNatClampNeg) &&& (255 : Int32))) <<< ((8 : Int32) &&& 31)) ||| ((g (o + (1 : Int32)).toNatClampNeg) &&& (255 : Int32)))), .val (.int (0 : Int32))] [(.int ((((((((0 : Int32) <<< ((8 : Int32) &&& 31)) ||| ((g (o + (3 : Int32)).toNatClampNeg) &&& (255 : Int32))) <<< ((8 : Int32) &&& 31)) ||| ((g (o + (2 : Int32)).toNatClampNeg) &&& (255 : Int32))) <<< ((8 : Int32) &&& 31)) ||| ((g (o + (1 : Int32)).toNatClampNeg) &&& (255 : Int32))) <<< ((8 : Int32) &&& 31)))]))
  refine GoOn.step (fun t₀ k₀ => XS.aloadN X0.here hx rfl (hb hby d1_16) rfl rfl k₀) ?_
  show GoOn p e below _ (s₁.setTop (mkF m 17 #[.val (.ref a), .val (.int o), .val (.int (4 : Int32)), .val (.int (((((((0 : Int32) <<< ((8 : Int32) &&& 31)) ||| ((g (o + (3 : Int32)).toNatClampNeg) &&& (255 : Int32))) <<< ((8 : Int32) &&& 31)) ||| ((g (o + (2 : Int32)).toNatClampNeg) &&& (255 : Int32))) <<< ((8 : Int32) &&& 31)) ||| ((g (o + (1 : Int32)).toNatClampNeg) &&& (255 : Int32)))), .val (.int (0 : Int32))] [(.ref a), (.int ((((((((0 : Int32) <<< ((8 : Int32) &&& 31)) ||| ((g (o + (3 : Int32)).toNatClampNeg) &&& (255 : Int32))) <<< ((8 : Int32) &&& 31)) ||| ((g (o + (2 : Int32)).toNatClampNeg) &&& (255 : Int32))) <<< ((8 : Int32) &&& 31)) ||| ((g (o + (1 : Int32)).toNatClampNeg) &&& (255 : Int32))) <<< ((8 : Int32) &&& 31)))]))
  refine GoOn.step (fun t₀ k₀ => XS.iloadN X0.here hx rfl (hb hby d1_17) rfl k₀) ?_
  show GoOn p e below _ (s₁.setTop (mkF m 18 #[.val (.ref a), .val (.int o), .val (.int (4 : Int32)), .val (.int (((((((0 : Int32) <<< ((8 : Int32) &&& 31)) ||| ((g (o + (3 : Int32)).toNatClampNeg) &&& (255 : Int32))) <<< ((8 : Int32) &&& 31)) ||| ((g (o + (2 : Int32)).toNatClampNeg) &&& (255 : Int32))) <<< ((8 : Int32) &&& 31)) ||| ((g (o + (1 : Int32)).toNatClampNeg) &&& (255 : Int32)))), .val (.int (0 : Int32))] [(.int o), (.ref a), (.int ((((((((0 : Int32) <<< ((8 : Int32) &&& 31)) ||| ((g (o + (3 : Int32)).toNatClampNeg) &&& (255 : Int32))) <<< ((8 : Int32) &&& 31)) ||| ((g (o + (2 : Int32)).toNatClampNeg) &&& (255 : Int32))) <<< ((8 : Int32) &&& 31)) ||| ((g (o + (1 : Int32)).toNatClampNeg) &&& (255 : Int32))) <<< ((8 : Int32) &&& 31)))]))
  refine GoOn.step (fun t₀ k₀ => XS.iload X0.here hx rfl (hb hby d1_18) rfl k₀) ?_
  show GoOn p e below _ (s₁.setTop (mkF m 20 #[.val (.ref a), .val (.int o), .val (.int (4 : Int32)), .val (.int (((((((0 : Int32) <<< ((8 : Int32) &&& 31)) ||| ((g (o + (3 : Int32)).toNatClampNeg) &&& (255 : Int32))) <<< ((8 : Int32) &&& 31)) ||| ((g (o + (2 : Int32)).toNatClampNeg) &&& (255 : Int32))) <<< ((8 : Int32) &&& 31)) ||| ((g (o + (1 : Int32)).toNatClampNeg) &&& (255 : Int32)))), .val (.int (0 : Int32))] [(.int (0 : Int32)), (.int o), (.ref a), (.int ((((((((0 : Int32) <<< ((8 : Int32) &&& 31)) ||| ((g (o + (3 : Int32)).toNatClampNeg) &&& (255 : Int32))) <<< ((8 : Int32) &&& 31)) ||| ((g (o + (2 : Int32)).toNatClampNeg) &&& (255 : Int32))) <<< ((8 : Int32) &&& 31)) ||| ((g (o + (1 : Int32)).toNatClampNeg) &&& (255 : Int32))) <<< ((8 : Int32) &&& 31)))]))
  refine GoOn.step (fun t₀ k₀ => XS.iadd X0.here hx rfl (hb hby d1_20) rfl k₀) ?_
  show GoOn p e below _ (s₁.setTop (mkF m 21 #[.val (.ref a), .val (.int o), .val (.int (4 : Int32)), .val (.int (((((((0 : Int32) <<< ((8 : Int32) &&& 31)) ||| ((g (o + (3 : Int32)).toNatClampNeg) &&& (255 : Int32))) <<< ((8 : Int32) &&& 31)) ||| ((g (o + (2 : Int32)).toNatClampNeg) &&& (255 : Int32))) <<< ((8 : Int32) &&& 31)) ||| ((g (o + (1 : Int32)).toNatClampNeg) &&& (255 : Int32)))), .val (.int (0 : Int32))] [(.int (o + (0 : Int32))), (.ref a), (.int ((((((((0 : Int32) <<< ((8 : Int32) &&& 31)) ||| ((g (o + (3 : Int32)).toNatClampNeg) &&& (255 : Int32))) <<< ((8 : Int32) &&& 31)) ||| ((g (o + (2 : Int32)).toNatClampNeg) &&& (255 : Int32))) <<< ((8 : Int32) &&& 31)) ||| ((g (o + (1 : Int32)).toNatClampNeg) &&& (255 : Int32))) <<< ((8 : Int32) &&& 31)))]))
  refine GoOn.step (fun t₀ k₀ => kLdB X0 hx hZ e0 F (j := (o + (0 : Int32))) (v := (.int (g (o + (0 : Int32)).toNatClampNeg))) (ix ho ⟨by decide, by decide⟩) rfl (g := (mkF m 21 #[.val (.ref a), .val (.int o), .val (.int (4 : Int32)), .val (.int (((((((0 : Int32) <<< ((8 : Int32) &&& 31)) ||| ((g (o + (3 : Int32)).toNatClampNeg) &&& (255 : Int32))) <<< ((8 : Int32) &&& 31)) ||| ((g (o + (2 : Int32)).toNatClampNeg) &&& (255 : Int32))) <<< ((8 : Int32) &&& 31)) ||| ((g (o + (1 : Int32)).toNatClampNeg) &&& (255 : Int32)))), .val (.int (0 : Int32))] [(.int (o + (0 : Int32))), (.ref a), (.int ((((((((0 : Int32) <<< ((8 : Int32) &&& 31)) ||| ((g (o + (3 : Int32)).toNatClampNeg) &&& (255 : Int32))) <<< ((8 : Int32) &&& 31)) ||| ((g (o + (2 : Int32)).toNatClampNeg) &&& (255 : Int32))) <<< ((8 : Int32) &&& 31)) ||| ((g (o + (1 : Int32)).toNatClampNeg) &&& (255 : Int32))) <<< ((8 : Int32) &&& 31)))])) rfl rfl (hb hby d1_21) t₀ k₀) ?_
  show GoOn p e below _ (s₁.setTop (mkF m 22 #[.val (.ref a), .val (.int o), .val (.int (4 : Int32)), .val (.int (((((((0 : Int32) <<< ((8 : Int32) &&& 31)) ||| ((g (o + (3 : Int32)).toNatClampNeg) &&& (255 : Int32))) <<< ((8 : Int32) &&& 31)) ||| ((g (o + (2 : Int32)).toNatClampNeg) &&& (255 : Int32))) <<< ((8 : Int32) &&& 31)) ||| ((g (o + (1 : Int32)).toNatClampNeg) &&& (255 : Int32)))), .val (.int (0 : Int32))] [(.int (g (o + (0 : Int32)).toNatClampNeg)), (.int ((((((((0 : Int32) <<< ((8 : Int32) &&& 31)) ||| ((g (o + (3 : Int32)).toNatClampNeg) &&& (255 : Int32))) <<< ((8 : Int32) &&& 31)) ||| ((g (o + (2 : Int32)).toNatClampNeg) &&& (255 : Int32))) <<< ((8 : Int32) &&& 31)) ||| ((g (o + (1 : Int32)).toNatClampNeg) &&& (255 : Int32))) <<< ((8 : Int32) &&& 31)))]))
  refine GoOn.step (fun t₀ k₀ => XS.sipush X0.here hx rfl (hb hby d1_22) k₀) ?_
  show GoOn p e below _ (s₁.setTop (mkF m 25 #[.val (.ref a), .val (.int o), .val (.int (4 : Int32)), .val (.int (((((((0 : Int32) <<< ((8 : Int32) &&& 31)) ||| ((g (o + (3 : Int32)).toNatClampNeg) &&& (255 : Int32))) <<< ((8 : Int32) &&& 31)) ||| ((g (o + (2 : Int32)).toNatClampNeg) &&& (255 : Int32))) <<< ((8 : Int32) &&& 31)) ||| ((g (o + (1 : Int32)).toNatClampNeg) &&& (255 : Int32)))), .val (.int (0 : Int32))] [(.int (255 : Int32)), (.int (g (o + (0 : Int32)).toNatClampNeg)), (.int ((((((((0 : Int32) <<< ((8 : Int32) &&& 31)) ||| ((g (o + (3 : Int32)).toNatClampNeg) &&& (255 : Int32))) <<< ((8 : Int32) &&& 31)) ||| ((g (o + (2 : Int32)).toNatClampNeg) &&& (255 : Int32))) <<< ((8 : Int32) &&& 31)) ||| ((g (o + (1 : Int32)).toNatClampNeg) &&& (255 : Int32))) <<< ((8 : Int32) &&& 31)))]))
  refine GoOn.step (fun t₀ k₀ => XS.iand X0.here hx rfl (hb hby d1_25) rfl k₀) ?_
  show GoOn p e below _ (s₁.setTop (mkF m 26 #[.val (.ref a), .val (.int o), .val (.int (4 : Int32)), .val (.int (((((((0 : Int32) <<< ((8 : Int32) &&& 31)) ||| ((g (o + (3 : Int32)).toNatClampNeg) &&& (255 : Int32))) <<< ((8 : Int32) &&& 31)) ||| ((g (o + (2 : Int32)).toNatClampNeg) &&& (255 : Int32))) <<< ((8 : Int32) &&& 31)) ||| ((g (o + (1 : Int32)).toNatClampNeg) &&& (255 : Int32)))), .val (.int (0 : Int32))] [(.int ((g (o + (0 : Int32)).toNatClampNeg) &&& (255 : Int32))), (.int ((((((((0 : Int32) <<< ((8 : Int32) &&& 31)) ||| ((g (o + (3 : Int32)).toNatClampNeg) &&& (255 : Int32))) <<< ((8 : Int32) &&& 31)) ||| ((g (o + (2 : Int32)).toNatClampNeg) &&& (255 : Int32))) <<< ((8 : Int32) &&& 31)) ||| ((g (o + (1 : Int32)).toNatClampNeg) &&& (255 : Int32))) <<< ((8 : Int32) &&& 31)))]))
  refine GoOn.step (fun t₀ k₀ => XS.ior X0.here hx rfl (hb hby d1_26) rfl k₀) ?_
  show GoOn p e below _ (s₁.setTop (mkF m 27 #[.val (.ref a), .val (.int o), .val (.int (4 : Int32)), .val (.int (((((((0 : Int32) <<< ((8 : Int32) &&& 31)) ||| ((g (o + (3 : Int32)).toNatClampNeg) &&& (255 : Int32))) <<< ((8 : Int32) &&& 31)) ||| ((g (o + (2 : Int32)).toNatClampNeg) &&& (255 : Int32))) <<< ((8 : Int32) &&& 31)) ||| ((g (o + (1 : Int32)).toNatClampNeg) &&& (255 : Int32)))), .val (.int (0 : Int32))] [(.int (((((((((0 : Int32) <<< ((8 : Int32) &&& 31)) ||| ((g (o + (3 : Int32)).toNatClampNeg) &&& (255 : Int32))) <<< ((8 : Int32) &&& 31)) ||| ((g (o + (2 : Int32)).toNatClampNeg) &&& (255 : Int32))) <<< ((8 : Int32) &&& 31)) ||| ((g (o + (1 : Int32)).toNatClampNeg) &&& (255 : Int32))) <<< ((8 : Int32) &&& 31)) ||| ((g (o + (0 : Int32)).toNatClampNeg) &&& (255 : Int32))))]))
  refine GoOn.step (fun t₀ k₀ => XS.istoreN X0.here hx rfl (hb hby d1_27) rfl (l' := #[.val (.ref a), .val (.int o), .val (.int (4 : Int32)), .val (.int (((((((((0 : Int32) <<< ((8 : Int32) &&& 31)) ||| ((g (o + (3 : Int32)).toNatClampNeg) &&& (255 : Int32))) <<< ((8 : Int32) &&& 31)) ||| ((g (o + (2 : Int32)).toNatClampNeg) &&& (255 : Int32))) <<< ((8 : Int32) &&& 31)) ||| ((g (o + (1 : Int32)).toNatClampNeg) &&& (255 : Int32))) <<< ((8 : Int32) &&& 31)) ||| ((g (o + (0 : Int32)).toNatClampNeg) &&& (255 : Int32)))), .val (.int (0 : Int32))]) rfl k₀) ?_
  show GoOn p e below _ (s₁.setTop (mkF m 28 #[.val (.ref a), .val (.int o), .val (.int (4 : Int32)), .val (.int (((((((((0 : Int32) <<< ((8 : Int32) &&& 31)) ||| ((g (o + (3 : Int32)).toNatClampNeg) &&& (255 : Int32))) <<< ((8 : Int32) &&& 31)) ||| ((g (o + (2 : Int32)).toNatClampNeg) &&& (255 : Int32))) <<< ((8 : Int32) &&& 31)) ||| ((g (o + (1 : Int32)).toNatClampNeg) &&& (255 : Int32))) <<< ((8 : Int32) &&& 31)) ||| ((g (o + (0 : Int32)).toNatClampNeg) &&& (255 : Int32)))), .val (.int (0 : Int32))] []))
  refine GoOn.step (fun t₀ k₀ => XS.iinc X0.here hx rfl (hb hby d1_28) rfl (l' := #[.val (.ref a), .val (.int o), .val (.int (4 : Int32)), .val (.int (((((((((0 : Int32) <<< ((8 : Int32) &&& 31)) ||| ((g (o + (3 : Int32)).toNatClampNeg) &&& (255 : Int32))) <<< ((8 : Int32) &&& 31)) ||| ((g (o + (2 : Int32)).toNatClampNeg) &&& (255 : Int32))) <<< ((8 : Int32) &&& 31)) ||| ((g (o + (1 : Int32)).toNatClampNeg) &&& (255 : Int32))) <<< ((8 : Int32) &&& 31)) ||| ((g (o + (0 : Int32)).toNatClampNeg) &&& (255 : Int32)))), .val (.int ((0 : Int32) + (-1 : Int32)))]) rfl k₀) ?_
  show GoOn p e below _ (s₁.setTop (mkF m 31 #[.val (.ref a), .val (.int o), .val (.int (4 : Int32)), .val (.int (((((((((0 : Int32) <<< ((8 : Int32) &&& 31)) ||| ((g (o + (3 : Int32)).toNatClampNeg) &&& (255 : Int32))) <<< ((8 : Int32) &&& 31)) ||| ((g (o + (2 : Int32)).toNatClampNeg) &&& (255 : Int32))) <<< ((8 : Int32) &&& 31)) ||| ((g (o + (1 : Int32)).toNatClampNeg) &&& (255 : Int32))) <<< ((8 : Int32) &&& 31)) ||| ((g (o + (0 : Int32)).toNatClampNeg) &&& (255 : Int32)))), .val (.int ((0 : Int32) + (-1 : Int32)))] []))
  refine GoOn.step (fun t₀ k₀ => XS.goto X0.here hx rfl (pc0 := 31) (pc' := 7) rfl (hb hby d1_31) (by decide) (by decide) k₀) ?_
  show GoOn p e below _ (s₁.setTop (mkF m 7 #[.val (.ref a), .val (.int o), .val (.int (4 : Int32)), .val (.int (((((((((0 : Int32) <<< ((8 : Int32) &&& 31)) ||| ((g (o + (3 : Int32)).toNatClampNeg) &&& (255 : Int32))) <<< ((8 : Int32) &&& 31)) ||| ((g (o + (2 : Int32)).toNatClampNeg) &&& (255 : Int32))) <<< ((8 : Int32) &&& 31)) ||| ((g (o + (1 : Int32)).toNatClampNeg) &&& (255 : Int32))) <<< ((8 : Int32) &&& 31)) ||| ((g (o + (0 : Int32)).toNatClampNeg) &&& (255 : Int32)))), .val (.int ((0 : Int32) + (-1 : Int32)))] []))
  rw [show ((0 : Int32) + (-1 : Int32)) = (-1 : Int32) from (by decide)]
  refine GoOn.step (fun t₀ k₀ => XS.iload X0.here hx rfl (hb hby d1_7) rfl k₀) ?_
  show GoOn p e below _ (s₁.setTop (mkF m 9 #[.val (.ref a), .val (.int o), .val (.int (4 : Int32)), .val (.int (((((((((0 : Int32) <<< ((8 : Int32) &&& 31)) ||| ((g (o + (3 : Int32)).toNatClampNeg) &&& (255 : Int32))) <<< ((8 : Int32) &&& 31)) ||| ((g (o + (2 : Int32)).toNatClampNeg) &&& (255 : Int32))) <<< ((8 : Int32) &&& 31)) ||| ((g (o + (1 : Int32)).toNatClampNeg) &&& (255 : Int32))) <<< ((8 : Int32) &&& 31)) ||| ((g (o + (0 : Int32)).toNatClampNeg) &&& (255 : Int32)))), .val (.int (-1 : Int32))] [(.int (-1 : Int32))]))
  have hf15 : (-1 : Int32) < (0 : Int32) := (by decide)
  refine GoOn.step (fun t₀ k₀ => XS.ifYes X0.here hx rfl (pc0 := 9) (pc' := 34) rfl (hb hby d1_9) rfl ((if0 _ _).trans (tlt hf15).1) (by decide) (by decide) k₀) ?_
  show GoOn p e below _ (s₁.setTop (mkF m 34 #[.val (.ref a), .val (.int o), .val (.int (4 : Int32)), .val (.int (((((((((0 : Int32) <<< ((8 : Int32) &&& 31)) ||| ((g (o + (3 : Int32)).toNatClampNeg) &&& (255 : Int32))) <<< ((8 : Int32) &&& 31)) ||| ((g (o + (2 : Int32)).toNatClampNeg) &&& (255 : Int32))) <<< ((8 : Int32) &&& 31)) ||| ((g (o + (1 : Int32)).toNatClampNeg) &&& (255 : Int32))) <<< ((8 : Int32) &&& 31)) ||| ((g (o + (0 : Int32)).toNatClampNeg) &&& (255 : Int32)))), .val (.int (-1 : Int32))] []))
  refine GoOn.step (fun t₀ k₀ => XS.iloadN X0.here hx rfl (hb hby d1_34) rfl k₀) ?_
  show GoOn p e below _ (s₁.setTop (mkF m 35 #[.val (.ref a), .val (.int o), .val (.int (4 : Int32)), .val (.int (((((((((0 : Int32) <<< ((8 : Int32) &&& 31)) ||| ((g (o + (3 : Int32)).toNatClampNeg) &&& (255 : Int32))) <<< ((8 : Int32) &&& 31)) ||| ((g (o + (2 : Int32)).toNatClampNeg) &&& (255 : Int32))) <<< ((8 : Int32) &&& 31)) ||| ((g (o + (1 : Int32)).toNatClampNeg) &&& (255 : Int32))) <<< ((8 : Int32) &&& 31)) ||| ((g (o + (0 : Int32)).toNatClampNeg) &&& (255 : Int32)))), .val (.int (-1 : Int32))] [(.int (((((((((0 : Int32) <<< ((8 : Int32) &&& 31)) ||| ((g (o + (3 : Int32)).toNatClampNeg) &&& (255 : Int32))) <<< ((8 : Int32) &&& 31)) ||| ((g (o + (2 : Int32)).toNatClampNeg) &&& (255 : Int32))) <<< ((8 : Int32) &&& 31)) ||| ((g (o + (1 : Int32)).toNatClampNeg) &&& (255 : Int32))) <<< ((8 : Int32) &&& 31)) ||| ((g (o + (0 : Int32)).toNatClampNeg) &&& (255 : Int32))))]))
  exact GoOn.retI X0 hx hrt hlk (hb hby d1_35) (by decide) (by decide) (by first | exact ⟨rfl, rfl, rfl⟩ | (rw [e0]; exact ⟨rfl, rfl, rfl⟩))
theorem ef_c_u (m : MethodId) (x0 : Addr) (x1 : Int32) (x2 : Int32) (x3 : Int32) : entryFrame m #[(.ref x0), (.int x1), (.int x2), (.int x3)] 4 = mkF m 0 #[.val (.ref x0), .val (.int x1), .val (.int x2), .val (.int x3)] [] := by first | (simp [entryFrame, mkF, argsToLocals, Value.category]; done) | rfl
set_option maxRecDepth 65536 in
set_option maxHeartbeats 40000000 in
theorem c_u (l : Launch) (Z : State) (a0 : Array Value) (hw : ∀ d ∈ tables_1, d.before a0 Z = true) (a : Addr) (o k n : Int32) (g : Nat → Int32) (h0 : Heap) (F : Jar Z h0 a .byte 8 (fun i => .int (g i))) (ho : 0 ≤ o.toInt ∧ o.toInt ≤ 3) (hk : 0 ≤ k.toInt ∧ k.toInt ≤ 3) :
    Con l Z (⟨"com/example/query_warden/querywarden/PacketReadIntPinLaw", "u", "([BIII)I"⟩ : MethodName) method_2_code 4 (some .int) ({ frames := 0, cells := 0, slots := 0, locals := 0 } : Room) #[(.ref a), (.int o), (.int k), (.int n)] h0 (PQ (some (.int (uV g o k n))) h0) := by
  refine Con.intro (plainFor_of_name pn_1) ?_
  intro p e s m below meth c s₁ hx hby hml hrt hlk hZ hown hnm X0 e0
  replace hown : s.vm.findClass "com/example/query_warden/querywarden/PacketReadIntPinLaw" = some m.cls := hown
  refine GoOn.cast (ef_c_u m a o k n) ?_
  show GoOn p e below _ (s₁.setTop (mkF m 0 #[.val (.ref a), .val (.int o), .val (.int k), .val (.int n)] []))
  refine GoOn.step (fun t₀ k₀ => XS.iloadN X0.here hx rfl (hb hby d2_0) rfl k₀) ?_
  show GoOn p e below _ (s₁.setTop (mkF m 1 #[.val (.ref a), .val (.int o), .val (.int k), .val (.int n)] [(.int k)]))
  refine GoOn.step (fun t₀ k₀ => XS.iloadN X0.here hx rfl (hb hby d2_1) rfl k₀) ?_
  show GoOn p e below _ (s₁.setTop (mkF m 2 #[.val (.ref a), .val (.int o), .val (.int k), .val (.int n)] [(.int n), (.int k)]))
  by_cases hc : k < n
  · refine GoOn.step (fun t₀ k₀ => XS.icmpNo X0.here hx rfl (hb hby d2_2) rfl (tlt hc).2.1 k₀) ?_
    show GoOn p e below _ (s₁.setTop (mkF m 5 #[.val (.ref a), .val (.int o), .val (.int k), .val (.int n)] []))
    refine GoOn.step (fun t₀ k₀ => XS.aloadN X0.here hx rfl (hb hby d2_5) rfl rfl k₀) ?_
    show GoOn p e below _ (s₁.setTop (mkF m 6 #[.val (.ref a), .val (.int o), .val (.int k), .val (.int n)] [(.ref a)]))
    refine GoOn.step (fun t₀ k₀ => XS.iloadN X0.here hx rfl (hb hby d2_6) rfl k₀) ?_
    show GoOn p e below _ (s₁.setTop (mkF m 7 #[.val (.ref a), .val (.int o), .val (.int k), .val (.int n)] [(.int o), (.ref a)]))
    refine GoOn.step (fun t₀ k₀ => XS.iloadN X0.here hx rfl (hb hby d2_7) rfl k₀) ?_
    show GoOn p e below _ (s₁.setTop (mkF m 8 #[.val (.ref a), .val (.int o), .val (.int k), .val (.int n)] [(.int k), (.int o), (.ref a)]))
    refine GoOn.step (fun t₀ k₀ => XS.iadd X0.here hx rfl (hb hby d2_8) rfl k₀) ?_
    show GoOn p e below _ (s₁.setTop (mkF m 9 #[.val (.ref a), .val (.int o), .val (.int k), .val (.int n)] [(.int (o + k)), (.ref a)]))
    refine GoOn.step (fun t₀ k₀ => kLdB X0 hx hZ e0 F (j := (o + k)) (v := (.int (g (o + k).toNatClampNeg))) (ix ho hk) rfl (g := (mkF m 9 #[.val (.ref a), .val (.int o), .val (.int k), .val (.int n)] [(.int (o + k)), (.ref a)])) rfl rfl (hb hby d2_9) t₀ k₀) ?_
    show GoOn p e below _ (s₁.setTop (mkF m 10 #[.val (.ref a), .val (.int o), .val (.int k), .val (.int n)] [(.int (g (o + k).toNatClampNeg))]))
    refine GoOn.step (fun t₀ k₀ => XS.sipush X0.here hx rfl (hb hby d2_10) k₀) ?_
    show GoOn p e below _ (s₁.setTop (mkF m 13 #[.val (.ref a), .val (.int o), .val (.int k), .val (.int n)] [(.int (255 : Int32)), (.int (g (o + k).toNatClampNeg))]))
    refine GoOn.step (fun t₀ k₀ => XS.iand X0.here hx rfl (hb hby d2_13) rfl k₀) ?_
    show GoOn p e below _ (s₁.setTop (mkF m 14 #[.val (.ref a), .val (.int o), .val (.int k), .val (.int n)] [(.int ((g (o + k).toNatClampNeg) &&& (255 : Int32)))]))
    exact GoOn.retI X0 hx hrt hlk (hb hby d2_14) (by decide) (by decide) (by first | exact ⟨by rw [uT hc], rfl, rfl⟩ | (rw [e0]; exact ⟨by rw [uT hc], rfl, rfl⟩))
  · refine GoOn.step (fun t₀ k₀ => XS.icmpYes X0.here hx rfl (pc0 := 2) (pc' := 15) rfl (hb hby d2_2) rfl (flt hc).2.1 (by decide) (by decide) k₀) ?_
    show GoOn p e below _ (s₁.setTop (mkF m 15 #[.val (.ref a), .val (.int o), .val (.int k), .val (.int n)] []))
    refine GoOn.step (fun t₀ k₀ => XS.iconst X0.here hx rfl (hb hby d2_15) k₀) ?_
    show GoOn p e below _ (s₁.setTop (mkF m 16 #[.val (.ref a), .val (.int o), .val (.int k), .val (.int n)] [(.int (0 : Int32))]))
    exact GoOn.retI X0 hx hrt hlk (hb hby d2_16) (by decide) (by decide) (by first | exact ⟨by rw [uF hc], rfl, rfl⟩ | (rw [e0]; exact ⟨by rw [uF hc], rfl, rfl⟩))
theorem ef_law_ok (m : MethodId) (x0 : Int32) (x1 : Int32) (x2 : Int32) (x3 : Int32) : entryFrame m #[(.int x0), (.int x1), (.int x2), (.int x3)] maxLocals = mkF m 0 #[.val (.int x0), .val (.int x1), .val (.int x2), .val (.int x3), .unset, .unset, .unset, .unset, .unset] [] := by first | (simp [entryFrame, mkF, argsToLocals, Value.category, maxLocals]; done) | rfl
set_option maxRecDepth 65536 in
set_option maxHeartbeats 40000000 in
theorem law_ok (l : Launch) (Z : State) (a0 : Array Value) (hw : ∀ d ∈ tables_1, d.before a0 Z = true) (q0 q1 q2 q3 : Int32) (h0 : Heap) (n0 : Nat) (Z0 : n0 ≤ h0.size)  :
    Con l Z x code maxLocals ret room_1 #[(.int q0), (.int q1), (.int q2), (.int q3)] h0 (LQ n0) := by
  refine Con.intro (plainFor_of_name pn_1) ?_
  intro p e s m below meth c s₁ hx hby hml hrt hlk hZ hown hnm X0 e0
  replace hown : s.vm.findClass "com/example/query_warden/querywarden/PacketReadIntPinLaw" = some m.cls := hown
  have N0 := Fr.nil n0
  refine GoOn.cast (ef_law_ok m q0 q1 q2 q3) ?_
  show GoOn p e below _ (s₁.setTop (mkF m 0 #[.val (.int q0), .val (.int q1), .val (.int q2), .val (.int q3), .unset, .unset, .unset, .unset, .unset] []))
  refine GoOn.step (fun t₀ k₀ => XS.bipush X0.here hx rfl (hb hby at_0) k₀) ?_
  show GoOn p e below _ (s₁.setTop (mkF m 2 #[.val (.int q0), .val (.int q1), .val (.int q2), .val (.int q3), .unset, .unset, .unset, .unset, .unset] [(.int (8 : Int32))]))
  obtain ⟨T16, h16, k16, X16, e16, E16, A16, st16⟩ := newP X0 hx hZ (hw _ (List.mem_of_getElem? (i := 0) rfl)) e0 (g := (mkF m 2 #[.val (.int q0), .val (.int q1), .val (.int q2), .val (.int q3), .unset, .unset, .unset, .unset, .unset] [(.int (8 : Int32))])) rfl (hb hby at_2) rfl (by decide) (cap := 8) (by decide) (by decide) (by decide) (by decide)
  obtain ⟨b, g16⟩ : ∃ z, z = h0.size := ⟨_, rfl⟩
  rw [← g16] at A16 st16
  have le_b : n0 ≤ b := by rw [g16]; exact Z0
  replace Z0 := Nat.le_trans Z0 E16.1
  have J_b : Jar Z h16 b .byte 8 (fun _ => defaultValue .byte) := Jar.new A16 (by decide)
  refine GoOn.step st16 ?_
  show GoOn p e below _ (T16.setTop (mkF m 4 #[.val (.int q0), .val (.int q1), .val (.int q2), .val (.int q3), .unset, .unset, .unset, .unset, .unset] [(.ref b)]))
  refine GoOn.step (fun t₀ k₀ => XS.astore X16.here hx rfl (hb hby at_4) rfl rfl (l' := #[.val (.int q0), .val (.int q1), .val (.int q2), .val (.int q3), .val (.ref b), .unset, .unset, .unset, .unset]) rfl k₀) ?_
  show GoOn p e below _ (T16.setTop (mkF m 6 #[.val (.int q0), .val (.int q1), .val (.int q2), .val (.int q3), .val (.ref b), .unset, .unset, .unset, .unset] []))
  refine GoOn.step (fun t₀ k₀ => XS.aload X16.here hx rfl (hb hby at_6) rfl rfl k₀) ?_
  show GoOn p e below _ (T16.setTop (mkF m 8 #[.val (.int q0), .val (.int q1), .val (.int q2), .val (.int q3), .val (.ref b), .unset, .unset, .unset, .unset] [(.ref b)]))
  refine GoOn.step (fun t₀ k₀ => XS.iconst X16.here hx rfl (hb hby at_8) k₀) ?_
  show GoOn p e below _ (T16.setTop (mkF m 9 #[.val (.int q0), .val (.int q1), .val (.int q2), .val (.int q3), .val (.ref b), .unset, .unset, .unset, .unset] [(.int (0 : Int32)), (.ref b)]))
  refine GoOn.step (fun t₀ k₀ => XS.iloadN X16.here hx rfl (hb hby at_9) rfl k₀) ?_
  show GoOn p e below _ (T16.setTop (mkF m 10 #[.val (.int q0), .val (.int q1), .val (.int q2), .val (.int q3), .val (.ref b), .unset, .unset, .unset, .unset] [(.int q0), (.int (0 : Int32)), (.ref b)]))
  refine GoOn.step (fun t₀ k₀ => XS.i2b X16.here hx rfl (hb hby at_10) rfl k₀) ?_
  show GoOn p e below _ (T16.setTop (mkF m 11 #[.val (.int q0), .val (.int q1), .val (.int q2), .val (.int q3), .val (.ref b), .unset, .unset, .unset, .unset] [(.int (q0.toInt8.toInt32)), (.int (0 : Int32)), (.ref b)]))
  obtain ⟨T17, h17, X17, e17, W17, st17⟩ := kStB X16 hx hZ e16 J_b (j := (0 : Int32)) ⟨by decide, by decide⟩ (g := (mkF m 11 #[.val (.int q0), .val (.int q1), .val (.int q2), .val (.int q3), .val (.ref b), .unset, .unset, .unset, .unset] [(.int (q0.toInt8.toInt32)), (.int (0 : Int32)), (.ref b)])) rfl rfl (hb hby at_11)
  replace N0 := Fr.snoc X17 N0 le_b
  replace J_b := J_b.set W17
  replace Z0 := Nat.le_trans Z0 (Nat.le_of_eq W17.size.symm)
  refine GoOn.step st17 ?_
  show GoOn p e below _ (T17.setTop (mkF m 12 #[.val (.int q0), .val (.int q1), .val (.int q2), .val (.int q3), .val (.ref b), .unset, .unset, .unset, .unset] []))
  refine GoOn.step (fun t₀ k₀ => XS.aload X17.here hx rfl (hb hby at_12) rfl rfl k₀) ?_
  show GoOn p e below _ (T17.setTop (mkF m 14 #[.val (.int q0), .val (.int q1), .val (.int q2), .val (.int q3), .val (.ref b), .unset, .unset, .unset, .unset] [(.ref b)]))
  refine GoOn.step (fun t₀ k₀ => XS.iconst X17.here hx rfl (hb hby at_14) k₀) ?_
  show GoOn p e below _ (T17.setTop (mkF m 15 #[.val (.int q0), .val (.int q1), .val (.int q2), .val (.int q3), .val (.ref b), .unset, .unset, .unset, .unset] [(.int (1 : Int32)), (.ref b)]))
  refine GoOn.step (fun t₀ k₀ => XS.iloadN X17.here hx rfl (hb hby at_15) rfl k₀) ?_
  show GoOn p e below _ (T17.setTop (mkF m 16 #[.val (.int q0), .val (.int q1), .val (.int q2), .val (.int q3), .val (.ref b), .unset, .unset, .unset, .unset] [(.int q0), (.int (1 : Int32)), (.ref b)]))
  refine GoOn.step (fun t₀ k₀ => XS.bipush X17.here hx rfl (hb hby at_16) k₀) ?_
  show GoOn p e below _ (T17.setTop (mkF m 18 #[.val (.int q0), .val (.int q1), .val (.int q2), .val (.int q3), .val (.ref b), .unset, .unset, .unset, .unset] [(.int (8 : Int32)), (.int q0), (.int (1 : Int32)), (.ref b)]))
  refine GoOn.step (fun t₀ k₀ => XS.iushr X17.here hx rfl (hb hby at_18) rfl k₀) ?_
  show GoOn p e below _ (T17.setTop (mkF m 19 #[.val (.int q0), .val (.int q1), .val (.int q2), .val (.int q3), .val (.ref b), .unset, .unset, .unset, .unset] [(.int ((q0.toUInt32 >>> ((8 : Int32) &&& 31).toUInt32).toInt32)), (.int (1 : Int32)), (.ref b)]))
  refine GoOn.step (fun t₀ k₀ => XS.i2b X17.here hx rfl (hb hby at_19) rfl k₀) ?_
  show GoOn p e below _ (T17.setTop (mkF m 20 #[.val (.int q0), .val (.int q1), .val (.int q2), .val (.int q3), .val (.ref b), .unset, .unset, .unset, .unset] [(.int (((q0.toUInt32 >>> ((8 : Int32) &&& 31).toUInt32).toInt32).toInt8.toInt32)), (.int (1 : Int32)), (.ref b)]))
  obtain ⟨T18, h18, X18, e18, W18, st18⟩ := kStB X17 hx hZ e17 J_b (j := (1 : Int32)) ⟨by decide, by decide⟩ (g := (mkF m 20 #[.val (.int q0), .val (.int q1), .val (.int q2), .val (.int q3), .val (.ref b), .unset, .unset, .unset, .unset] [(.int (((q0.toUInt32 >>> ((8 : Int32) &&& 31).toUInt32).toInt32).toInt8.toInt32)), (.int (1 : Int32)), (.ref b)])) rfl rfl (hb hby at_20)
  replace N0 := Fr.snoc X18 N0 le_b
  replace J_b := J_b.set W18
  replace Z0 := Nat.le_trans Z0 (Nat.le_of_eq W18.size.symm)
  refine GoOn.step st18 ?_
  show GoOn p e below _ (T18.setTop (mkF m 21 #[.val (.int q0), .val (.int q1), .val (.int q2), .val (.int q3), .val (.ref b), .unset, .unset, .unset, .unset] []))
  refine GoOn.step (fun t₀ k₀ => XS.aload X18.here hx rfl (hb hby at_21) rfl rfl k₀) ?_
  show GoOn p e below _ (T18.setTop (mkF m 23 #[.val (.int q0), .val (.int q1), .val (.int q2), .val (.int q3), .val (.ref b), .unset, .unset, .unset, .unset] [(.ref b)]))
  refine GoOn.step (fun t₀ k₀ => XS.iconst X18.here hx rfl (hb hby at_23) k₀) ?_
  show GoOn p e below _ (T18.setTop (mkF m 24 #[.val (.int q0), .val (.int q1), .val (.int q2), .val (.int q3), .val (.ref b), .unset, .unset, .unset, .unset] [(.int (2 : Int32)), (.ref b)]))
  refine GoOn.step (fun t₀ k₀ => XS.iloadN X18.here hx rfl (hb hby at_24) rfl k₀) ?_
  show GoOn p e below _ (T18.setTop (mkF m 25 #[.val (.int q0), .val (.int q1), .val (.int q2), .val (.int q3), .val (.ref b), .unset, .unset, .unset, .unset] [(.int q0), (.int (2 : Int32)), (.ref b)]))
  refine GoOn.step (fun t₀ k₀ => XS.bipush X18.here hx rfl (hb hby at_25) k₀) ?_
  show GoOn p e below _ (T18.setTop (mkF m 27 #[.val (.int q0), .val (.int q1), .val (.int q2), .val (.int q3), .val (.ref b), .unset, .unset, .unset, .unset] [(.int (16 : Int32)), (.int q0), (.int (2 : Int32)), (.ref b)]))
  refine GoOn.step (fun t₀ k₀ => XS.iushr X18.here hx rfl (hb hby at_27) rfl k₀) ?_
  show GoOn p e below _ (T18.setTop (mkF m 28 #[.val (.int q0), .val (.int q1), .val (.int q2), .val (.int q3), .val (.ref b), .unset, .unset, .unset, .unset] [(.int ((q0.toUInt32 >>> ((16 : Int32) &&& 31).toUInt32).toInt32)), (.int (2 : Int32)), (.ref b)]))
  refine GoOn.step (fun t₀ k₀ => XS.i2b X18.here hx rfl (hb hby at_28) rfl k₀) ?_
  show GoOn p e below _ (T18.setTop (mkF m 29 #[.val (.int q0), .val (.int q1), .val (.int q2), .val (.int q3), .val (.ref b), .unset, .unset, .unset, .unset] [(.int (((q0.toUInt32 >>> ((16 : Int32) &&& 31).toUInt32).toInt32).toInt8.toInt32)), (.int (2 : Int32)), (.ref b)]))
  obtain ⟨T19, h19, X19, e19, W19, st19⟩ := kStB X18 hx hZ e18 J_b (j := (2 : Int32)) ⟨by decide, by decide⟩ (g := (mkF m 29 #[.val (.int q0), .val (.int q1), .val (.int q2), .val (.int q3), .val (.ref b), .unset, .unset, .unset, .unset] [(.int (((q0.toUInt32 >>> ((16 : Int32) &&& 31).toUInt32).toInt32).toInt8.toInt32)), (.int (2 : Int32)), (.ref b)])) rfl rfl (hb hby at_29)
  replace N0 := Fr.snoc X19 N0 le_b
  replace J_b := J_b.set W19
  replace Z0 := Nat.le_trans Z0 (Nat.le_of_eq W19.size.symm)
  refine GoOn.step st19 ?_
  show GoOn p e below _ (T19.setTop (mkF m 30 #[.val (.int q0), .val (.int q1), .val (.int q2), .val (.int q3), .val (.ref b), .unset, .unset, .unset, .unset] []))
  refine GoOn.step (fun t₀ k₀ => XS.aload X19.here hx rfl (hb hby at_30) rfl rfl k₀) ?_
  show GoOn p e below _ (T19.setTop (mkF m 32 #[.val (.int q0), .val (.int q1), .val (.int q2), .val (.int q3), .val (.ref b), .unset, .unset, .unset, .unset] [(.ref b)]))
  refine GoOn.step (fun t₀ k₀ => XS.iconst X19.here hx rfl (hb hby at_32) k₀) ?_
  show GoOn p e below _ (T19.setTop (mkF m 33 #[.val (.int q0), .val (.int q1), .val (.int q2), .val (.int q3), .val (.ref b), .unset, .unset, .unset, .unset] [(.int (3 : Int32)), (.ref b)]))
  refine GoOn.step (fun t₀ k₀ => XS.iloadN X19.here hx rfl (hb hby at_33) rfl k₀) ?_
  show GoOn p e below _ (T19.setTop (mkF m 34 #[.val (.int q0), .val (.int q1), .val (.int q2), .val (.int q3), .val (.ref b), .unset, .unset, .unset, .unset] [(.int q0), (.int (3 : Int32)), (.ref b)]))
  refine GoOn.step (fun t₀ k₀ => XS.bipush X19.here hx rfl (hb hby at_34) k₀) ?_
  show GoOn p e below _ (T19.setTop (mkF m 36 #[.val (.int q0), .val (.int q1), .val (.int q2), .val (.int q3), .val (.ref b), .unset, .unset, .unset, .unset] [(.int (24 : Int32)), (.int q0), (.int (3 : Int32)), (.ref b)]))
  refine GoOn.step (fun t₀ k₀ => XS.iushr X19.here hx rfl (hb hby at_36) rfl k₀) ?_
  show GoOn p e below _ (T19.setTop (mkF m 37 #[.val (.int q0), .val (.int q1), .val (.int q2), .val (.int q3), .val (.ref b), .unset, .unset, .unset, .unset] [(.int ((q0.toUInt32 >>> ((24 : Int32) &&& 31).toUInt32).toInt32)), (.int (3 : Int32)), (.ref b)]))
  refine GoOn.step (fun t₀ k₀ => XS.i2b X19.here hx rfl (hb hby at_37) rfl k₀) ?_
  show GoOn p e below _ (T19.setTop (mkF m 38 #[.val (.int q0), .val (.int q1), .val (.int q2), .val (.int q3), .val (.ref b), .unset, .unset, .unset, .unset] [(.int (((q0.toUInt32 >>> ((24 : Int32) &&& 31).toUInt32).toInt32).toInt8.toInt32)), (.int (3 : Int32)), (.ref b)]))
  obtain ⟨T20, h20, X20, e20, W20, st20⟩ := kStB X19 hx hZ e19 J_b (j := (3 : Int32)) ⟨by decide, by decide⟩ (g := (mkF m 38 #[.val (.int q0), .val (.int q1), .val (.int q2), .val (.int q3), .val (.ref b), .unset, .unset, .unset, .unset] [(.int (((q0.toUInt32 >>> ((24 : Int32) &&& 31).toUInt32).toInt32).toInt8.toInt32)), (.int (3 : Int32)), (.ref b)])) rfl rfl (hb hby at_38)
  replace N0 := Fr.snoc X20 N0 le_b
  replace J_b := J_b.set W20
  replace Z0 := Nat.le_trans Z0 (Nat.le_of_eq W20.size.symm)
  refine GoOn.step st20 ?_
  show GoOn p e below _ (T20.setTop (mkF m 39 #[.val (.int q0), .val (.int q1), .val (.int q2), .val (.int q3), .val (.ref b), .unset, .unset, .unset, .unset] []))
  refine GoOn.step (fun t₀ k₀ => XS.aload X20.here hx rfl (hb hby at_39) rfl rfl k₀) ?_
  show GoOn p e below _ (T20.setTop (mkF m 41 #[.val (.int q0), .val (.int q1), .val (.int q2), .val (.int q3), .val (.ref b), .unset, .unset, .unset, .unset] [(.ref b)]))
  refine GoOn.step (fun t₀ k₀ => XS.iconst X20.here hx rfl (hb hby at_41) k₀) ?_
  show GoOn p e below _ (T20.setTop (mkF m 42 #[.val (.int q0), .val (.int q1), .val (.int q2), .val (.int q3), .val (.ref b), .unset, .unset, .unset, .unset] [(.int (4 : Int32)), (.ref b)]))
  refine GoOn.step (fun t₀ k₀ => XS.iloadN X20.here hx rfl (hb hby at_42) rfl k₀) ?_
  show GoOn p e below _ (T20.setTop (mkF m 43 #[.val (.int q0), .val (.int q1), .val (.int q2), .val (.int q3), .val (.ref b), .unset, .unset, .unset, .unset] [(.int q1), (.int (4 : Int32)), (.ref b)]))
  refine GoOn.step (fun t₀ k₀ => XS.i2b X20.here hx rfl (hb hby at_43) rfl k₀) ?_
  show GoOn p e below _ (T20.setTop (mkF m 44 #[.val (.int q0), .val (.int q1), .val (.int q2), .val (.int q3), .val (.ref b), .unset, .unset, .unset, .unset] [(.int (q1.toInt8.toInt32)), (.int (4 : Int32)), (.ref b)]))
  obtain ⟨T21, h21, X21, e21, W21, st21⟩ := kStB X20 hx hZ e20 J_b (j := (4 : Int32)) ⟨by decide, by decide⟩ (g := (mkF m 44 #[.val (.int q0), .val (.int q1), .val (.int q2), .val (.int q3), .val (.ref b), .unset, .unset, .unset, .unset] [(.int (q1.toInt8.toInt32)), (.int (4 : Int32)), (.ref b)])) rfl rfl (hb hby at_44)
  replace N0 := Fr.snoc X21 N0 le_b
  replace J_b := J_b.set W21
  replace Z0 := Nat.le_trans Z0 (Nat.le_of_eq W21.size.symm)
  refine GoOn.step st21 ?_
  show GoOn p e below _ (T21.setTop (mkF m 45 #[.val (.int q0), .val (.int q1), .val (.int q2), .val (.int q3), .val (.ref b), .unset, .unset, .unset, .unset] []))
  refine GoOn.step (fun t₀ k₀ => XS.aload X21.here hx rfl (hb hby at_45) rfl rfl k₀) ?_
  show GoOn p e below _ (T21.setTop (mkF m 47 #[.val (.int q0), .val (.int q1), .val (.int q2), .val (.int q3), .val (.ref b), .unset, .unset, .unset, .unset] [(.ref b)]))
  refine GoOn.step (fun t₀ k₀ => XS.iconst X21.here hx rfl (hb hby at_47) k₀) ?_
  show GoOn p e below _ (T21.setTop (mkF m 48 #[.val (.int q0), .val (.int q1), .val (.int q2), .val (.int q3), .val (.ref b), .unset, .unset, .unset, .unset] [(.int (5 : Int32)), (.ref b)]))
  refine GoOn.step (fun t₀ k₀ => XS.iloadN X21.here hx rfl (hb hby at_48) rfl k₀) ?_
  show GoOn p e below _ (T21.setTop (mkF m 49 #[.val (.int q0), .val (.int q1), .val (.int q2), .val (.int q3), .val (.ref b), .unset, .unset, .unset, .unset] [(.int q1), (.int (5 : Int32)), (.ref b)]))
  refine GoOn.step (fun t₀ k₀ => XS.bipush X21.here hx rfl (hb hby at_49) k₀) ?_
  show GoOn p e below _ (T21.setTop (mkF m 51 #[.val (.int q0), .val (.int q1), .val (.int q2), .val (.int q3), .val (.ref b), .unset, .unset, .unset, .unset] [(.int (8 : Int32)), (.int q1), (.int (5 : Int32)), (.ref b)]))
  refine GoOn.step (fun t₀ k₀ => XS.iushr X21.here hx rfl (hb hby at_51) rfl k₀) ?_
  show GoOn p e below _ (T21.setTop (mkF m 52 #[.val (.int q0), .val (.int q1), .val (.int q2), .val (.int q3), .val (.ref b), .unset, .unset, .unset, .unset] [(.int ((q1.toUInt32 >>> ((8 : Int32) &&& 31).toUInt32).toInt32)), (.int (5 : Int32)), (.ref b)]))
  refine GoOn.step (fun t₀ k₀ => XS.i2b X21.here hx rfl (hb hby at_52) rfl k₀) ?_
  show GoOn p e below _ (T21.setTop (mkF m 53 #[.val (.int q0), .val (.int q1), .val (.int q2), .val (.int q3), .val (.ref b), .unset, .unset, .unset, .unset] [(.int (((q1.toUInt32 >>> ((8 : Int32) &&& 31).toUInt32).toInt32).toInt8.toInt32)), (.int (5 : Int32)), (.ref b)]))
  obtain ⟨T22, h22, X22, e22, W22, st22⟩ := kStB X21 hx hZ e21 J_b (j := (5 : Int32)) ⟨by decide, by decide⟩ (g := (mkF m 53 #[.val (.int q0), .val (.int q1), .val (.int q2), .val (.int q3), .val (.ref b), .unset, .unset, .unset, .unset] [(.int (((q1.toUInt32 >>> ((8 : Int32) &&& 31).toUInt32).toInt32).toInt8.toInt32)), (.int (5 : Int32)), (.ref b)])) rfl rfl (hb hby at_53)
  replace N0 := Fr.snoc X22 N0 le_b
  replace J_b := J_b.set W22
  replace Z0 := Nat.le_trans Z0 (Nat.le_of_eq W22.size.symm)
  refine GoOn.step st22 ?_
  show GoOn p e below _ (T22.setTop (mkF m 54 #[.val (.int q0), .val (.int q1), .val (.int q2), .val (.int q3), .val (.ref b), .unset, .unset, .unset, .unset] []))
  refine GoOn.step (fun t₀ k₀ => XS.aload X22.here hx rfl (hb hby at_54) rfl rfl k₀) ?_
  show GoOn p e below _ (T22.setTop (mkF m 56 #[.val (.int q0), .val (.int q1), .val (.int q2), .val (.int q3), .val (.ref b), .unset, .unset, .unset, .unset] [(.ref b)]))
  refine GoOn.step (fun t₀ k₀ => XS.bipush X22.here hx rfl (hb hby at_56) k₀) ?_
  show GoOn p e below _ (T22.setTop (mkF m 58 #[.val (.int q0), .val (.int q1), .val (.int q2), .val (.int q3), .val (.ref b), .unset, .unset, .unset, .unset] [(.int (6 : Int32)), (.ref b)]))
  refine GoOn.step (fun t₀ k₀ => XS.iloadN X22.here hx rfl (hb hby at_58) rfl k₀) ?_
  show GoOn p e below _ (T22.setTop (mkF m 59 #[.val (.int q0), .val (.int q1), .val (.int q2), .val (.int q3), .val (.ref b), .unset, .unset, .unset, .unset] [(.int q1), (.int (6 : Int32)), (.ref b)]))
  refine GoOn.step (fun t₀ k₀ => XS.bipush X22.here hx rfl (hb hby at_59) k₀) ?_
  show GoOn p e below _ (T22.setTop (mkF m 61 #[.val (.int q0), .val (.int q1), .val (.int q2), .val (.int q3), .val (.ref b), .unset, .unset, .unset, .unset] [(.int (16 : Int32)), (.int q1), (.int (6 : Int32)), (.ref b)]))
  refine GoOn.step (fun t₀ k₀ => XS.iushr X22.here hx rfl (hb hby at_61) rfl k₀) ?_
  show GoOn p e below _ (T22.setTop (mkF m 62 #[.val (.int q0), .val (.int q1), .val (.int q2), .val (.int q3), .val (.ref b), .unset, .unset, .unset, .unset] [(.int ((q1.toUInt32 >>> ((16 : Int32) &&& 31).toUInt32).toInt32)), (.int (6 : Int32)), (.ref b)]))
  refine GoOn.step (fun t₀ k₀ => XS.i2b X22.here hx rfl (hb hby at_62) rfl k₀) ?_
  show GoOn p e below _ (T22.setTop (mkF m 63 #[.val (.int q0), .val (.int q1), .val (.int q2), .val (.int q3), .val (.ref b), .unset, .unset, .unset, .unset] [(.int (((q1.toUInt32 >>> ((16 : Int32) &&& 31).toUInt32).toInt32).toInt8.toInt32)), (.int (6 : Int32)), (.ref b)]))
  obtain ⟨T23, h23, X23, e23, W23, st23⟩ := kStB X22 hx hZ e22 J_b (j := (6 : Int32)) ⟨by decide, by decide⟩ (g := (mkF m 63 #[.val (.int q0), .val (.int q1), .val (.int q2), .val (.int q3), .val (.ref b), .unset, .unset, .unset, .unset] [(.int (((q1.toUInt32 >>> ((16 : Int32) &&& 31).toUInt32).toInt32).toInt8.toInt32)), (.int (6 : Int32)), (.ref b)])) rfl rfl (hb hby at_63)
  replace N0 := Fr.snoc X23 N0 le_b
  replace J_b := J_b.set W23
  replace Z0 := Nat.le_trans Z0 (Nat.le_of_eq W23.size.symm)
  refine GoOn.step st23 ?_
  show GoOn p e below _ (T23.setTop (mkF m 64 #[.val (.int q0), .val (.int q1), .val (.int q2), .val (.int q3), .val (.ref b), .unset, .unset, .unset, .unset] []))
  refine GoOn.step (fun t₀ k₀ => XS.aload X23.here hx rfl (hb hby at_64) rfl rfl k₀) ?_
  show GoOn p e below _ (T23.setTop (mkF m 66 #[.val (.int q0), .val (.int q1), .val (.int q2), .val (.int q3), .val (.ref b), .unset, .unset, .unset, .unset] [(.ref b)]))
  refine GoOn.step (fun t₀ k₀ => XS.bipush X23.here hx rfl (hb hby at_66) k₀) ?_
  show GoOn p e below _ (T23.setTop (mkF m 68 #[.val (.int q0), .val (.int q1), .val (.int q2), .val (.int q3), .val (.ref b), .unset, .unset, .unset, .unset] [(.int (7 : Int32)), (.ref b)]))
  refine GoOn.step (fun t₀ k₀ => XS.iloadN X23.here hx rfl (hb hby at_68) rfl k₀) ?_
  show GoOn p e below _ (T23.setTop (mkF m 69 #[.val (.int q0), .val (.int q1), .val (.int q2), .val (.int q3), .val (.ref b), .unset, .unset, .unset, .unset] [(.int q1), (.int (7 : Int32)), (.ref b)]))
  refine GoOn.step (fun t₀ k₀ => XS.bipush X23.here hx rfl (hb hby at_69) k₀) ?_
  show GoOn p e below _ (T23.setTop (mkF m 71 #[.val (.int q0), .val (.int q1), .val (.int q2), .val (.int q3), .val (.ref b), .unset, .unset, .unset, .unset] [(.int (24 : Int32)), (.int q1), (.int (7 : Int32)), (.ref b)]))
  refine GoOn.step (fun t₀ k₀ => XS.iushr X23.here hx rfl (hb hby at_71) rfl k₀) ?_
  show GoOn p e below _ (T23.setTop (mkF m 72 #[.val (.int q0), .val (.int q1), .val (.int q2), .val (.int q3), .val (.ref b), .unset, .unset, .unset, .unset] [(.int ((q1.toUInt32 >>> ((24 : Int32) &&& 31).toUInt32).toInt32)), (.int (7 : Int32)), (.ref b)]))
  refine GoOn.step (fun t₀ k₀ => XS.i2b X23.here hx rfl (hb hby at_72) rfl k₀) ?_
  show GoOn p e below _ (T23.setTop (mkF m 73 #[.val (.int q0), .val (.int q1), .val (.int q2), .val (.int q3), .val (.ref b), .unset, .unset, .unset, .unset] [(.int (((q1.toUInt32 >>> ((24 : Int32) &&& 31).toUInt32).toInt32).toInt8.toInt32)), (.int (7 : Int32)), (.ref b)]))
  obtain ⟨T24, h24, X24, e24, W24, st24⟩ := kStB X23 hx hZ e23 J_b (j := (7 : Int32)) ⟨by decide, by decide⟩ (g := (mkF m 73 #[.val (.int q0), .val (.int q1), .val (.int q2), .val (.int q3), .val (.ref b), .unset, .unset, .unset, .unset] [(.int (((q1.toUInt32 >>> ((24 : Int32) &&& 31).toUInt32).toInt32).toInt8.toInt32)), (.int (7 : Int32)), (.ref b)])) rfl rfl (hb hby at_73)
  replace N0 := Fr.snoc X24 N0 le_b
  replace J_b := J_b.set W24
  replace Z0 := Nat.le_trans Z0 (Nat.le_of_eq W24.size.symm)
  refine GoOn.step st24 ?_
  show GoOn p e below _ (T24.setTop (mkF m 74 #[.val (.int q0), .val (.int q1), .val (.int q2), .val (.int q3), .val (.ref b), .unset, .unset, .unset, .unset] []))
  obtain ⟨g, J⟩ := J_b.ints (by
    intro i
    (try dsimp only)
    repeat' split
    all_goals exact ⟨_, rfl⟩)
  clear J_b
  refine GoOn.step (fun t₀ k₀ => XS.iloadN X24.here hx rfl (hb hby at_74) rfl k₀) ?_
  show GoOn p e below _ (T24.setTop (mkF m 75 #[.val (.int q0), .val (.int q1), .val (.int q2), .val (.int q3), .val (.ref b), .unset, .unset, .unset, .unset] [(.int q2)]))
  refine GoOn.step (fun t₀ k₀ => XS.iconst X24.here hx rfl (hb hby at_75) k₀) ?_
  show GoOn p e below _ (T24.setTop (mkF m 76 #[.val (.int q0), .val (.int q1), .val (.int q2), .val (.int q3), .val (.ref b), .unset, .unset, .unset, .unset] [(.int (3 : Int32)), (.int q2)]))
  refine GoOn.step (fun t₀ k₀ => XS.iand X24.here hx rfl (hb hby at_76) rfl k₀) ?_
  show GoOn p e below _ (T24.setTop (mkF m 77 #[.val (.int q0), .val (.int q1), .val (.int q2), .val (.int q3), .val (.ref b), .unset, .unset, .unset, .unset] [(.int (q2 &&& (3 : Int32)))]))
  have hm : (q2 &&& (3 : Int32)).toInt = q2.toInt % 4 := c_mask q2 3 2 (by decide) (by decide)
  generalize hv : (q2 &&& (3 : Int32)) = o
  have hvI := congrArg Int32.toInt hv
  have ho : 0 ≤ o.toInt ∧ o.toInt ≤ 3 := by omega
  have m1 : (q3 &&& (2147483647 : Int32)).toInt = q3.toInt % 2147483648 := c_mask q3 2147483647 31 (by decide) (by decide)
  have m2 := (c_irem (q3 &&& (2147483647 : Int32)) 5 5 (by decide)).1 (by omega)
  refine GoOn.step (fun t₀ k₀ => XS.istore X24.here hx rfl (hb hby at_77) rfl (l' := #[.val (.int q0), .val (.int q1), .val (.int q2), .val (.int q3), .val (.ref b), .val (.int o), .unset, .unset, .unset]) rfl k₀) ?_
  show GoOn p e below _ (T24.setTop (mkF m 79 #[.val (.int q0), .val (.int q1), .val (.int q2), .val (.int q3), .val (.ref b), .val (.int o), .unset, .unset, .unset] []))
  refine GoOn.step (fun t₀ k₀ => XS.iloadN X24.here hx rfl (hb hby at_79) rfl k₀) ?_
  show GoOn p e below _ (T24.setTop (mkF m 80 #[.val (.int q0), .val (.int q1), .val (.int q2), .val (.int q3), .val (.ref b), .val (.int o), .unset, .unset, .unset] [(.int q3)]))
  refine GoOn.step (fun t₀ k₀ => X24.ldcInt hx hown (mvT hZ (hw _ (List.mem_of_getElem? (i := 1) rfl))) (g := (mkF m 80 #[.val (.int q0), .val (.int q1), .val (.int q2), .val (.int q3), .val (.ref b), .val (.int o), .unset, .unset, .unset] [(.int q3)])) rfl (hb hby at_80) t₀ k₀) ?_
  show GoOn p e below _ (T24.setTop (mkF m 82 #[.val (.int q0), .val (.int q1), .val (.int q2), .val (.int q3), .val (.ref b), .val (.int o), .unset, .unset, .unset] [(.int (2147483647 : Int32)), (.int q3)]))
  refine GoOn.step (fun t₀ k₀ => XS.iand X24.here hx rfl (hb hby at_82) rfl k₀) ?_
  show GoOn p e below _ (T24.setTop (mkF m 83 #[.val (.int q0), .val (.int q1), .val (.int q2), .val (.int q3), .val (.ref b), .val (.int o), .unset, .unset, .unset] [(.int (q3 &&& (2147483647 : Int32)))]))
  refine GoOn.step (fun t₀ k₀ => XS.iconst X24.here hx rfl (hb hby at_83) k₀) ?_
  show GoOn p e below _ (T24.setTop (mkF m 84 #[.val (.int q0), .val (.int q1), .val (.int q2), .val (.int q3), .val (.ref b), .val (.int o), .unset, .unset, .unset] [(.int (5 : Int32)), (.int (q3 &&& (2147483647 : Int32)))]))
  refine GoOn.step (fun t₀ k₀ => iremM X24 hx rfl (hb hby at_84) rfl (by decide) k₀) ?_
  show GoOn p e below _ (T24.setTop (mkF m 85 #[.val (.int q0), .val (.int q1), .val (.int q2), .val (.int q3), .val (.ref b), .val (.int o), .unset, .unset, .unset] [(.int ((q3 &&& (2147483647 : Int32)) % (5 : Int32)))]))
  generalize hn : ((q3 &&& (2147483647 : Int32)) % (5 : Int32)) = n
  have hnI := congrArg Int32.toInt hn
  refine GoOn.step (fun t₀ k₀ => XS.istore X24.here hx rfl (hb hby at_85) rfl (l' := #[.val (.int q0), .val (.int q1), .val (.int q2), .val (.int q3), .val (.ref b), .val (.int o), .val (.int n), .unset, .unset]) rfl k₀) ?_
  show GoOn p e below _ (T24.setTop (mkF m 87 #[.val (.int q0), .val (.int q1), .val (.int q2), .val (.int q3), .val (.ref b), .val (.int o), .val (.int n), .unset, .unset] []))
  have hd : n = 0 ∨ n = 1 ∨ n = 2 ∨ n = 3 ∨ n = 4 := by
    simp only [← Int32.toInt_inj, Int32.reduceToInt]; omega
  clear hn m2
  rcases hd with rfl | rfl | rfl | rfl | rfl
  · show GoOn p e below _ (T24.setTop (mkF m 87 #[.val (.int q0), .val (.int q1), .val (.int q2), .val (.int q3), .val (.ref b), .val (.int o), .val (.int (0 : Int32)), .unset, .unset] []))
    refine GoOn.step (fun t₀ k₀ => XS.aload X24.here hx rfl (hb hby at_87) rfl rfl k₀) ?_
    show GoOn p e below _ (T24.setTop (mkF m 89 #[.val (.int q0), .val (.int q1), .val (.int q2), .val (.int q3), .val (.ref b), .val (.int o), .val (.int (0 : Int32)), .unset, .unset] [(.ref b)]))
    refine GoOn.step (fun t₀ k₀ => XS.iload X24.here hx rfl (hb hby at_89) rfl k₀) ?_
    show GoOn p e below _ (T24.setTop (mkF m 91 #[.val (.int q0), .val (.int q1), .val (.int q2), .val (.int q3), .val (.ref b), .val (.int o), .val (.int (0 : Int32)), .unset, .unset] [(.int o), (.ref b)]))
    refine GoOn.step (fun t₀ k₀ => XS.iload X24.here hx rfl (hb hby at_91) rfl k₀) ?_
    show GoOn p e below _ (T24.setTop (mkF m 93 #[.val (.int q0), .val (.int q1), .val (.int q2), .val (.int q3), .val (.ref b), .val (.int o), .val (.int (0 : Int32)), .unset, .unset] [(.int (0 : Int32)), (.int o), (.ref b)]))
    obtain ⟨_, T25, L25, X25, hQ25, st25⟩ := kCallS X24 hx hZ (argsL := [(.ref b), (.int o), (.int (0 : Int32))]) (rest := []) (c_read0 l Z a0 hw b o g _ J ho) hown (hw _ (List.mem_of_getElem? (i := 2) rfl)) (hw _ (List.mem_of_getElem? (i := 3) rfl)) (hw _ (List.mem_of_getElem? (i := 4) rfl)) (hw _ (List.mem_of_getElem? (i := 5) rfl)) (by decide) e24 (g := (mkF m 93 #[.val (.int q0), .val (.int q1), .val (.int q2), .val (.int q3), .val (.ref b), .val (.int o), .val (.int (0 : Int32)), .unset, .unset] [(.int (0 : Int32)), (.int o), (.ref b)])) rfl (by rw [hml]; rfl) (lenOf pd_0 rfl) rfl (W := 0) (by show 2 * 0 + _ ≤ _; exact Nat.le_of_eq rfl) (hb hby at_93) (by decide) (by decide) (by decide) (by decide)
    obtain ⟨rfl, rfl, e25⟩ := hQ25
    rw [List.append_nil] at X25
    refine GoOn.step st25 ?_
    show GoOn p e below _ (T25.setTop (mkF m 96 #[.val (.int q0), .val (.int q1), .val (.int q2), .val (.int q3), .val (.ref b), .val (.int o), .val (.int (0 : Int32)), .unset, .unset] [(.int (0 : Int32))]))
    refine GoOn.step (fun t₀ k₀ => XS.istore X25.here hx rfl (hb hby at_96) rfl (l' := #[.val (.int q0), .val (.int q1), .val (.int q2), .val (.int q3), .val (.ref b), .val (.int o), .val (.int (0 : Int32)), .val (.int (0 : Int32)), .unset]) rfl k₀) ?_
    show GoOn p e below _ (T25.setTop (mkF m 98 #[.val (.int q0), .val (.int q1), .val (.int q2), .val (.int q3), .val (.ref b), .val (.int o), .val (.int (0 : Int32)), .val (.int (0 : Int32)), .unset] []))
    refine GoOn.step (fun t₀ k₀ => XS.aload X25.here hx rfl (hb hby at_98) rfl rfl k₀) ?_
    show GoOn p e below _ (T25.setTop (mkF m 100 #[.val (.int q0), .val (.int q1), .val (.int q2), .val (.int q3), .val (.ref b), .val (.int o), .val (.int (0 : Int32)), .val (.int (0 : Int32)), .unset] [(.ref b)]))
    refine GoOn.step (fun t₀ k₀ => XS.iload X25.here hx rfl (hb hby at_100) rfl k₀) ?_
    show GoOn p e below _ (T25.setTop (mkF m 102 #[.val (.int q0), .val (.int q1), .val (.int q2), .val (.int q3), .val (.ref b), .val (.int o), .val (.int (0 : Int32)), .val (.int (0 : Int32)), .unset] [(.int o), (.ref b)]))
    refine GoOn.step (fun t₀ k₀ => XS.iconst X25.here hx rfl (hb hby at_102) k₀) ?_
    show GoOn p e below _ (T25.setTop (mkF m 103 #[.val (.int q0), .val (.int q1), .val (.int q2), .val (.int q3), .val (.ref b), .val (.int o), .val (.int (0 : Int32)), .val (.int (0 : Int32)), .unset] [(.int (0 : Int32)), (.int o), (.ref b)]))
    refine GoOn.step (fun t₀ k₀ => XS.iload X25.here hx rfl (hb hby at_103) rfl k₀) ?_
    show GoOn p e below _ (T25.setTop (mkF m 105 #[.val (.int q0), .val (.int q1), .val (.int q2), .val (.int q3), .val (.ref b), .val (.int o), .val (.int (0 : Int32)), .val (.int (0 : Int32)), .unset] [(.int (0 : Int32)), (.int (0 : Int32)), (.int o), (.ref b)]))
    obtain ⟨_, T26, L26, X26, hQ26, st26⟩ := kCallS X25 hx hZ (argsL := [(.ref b), (.int o), (.int (0 : Int32)), (.int (0 : Int32))]) (rest := []) (c_u l Z a0 hw b o (0 : Int32) (0 : Int32) g _ J ho ⟨by decide, by decide⟩) hown (hw _ (List.mem_of_getElem? (i := 6) rfl)) (hw _ (List.mem_of_getElem? (i := 7) rfl)) (hw _ (List.mem_of_getElem? (i := 8) rfl)) (hw _ (List.mem_of_getElem? (i := 9) rfl)) (by decide) e25 (g := (mkF m 105 #[.val (.int q0), .val (.int q1), .val (.int q2), .val (.int q3), .val (.ref b), .val (.int o), .val (.int (0 : Int32)), .val (.int (0 : Int32)), .unset] [(.int (0 : Int32)), (.int (0 : Int32)), (.int o), (.ref b)])) rfl (by rw [hml]; rfl) (lenOf pd_1 rfl) rfl (W := 0) (by show 2 * 0 + _ ≤ _; exact Nat.le_of_eq rfl) (hb hby at_105) (by decide) (by decide) (by decide) (by decide)
    obtain ⟨rfl, rfl, e26⟩ := hQ26
    rw [List.append_nil] at X26
    refine GoOn.step st26 ?_
    show GoOn p e below _ (T26.setTop (mkF m 108 #[.val (.int q0), .val (.int q1), .val (.int q2), .val (.int q3), .val (.ref b), .val (.int o), .val (.int (0 : Int32)), .val (.int (0 : Int32)), .unset] [(.int (uV g o (0 : Int32) (0 : Int32)))]))
    refine GoOn.step (fun t₀ k₀ => XS.aload X26.here hx rfl (hb hby at_108) rfl rfl k₀) ?_
    show GoOn p e below _ (T26.setTop (mkF m 110 #[.val (.int q0), .val (.int q1), .val (.int q2), .val (.int q3), .val (.ref b), .val (.int o), .val (.int (0 : Int32)), .val (.int (0 : Int32)), .unset] [(.ref b), (.int (uV g o (0 : Int32) (0 : Int32)))]))
    refine GoOn.step (fun t₀ k₀ => XS.iload X26.here hx rfl (hb hby at_110) rfl k₀) ?_
    show GoOn p e below _ (T26.setTop (mkF m 112 #[.val (.int q0), .val (.int q1), .val (.int q2), .val (.int q3), .val (.ref b), .val (.int o), .val (.int (0 : Int32)), .val (.int (0 : Int32)), .unset] [(.int o), (.ref b), (.int (uV g o (0 : Int32) (0 : Int32)))]))
    refine GoOn.step (fun t₀ k₀ => XS.iconst X26.here hx rfl (hb hby at_112) k₀) ?_
    show GoOn p e below _ (T26.setTop (mkF m 113 #[.val (.int q0), .val (.int q1), .val (.int q2), .val (.int q3), .val (.ref b), .val (.int o), .val (.int (0 : Int32)), .val (.int (0 : Int32)), .unset] [(.int (1 : Int32)), (.int o), (.ref b), (.int (uV g o (0 : Int32) (0 : Int32)))]))
    refine GoOn.step (fun t₀ k₀ => XS.iload X26.here hx rfl (hb hby at_113) rfl k₀) ?_
    show GoOn p e below _ (T26.setTop (mkF m 115 #[.val (.int q0), .val (.int q1), .val (.int q2), .val (.int q3), .val (.ref b), .val (.int o), .val (.int (0 : Int32)), .val (.int (0 : Int32)), .unset] [(.int (0 : Int32)), (.int (1 : Int32)), (.int o), (.ref b), (.int (uV g o (0 : Int32) (0 : Int32)))]))
    obtain ⟨_, T27, L27, X27, hQ27, st27⟩ := kCallS X26 hx hZ (argsL := [(.ref b), (.int o), (.int (1 : Int32)), (.int (0 : Int32))]) (rest := [(.int (uV g o (0 : Int32) (0 : Int32)))]) (c_u l Z a0 hw b o (1 : Int32) (0 : Int32) g _ J ho ⟨by decide, by decide⟩) hown (hw _ (List.mem_of_getElem? (i := 6) rfl)) (hw _ (List.mem_of_getElem? (i := 7) rfl)) (hw _ (List.mem_of_getElem? (i := 8) rfl)) (hw _ (List.mem_of_getElem? (i := 9) rfl)) (by decide) e26 (g := (mkF m 115 #[.val (.int q0), .val (.int q1), .val (.int q2), .val (.int q3), .val (.ref b), .val (.int o), .val (.int (0 : Int32)), .val (.int (0 : Int32)), .unset] [(.int (0 : Int32)), (.int (1 : Int32)), (.int o), (.ref b), (.int (uV g o (0 : Int32) (0 : Int32)))])) rfl (by rw [hml]; rfl) (lenOf pd_1 rfl) rfl (W := 1) (by show 2 * 0 + _ ≤ _; exact Nat.le_of_eq rfl) (hb hby at_115) (by decide) (by decide) (by decide) (by decide)
    obtain ⟨rfl, rfl, e27⟩ := hQ27
    rw [List.append_nil] at X27
    refine GoOn.step st27 ?_
    show GoOn p e below _ (T27.setTop (mkF m 118 #[.val (.int q0), .val (.int q1), .val (.int q2), .val (.int q3), .val (.ref b), .val (.int o), .val (.int (0 : Int32)), .val (.int (0 : Int32)), .unset] [(.int (uV g o (1 : Int32) (0 : Int32))), (.int (uV g o (0 : Int32) (0 : Int32)))]))
    refine GoOn.step (fun t₀ k₀ => XS.bipush X27.here hx rfl (hb hby at_118) k₀) ?_
    show GoOn p e below _ (T27.setTop (mkF m 120 #[.val (.int q0), .val (.int q1), .val (.int q2), .val (.int q3), .val (.ref b), .val (.int o), .val (.int (0 : Int32)), .val (.int (0 : Int32)), .unset] [(.int (8 : Int32)), (.int (uV g o (1 : Int32) (0 : Int32))), (.int (uV g o (0 : Int32) (0 : Int32)))]))
    refine GoOn.step (fun t₀ k₀ => XS.ishl X27.here hx rfl (hb hby at_120) rfl k₀) ?_
    show GoOn p e below _ (T27.setTop (mkF m 121 #[.val (.int q0), .val (.int q1), .val (.int q2), .val (.int q3), .val (.ref b), .val (.int o), .val (.int (0 : Int32)), .val (.int (0 : Int32)), .unset] [(.int ((uV g o (1 : Int32) (0 : Int32)) <<< ((8 : Int32) &&& 31))), (.int (uV g o (0 : Int32) (0 : Int32)))]))
    refine GoOn.step (fun t₀ k₀ => XS.ior X27.here hx rfl (hb hby at_121) rfl k₀) ?_
    show GoOn p e below _ (T27.setTop (mkF m 122 #[.val (.int q0), .val (.int q1), .val (.int q2), .val (.int q3), .val (.ref b), .val (.int o), .val (.int (0 : Int32)), .val (.int (0 : Int32)), .unset] [(.int ((uV g o (0 : Int32) (0 : Int32)) ||| ((uV g o (1 : Int32) (0 : Int32)) <<< ((8 : Int32) &&& 31))))]))
    refine GoOn.step (fun t₀ k₀ => XS.aload X27.here hx rfl (hb hby at_122) rfl rfl k₀) ?_
    show GoOn p e below _ (T27.setTop (mkF m 124 #[.val (.int q0), .val (.int q1), .val (.int q2), .val (.int q3), .val (.ref b), .val (.int o), .val (.int (0 : Int32)), .val (.int (0 : Int32)), .unset] [(.ref b), (.int ((uV g o (0 : Int32) (0 : Int32)) ||| ((uV g o (1 : Int32) (0 : Int32)) <<< ((8 : Int32) &&& 31))))]))
    refine GoOn.step (fun t₀ k₀ => XS.iload X27.here hx rfl (hb hby at_124) rfl k₀) ?_
    show GoOn p e below _ (T27.setTop (mkF m 126 #[.val (.int q0), .val (.int q1), .val (.int q2), .val (.int q3), .val (.ref b), .val (.int o), .val (.int (0 : Int32)), .val (.int (0 : Int32)), .unset] [(.int o), (.ref b), (.int ((uV g o (0 : Int32) (0 : Int32)) ||| ((uV g o (1 : Int32) (0 : Int32)) <<< ((8 : Int32) &&& 31))))]))
    refine GoOn.step (fun t₀ k₀ => XS.iconst X27.here hx rfl (hb hby at_126) k₀) ?_
    show GoOn p e below _ (T27.setTop (mkF m 127 #[.val (.int q0), .val (.int q1), .val (.int q2), .val (.int q3), .val (.ref b), .val (.int o), .val (.int (0 : Int32)), .val (.int (0 : Int32)), .unset] [(.int (2 : Int32)), (.int o), (.ref b), (.int ((uV g o (0 : Int32) (0 : Int32)) ||| ((uV g o (1 : Int32) (0 : Int32)) <<< ((8 : Int32) &&& 31))))]))
    refine GoOn.step (fun t₀ k₀ => XS.iload X27.here hx rfl (hb hby at_127) rfl k₀) ?_
    show GoOn p e below _ (T27.setTop (mkF m 129 #[.val (.int q0), .val (.int q1), .val (.int q2), .val (.int q3), .val (.ref b), .val (.int o), .val (.int (0 : Int32)), .val (.int (0 : Int32)), .unset] [(.int (0 : Int32)), (.int (2 : Int32)), (.int o), (.ref b), (.int ((uV g o (0 : Int32) (0 : Int32)) ||| ((uV g o (1 : Int32) (0 : Int32)) <<< ((8 : Int32) &&& 31))))]))
    obtain ⟨_, T28, L28, X28, hQ28, st28⟩ := kCallS X27 hx hZ (argsL := [(.ref b), (.int o), (.int (2 : Int32)), (.int (0 : Int32))]) (rest := [(.int ((uV g o (0 : Int32) (0 : Int32)) ||| ((uV g o (1 : Int32) (0 : Int32)) <<< ((8 : Int32) &&& 31))))]) (c_u l Z a0 hw b o (2 : Int32) (0 : Int32) g _ J ho ⟨by decide, by decide⟩) hown (hw _ (List.mem_of_getElem? (i := 6) rfl)) (hw _ (List.mem_of_getElem? (i := 7) rfl)) (hw _ (List.mem_of_getElem? (i := 8) rfl)) (hw _ (List.mem_of_getElem? (i := 9) rfl)) (by decide) e27 (g := (mkF m 129 #[.val (.int q0), .val (.int q1), .val (.int q2), .val (.int q3), .val (.ref b), .val (.int o), .val (.int (0 : Int32)), .val (.int (0 : Int32)), .unset] [(.int (0 : Int32)), (.int (2 : Int32)), (.int o), (.ref b), (.int ((uV g o (0 : Int32) (0 : Int32)) ||| ((uV g o (1 : Int32) (0 : Int32)) <<< ((8 : Int32) &&& 31))))])) rfl (by rw [hml]; rfl) (lenOf pd_1 rfl) rfl (W := 1) (by show 2 * 0 + _ ≤ _; exact Nat.le_of_eq rfl) (hb hby at_129) (by decide) (by decide) (by decide) (by decide)
    obtain ⟨rfl, rfl, e28⟩ := hQ28
    rw [List.append_nil] at X28
    refine GoOn.step st28 ?_
    show GoOn p e below _ (T28.setTop (mkF m 132 #[.val (.int q0), .val (.int q1), .val (.int q2), .val (.int q3), .val (.ref b), .val (.int o), .val (.int (0 : Int32)), .val (.int (0 : Int32)), .unset] [(.int (uV g o (2 : Int32) (0 : Int32))), (.int ((uV g o (0 : Int32) (0 : Int32)) ||| ((uV g o (1 : Int32) (0 : Int32)) <<< ((8 : Int32) &&& 31))))]))
    refine GoOn.step (fun t₀ k₀ => XS.bipush X28.here hx rfl (hb hby at_132) k₀) ?_
    show GoOn p e below _ (T28.setTop (mkF m 134 #[.val (.int q0), .val (.int q1), .val (.int q2), .val (.int q3), .val (.ref b), .val (.int o), .val (.int (0 : Int32)), .val (.int (0 : Int32)), .unset] [(.int (16 : Int32)), (.int (uV g o (2 : Int32) (0 : Int32))), (.int ((uV g o (0 : Int32) (0 : Int32)) ||| ((uV g o (1 : Int32) (0 : Int32)) <<< ((8 : Int32) &&& 31))))]))
    refine GoOn.step (fun t₀ k₀ => XS.ishl X28.here hx rfl (hb hby at_134) rfl k₀) ?_
    show GoOn p e below _ (T28.setTop (mkF m 135 #[.val (.int q0), .val (.int q1), .val (.int q2), .val (.int q3), .val (.ref b), .val (.int o), .val (.int (0 : Int32)), .val (.int (0 : Int32)), .unset] [(.int ((uV g o (2 : Int32) (0 : Int32)) <<< ((16 : Int32) &&& 31))), (.int ((uV g o (0 : Int32) (0 : Int32)) ||| ((uV g o (1 : Int32) (0 : Int32)) <<< ((8 : Int32) &&& 31))))]))
    refine GoOn.step (fun t₀ k₀ => XS.ior X28.here hx rfl (hb hby at_135) rfl k₀) ?_
    show GoOn p e below _ (T28.setTop (mkF m 136 #[.val (.int q0), .val (.int q1), .val (.int q2), .val (.int q3), .val (.ref b), .val (.int o), .val (.int (0 : Int32)), .val (.int (0 : Int32)), .unset] [(.int (((uV g o (0 : Int32) (0 : Int32)) ||| ((uV g o (1 : Int32) (0 : Int32)) <<< ((8 : Int32) &&& 31))) ||| ((uV g o (2 : Int32) (0 : Int32)) <<< ((16 : Int32) &&& 31))))]))
    refine GoOn.step (fun t₀ k₀ => XS.aload X28.here hx rfl (hb hby at_136) rfl rfl k₀) ?_
    show GoOn p e below _ (T28.setTop (mkF m 138 #[.val (.int q0), .val (.int q1), .val (.int q2), .val (.int q3), .val (.ref b), .val (.int o), .val (.int (0 : Int32)), .val (.int (0 : Int32)), .unset] [(.ref b), (.int (((uV g o (0 : Int32) (0 : Int32)) ||| ((uV g o (1 : Int32) (0 : Int32)) <<< ((8 : Int32) &&& 31))) ||| ((uV g o (2 : Int32) (0 : Int32)) <<< ((16 : Int32) &&& 31))))]))
    refine GoOn.step (fun t₀ k₀ => XS.iload X28.here hx rfl (hb hby at_138) rfl k₀) ?_
    show GoOn p e below _ (T28.setTop (mkF m 140 #[.val (.int q0), .val (.int q1), .val (.int q2), .val (.int q3), .val (.ref b), .val (.int o), .val (.int (0 : Int32)), .val (.int (0 : Int32)), .unset] [(.int o), (.ref b), (.int (((uV g o (0 : Int32) (0 : Int32)) ||| ((uV g o (1 : Int32) (0 : Int32)) <<< ((8 : Int32) &&& 31))) ||| ((uV g o (2 : Int32) (0 : Int32)) <<< ((16 : Int32) &&& 31))))]))
    refine GoOn.step (fun t₀ k₀ => XS.iconst X28.here hx rfl (hb hby at_140) k₀) ?_
    show GoOn p e below _ (T28.setTop (mkF m 141 #[.val (.int q0), .val (.int q1), .val (.int q2), .val (.int q3), .val (.ref b), .val (.int o), .val (.int (0 : Int32)), .val (.int (0 : Int32)), .unset] [(.int (3 : Int32)), (.int o), (.ref b), (.int (((uV g o (0 : Int32) (0 : Int32)) ||| ((uV g o (1 : Int32) (0 : Int32)) <<< ((8 : Int32) &&& 31))) ||| ((uV g o (2 : Int32) (0 : Int32)) <<< ((16 : Int32) &&& 31))))]))
    refine GoOn.step (fun t₀ k₀ => XS.iload X28.here hx rfl (hb hby at_141) rfl k₀) ?_
    show GoOn p e below _ (T28.setTop (mkF m 143 #[.val (.int q0), .val (.int q1), .val (.int q2), .val (.int q3), .val (.ref b), .val (.int o), .val (.int (0 : Int32)), .val (.int (0 : Int32)), .unset] [(.int (0 : Int32)), (.int (3 : Int32)), (.int o), (.ref b), (.int (((uV g o (0 : Int32) (0 : Int32)) ||| ((uV g o (1 : Int32) (0 : Int32)) <<< ((8 : Int32) &&& 31))) ||| ((uV g o (2 : Int32) (0 : Int32)) <<< ((16 : Int32) &&& 31))))]))
    obtain ⟨_, T29, L29, X29, hQ29, st29⟩ := kCallS X28 hx hZ (argsL := [(.ref b), (.int o), (.int (3 : Int32)), (.int (0 : Int32))]) (rest := [(.int (((uV g o (0 : Int32) (0 : Int32)) ||| ((uV g o (1 : Int32) (0 : Int32)) <<< ((8 : Int32) &&& 31))) ||| ((uV g o (2 : Int32) (0 : Int32)) <<< ((16 : Int32) &&& 31))))]) (c_u l Z a0 hw b o (3 : Int32) (0 : Int32) g _ J ho ⟨by decide, by decide⟩) hown (hw _ (List.mem_of_getElem? (i := 6) rfl)) (hw _ (List.mem_of_getElem? (i := 7) rfl)) (hw _ (List.mem_of_getElem? (i := 8) rfl)) (hw _ (List.mem_of_getElem? (i := 9) rfl)) (by decide) e28 (g := (mkF m 143 #[.val (.int q0), .val (.int q1), .val (.int q2), .val (.int q3), .val (.ref b), .val (.int o), .val (.int (0 : Int32)), .val (.int (0 : Int32)), .unset] [(.int (0 : Int32)), (.int (3 : Int32)), (.int o), (.ref b), (.int (((uV g o (0 : Int32) (0 : Int32)) ||| ((uV g o (1 : Int32) (0 : Int32)) <<< ((8 : Int32) &&& 31))) ||| ((uV g o (2 : Int32) (0 : Int32)) <<< ((16 : Int32) &&& 31))))])) rfl (by rw [hml]; rfl) (lenOf pd_1 rfl) rfl (W := 1) (by show 2 * 0 + _ ≤ _; exact Nat.le_of_eq rfl) (hb hby at_143) (by decide) (by decide) (by decide) (by decide)
    obtain ⟨rfl, rfl, e29⟩ := hQ29
    rw [List.append_nil] at X29
    refine GoOn.step st29 ?_
    show GoOn p e below _ (T29.setTop (mkF m 146 #[.val (.int q0), .val (.int q1), .val (.int q2), .val (.int q3), .val (.ref b), .val (.int o), .val (.int (0 : Int32)), .val (.int (0 : Int32)), .unset] [(.int (uV g o (3 : Int32) (0 : Int32))), (.int (((uV g o (0 : Int32) (0 : Int32)) ||| ((uV g o (1 : Int32) (0 : Int32)) <<< ((8 : Int32) &&& 31))) ||| ((uV g o (2 : Int32) (0 : Int32)) <<< ((16 : Int32) &&& 31))))]))
    refine GoOn.step (fun t₀ k₀ => XS.bipush X29.here hx rfl (hb hby at_146) k₀) ?_
    show GoOn p e below _ (T29.setTop (mkF m 148 #[.val (.int q0), .val (.int q1), .val (.int q2), .val (.int q3), .val (.ref b), .val (.int o), .val (.int (0 : Int32)), .val (.int (0 : Int32)), .unset] [(.int (24 : Int32)), (.int (uV g o (3 : Int32) (0 : Int32))), (.int (((uV g o (0 : Int32) (0 : Int32)) ||| ((uV g o (1 : Int32) (0 : Int32)) <<< ((8 : Int32) &&& 31))) ||| ((uV g o (2 : Int32) (0 : Int32)) <<< ((16 : Int32) &&& 31))))]))
    refine GoOn.step (fun t₀ k₀ => XS.ishl X29.here hx rfl (hb hby at_148) rfl k₀) ?_
    show GoOn p e below _ (T29.setTop (mkF m 149 #[.val (.int q0), .val (.int q1), .val (.int q2), .val (.int q3), .val (.ref b), .val (.int o), .val (.int (0 : Int32)), .val (.int (0 : Int32)), .unset] [(.int ((uV g o (3 : Int32) (0 : Int32)) <<< ((24 : Int32) &&& 31))), (.int (((uV g o (0 : Int32) (0 : Int32)) ||| ((uV g o (1 : Int32) (0 : Int32)) <<< ((8 : Int32) &&& 31))) ||| ((uV g o (2 : Int32) (0 : Int32)) <<< ((16 : Int32) &&& 31))))]))
    refine GoOn.step (fun t₀ k₀ => XS.ior X29.here hx rfl (hb hby at_149) rfl k₀) ?_
    show GoOn p e below _ (T29.setTop (mkF m 150 #[.val (.int q0), .val (.int q1), .val (.int q2), .val (.int q3), .val (.ref b), .val (.int o), .val (.int (0 : Int32)), .val (.int (0 : Int32)), .unset] [(.int ((((uV g o (0 : Int32) (0 : Int32)) ||| ((uV g o (1 : Int32) (0 : Int32)) <<< ((8 : Int32) &&& 31))) ||| ((uV g o (2 : Int32) (0 : Int32)) <<< ((16 : Int32) &&& 31))) ||| ((uV g o (3 : Int32) (0 : Int32)) <<< ((24 : Int32) &&& 31))))]))
    refine GoOn.step (fun t₀ k₀ => XS.istore X29.here hx rfl (hb hby at_150) rfl (l' := #[.val (.int q0), .val (.int q1), .val (.int q2), .val (.int q3), .val (.ref b), .val (.int o), .val (.int (0 : Int32)), .val (.int (0 : Int32)), .val (.int ((((uV g o (0 : Int32) (0 : Int32)) ||| ((uV g o (1 : Int32) (0 : Int32)) <<< ((8 : Int32) &&& 31))) ||| ((uV g o (2 : Int32) (0 : Int32)) <<< ((16 : Int32) &&& 31))) ||| ((uV g o (3 : Int32) (0 : Int32)) <<< ((24 : Int32) &&& 31))))]) rfl k₀) ?_
    show GoOn p e below _ (T29.setTop (mkF m 152 #[.val (.int q0), .val (.int q1), .val (.int q2), .val (.int q3), .val (.ref b), .val (.int o), .val (.int (0 : Int32)), .val (.int (0 : Int32)), .val (.int ((((uV g o (0 : Int32) (0 : Int32)) ||| ((uV g o (1 : Int32) (0 : Int32)) <<< ((8 : Int32) &&& 31))) ||| ((uV g o (2 : Int32) (0 : Int32)) <<< ((16 : Int32) &&& 31))) ||| ((uV g o (3 : Int32) (0 : Int32)) <<< ((24 : Int32) &&& 31))))] []))
    refine GoOn.step (fun t₀ k₀ => XS.iload X29.here hx rfl (hb hby at_152) rfl k₀) ?_
    show GoOn p e below _ (T29.setTop (mkF m 154 #[.val (.int q0), .val (.int q1), .val (.int q2), .val (.int q3), .val (.ref b), .val (.int o), .val (.int (0 : Int32)), .val (.int (0 : Int32)), .val (.int ((((uV g o (0 : Int32) (0 : Int32)) ||| ((uV g o (1 : Int32) (0 : Int32)) <<< ((8 : Int32) &&& 31))) ||| ((uV g o (2 : Int32) (0 : Int32)) <<< ((16 : Int32) &&& 31))) ||| ((uV g o (3 : Int32) (0 : Int32)) <<< ((24 : Int32) &&& 31))))] [(.int (0 : Int32))]))
    refine GoOn.step (fun t₀ k₀ => XS.iload X29.here hx rfl (hb hby at_154) rfl k₀) ?_
    show GoOn p e below _ (T29.setTop (mkF m 156 #[.val (.int q0), .val (.int q1), .val (.int q2), .val (.int q3), .val (.ref b), .val (.int o), .val (.int (0 : Int32)), .val (.int (0 : Int32)), .val (.int ((((uV g o (0 : Int32) (0 : Int32)) ||| ((uV g o (1 : Int32) (0 : Int32)) <<< ((8 : Int32) &&& 31))) ||| ((uV g o (2 : Int32) (0 : Int32)) <<< ((16 : Int32) &&& 31))) ||| ((uV g o (3 : Int32) (0 : Int32)) <<< ((24 : Int32) &&& 31))))] [(.int ((((uV g o (0 : Int32) (0 : Int32)) ||| ((uV g o (1 : Int32) (0 : Int32)) <<< ((8 : Int32) &&& 31))) ||| ((uV g o (2 : Int32) (0 : Int32)) <<< ((16 : Int32) &&& 31))) ||| ((uV g o (3 : Int32) (0 : Int32)) <<< ((24 : Int32) &&& 31)))), (.int (0 : Int32))]))
    have hf30 : (0 : Int32) = ((((uV g o (0 : Int32) (0 : Int32)) ||| ((uV g o (1 : Int32) (0 : Int32)) <<< ((8 : Int32) &&& 31))) ||| ((uV g o (2 : Int32) (0 : Int32)) <<< ((16 : Int32) &&& 31))) ||| ((uV g o (3 : Int32) (0 : Int32)) <<< ((24 : Int32) &&& 31))) := (by rw [uF (by decide : ¬ (0 : Int32) < (0 : Int32)), uF (by decide : ¬ (1 : Int32) < (0 : Int32)), uF (by decide : ¬ (2 : Int32) < (0 : Int32)), uF (by decide : ¬ (3 : Int32) < (0 : Int32))]; exact pl0 )
    refine GoOn.step (fun t₀ k₀ => XS.icmpNo X29.here hx rfl (hb hby at_156) rfl (teq hf30).2 k₀) ?_
    show GoOn p e below _ (T29.setTop (mkF m 159 #[.val (.int q0), .val (.int q1), .val (.int q2), .val (.int q3), .val (.ref b), .val (.int o), .val (.int (0 : Int32)), .val (.int (0 : Int32)), .val (.int ((((uV g o (0 : Int32) (0 : Int32)) ||| ((uV g o (1 : Int32) (0 : Int32)) <<< ((8 : Int32) &&& 31))) ||| ((uV g o (2 : Int32) (0 : Int32)) <<< ((16 : Int32) &&& 31))) ||| ((uV g o (3 : Int32) (0 : Int32)) <<< ((24 : Int32) &&& 31))))] []))
    refine GoOn.step (fun t₀ k₀ => XS.iconst X29.here hx rfl (hb hby at_159) k₀) ?_
    show GoOn p e below _ (T29.setTop (mkF m 160 #[.val (.int q0), .val (.int q1), .val (.int q2), .val (.int q3), .val (.ref b), .val (.int o), .val (.int (0 : Int32)), .val (.int (0 : Int32)), .val (.int ((((uV g o (0 : Int32) (0 : Int32)) ||| ((uV g o (1 : Int32) (0 : Int32)) <<< ((8 : Int32) &&& 31))) ||| ((uV g o (2 : Int32) (0 : Int32)) <<< ((16 : Int32) &&& 31))) ||| ((uV g o (3 : Int32) (0 : Int32)) <<< ((24 : Int32) &&& 31))))] [(.int (1 : Int32))]))
    refine GoOn.step (fun t₀ k₀ => XS.goto X29.here hx rfl (pc0 := 160) (pc' := 164) rfl (hb hby at_160) (by decide) (by decide) k₀) ?_
    show GoOn p e below _ (T29.setTop (mkF m 164 #[.val (.int q0), .val (.int q1), .val (.int q2), .val (.int q3), .val (.ref b), .val (.int o), .val (.int (0 : Int32)), .val (.int (0 : Int32)), .val (.int ((((uV g o (0 : Int32) (0 : Int32)) ||| ((uV g o (1 : Int32) (0 : Int32)) <<< ((8 : Int32) &&& 31))) ||| ((uV g o (2 : Int32) (0 : Int32)) <<< ((16 : Int32) &&& 31))) ||| ((uV g o (3 : Int32) (0 : Int32)) <<< ((24 : Int32) &&& 31))))] [(.int (1 : Int32))]))
    exact GoOn.retN X29 hx hrt hlk (by simp) (hb hby at_164) (by decide) (by decide) (by first | exact ⟨rfl, N0⟩ | (rw [e29]; exact ⟨rfl, N0⟩))
  · show GoOn p e below _ (T24.setTop (mkF m 87 #[.val (.int q0), .val (.int q1), .val (.int q2), .val (.int q3), .val (.ref b), .val (.int o), .val (.int (1 : Int32)), .unset, .unset] []))
    refine GoOn.step (fun t₀ k₀ => XS.aload X24.here hx rfl (hb hby at_87) rfl rfl k₀) ?_
    show GoOn p e below _ (T24.setTop (mkF m 89 #[.val (.int q0), .val (.int q1), .val (.int q2), .val (.int q3), .val (.ref b), .val (.int o), .val (.int (1 : Int32)), .unset, .unset] [(.ref b)]))
    refine GoOn.step (fun t₀ k₀ => XS.iload X24.here hx rfl (hb hby at_89) rfl k₀) ?_
    show GoOn p e below _ (T24.setTop (mkF m 91 #[.val (.int q0), .val (.int q1), .val (.int q2), .val (.int q3), .val (.ref b), .val (.int o), .val (.int (1 : Int32)), .unset, .unset] [(.int o), (.ref b)]))
    refine GoOn.step (fun t₀ k₀ => XS.iload X24.here hx rfl (hb hby at_91) rfl k₀) ?_
    show GoOn p e below _ (T24.setTop (mkF m 93 #[.val (.int q0), .val (.int q1), .val (.int q2), .val (.int q3), .val (.ref b), .val (.int o), .val (.int (1 : Int32)), .unset, .unset] [(.int (1 : Int32)), (.int o), (.ref b)]))
    obtain ⟨_, T31, L31, X31, hQ31, st31⟩ := kCallS X24 hx hZ (argsL := [(.ref b), (.int o), (.int (1 : Int32))]) (rest := []) (c_read1 l Z a0 hw b o g _ J ho) hown (hw _ (List.mem_of_getElem? (i := 2) rfl)) (hw _ (List.mem_of_getElem? (i := 3) rfl)) (hw _ (List.mem_of_getElem? (i := 4) rfl)) (hw _ (List.mem_of_getElem? (i := 5) rfl)) (by decide) e24 (g := (mkF m 93 #[.val (.int q0), .val (.int q1), .val (.int q2), .val (.int q3), .val (.ref b), .val (.int o), .val (.int (1 : Int32)), .unset, .unset] [(.int (1 : Int32)), (.int o), (.ref b)])) rfl (by rw [hml]; rfl) (lenOf pd_0 rfl) rfl (W := 0) (by show 2 * 0 + _ ≤ _; exact Nat.le_of_eq rfl) (hb hby at_93) (by decide) (by decide) (by decide) (by decide)
    obtain ⟨rfl, rfl, e31⟩ := hQ31
    rw [List.append_nil] at X31
    refine GoOn.step st31 ?_
    show GoOn p e below _ (T31.setTop (mkF m 96 #[.val (.int q0), .val (.int q1), .val (.int q2), .val (.int q3), .val (.ref b), .val (.int o), .val (.int (1 : Int32)), .unset, .unset] [(.int (((0 : Int32) <<< ((8 : Int32) &&& 31)) ||| (g (o + (0 : Int32)).toNatClampNeg &&& (255 : Int32))))]))
    generalize hr : (((0 : Int32) <<< ((8 : Int32) &&& 31)) ||| (g (o + (0 : Int32)).toNatClampNeg &&& (255 : Int32))) = r
    have hrI := congrArg Int32.toInt hr
    refine GoOn.step (fun t₀ k₀ => XS.istore X31.here hx rfl (hb hby at_96) rfl (l' := #[.val (.int q0), .val (.int q1), .val (.int q2), .val (.int q3), .val (.ref b), .val (.int o), .val (.int (1 : Int32)), .val (.int r), .unset]) rfl k₀) ?_
    show GoOn p e below _ (T31.setTop (mkF m 98 #[.val (.int q0), .val (.int q1), .val (.int q2), .val (.int q3), .val (.ref b), .val (.int o), .val (.int (1 : Int32)), .val (.int r), .unset] []))
    refine GoOn.step (fun t₀ k₀ => XS.aload X31.here hx rfl (hb hby at_98) rfl rfl k₀) ?_
    show GoOn p e below _ (T31.setTop (mkF m 100 #[.val (.int q0), .val (.int q1), .val (.int q2), .val (.int q3), .val (.ref b), .val (.int o), .val (.int (1 : Int32)), .val (.int r), .unset] [(.ref b)]))
    refine GoOn.step (fun t₀ k₀ => XS.iload X31.here hx rfl (hb hby at_100) rfl k₀) ?_
    show GoOn p e below _ (T31.setTop (mkF m 102 #[.val (.int q0), .val (.int q1), .val (.int q2), .val (.int q3), .val (.ref b), .val (.int o), .val (.int (1 : Int32)), .val (.int r), .unset] [(.int o), (.ref b)]))
    refine GoOn.step (fun t₀ k₀ => XS.iconst X31.here hx rfl (hb hby at_102) k₀) ?_
    show GoOn p e below _ (T31.setTop (mkF m 103 #[.val (.int q0), .val (.int q1), .val (.int q2), .val (.int q3), .val (.ref b), .val (.int o), .val (.int (1 : Int32)), .val (.int r), .unset] [(.int (0 : Int32)), (.int o), (.ref b)]))
    refine GoOn.step (fun t₀ k₀ => XS.iload X31.here hx rfl (hb hby at_103) rfl k₀) ?_
    show GoOn p e below _ (T31.setTop (mkF m 105 #[.val (.int q0), .val (.int q1), .val (.int q2), .val (.int q3), .val (.ref b), .val (.int o), .val (.int (1 : Int32)), .val (.int r), .unset] [(.int (1 : Int32)), (.int (0 : Int32)), (.int o), (.ref b)]))
    obtain ⟨_, T32, L32, X32, hQ32, st32⟩ := kCallS X31 hx hZ (argsL := [(.ref b), (.int o), (.int (0 : Int32)), (.int (1 : Int32))]) (rest := []) (c_u l Z a0 hw b o (0 : Int32) (1 : Int32) g _ J ho ⟨by decide, by decide⟩) hown (hw _ (List.mem_of_getElem? (i := 6) rfl)) (hw _ (List.mem_of_getElem? (i := 7) rfl)) (hw _ (List.mem_of_getElem? (i := 8) rfl)) (hw _ (List.mem_of_getElem? (i := 9) rfl)) (by decide) e31 (g := (mkF m 105 #[.val (.int q0), .val (.int q1), .val (.int q2), .val (.int q3), .val (.ref b), .val (.int o), .val (.int (1 : Int32)), .val (.int r), .unset] [(.int (1 : Int32)), (.int (0 : Int32)), (.int o), (.ref b)])) rfl (by rw [hml]; rfl) (lenOf pd_1 rfl) rfl (W := 0) (by show 2 * 0 + _ ≤ _; exact Nat.le_of_eq rfl) (hb hby at_105) (by decide) (by decide) (by decide) (by decide)
    obtain ⟨rfl, rfl, e32⟩ := hQ32
    rw [List.append_nil] at X32
    refine GoOn.step st32 ?_
    show GoOn p e below _ (T32.setTop (mkF m 108 #[.val (.int q0), .val (.int q1), .val (.int q2), .val (.int q3), .val (.ref b), .val (.int o), .val (.int (1 : Int32)), .val (.int r), .unset] [(.int (uV g o (0 : Int32) (1 : Int32)))]))
    refine GoOn.step (fun t₀ k₀ => XS.aload X32.here hx rfl (hb hby at_108) rfl rfl k₀) ?_
    show GoOn p e below _ (T32.setTop (mkF m 110 #[.val (.int q0), .val (.int q1), .val (.int q2), .val (.int q3), .val (.ref b), .val (.int o), .val (.int (1 : Int32)), .val (.int r), .unset] [(.ref b), (.int (uV g o (0 : Int32) (1 : Int32)))]))
    refine GoOn.step (fun t₀ k₀ => XS.iload X32.here hx rfl (hb hby at_110) rfl k₀) ?_
    show GoOn p e below _ (T32.setTop (mkF m 112 #[.val (.int q0), .val (.int q1), .val (.int q2), .val (.int q3), .val (.ref b), .val (.int o), .val (.int (1 : Int32)), .val (.int r), .unset] [(.int o), (.ref b), (.int (uV g o (0 : Int32) (1 : Int32)))]))
    refine GoOn.step (fun t₀ k₀ => XS.iconst X32.here hx rfl (hb hby at_112) k₀) ?_
    show GoOn p e below _ (T32.setTop (mkF m 113 #[.val (.int q0), .val (.int q1), .val (.int q2), .val (.int q3), .val (.ref b), .val (.int o), .val (.int (1 : Int32)), .val (.int r), .unset] [(.int (1 : Int32)), (.int o), (.ref b), (.int (uV g o (0 : Int32) (1 : Int32)))]))
    refine GoOn.step (fun t₀ k₀ => XS.iload X32.here hx rfl (hb hby at_113) rfl k₀) ?_
    show GoOn p e below _ (T32.setTop (mkF m 115 #[.val (.int q0), .val (.int q1), .val (.int q2), .val (.int q3), .val (.ref b), .val (.int o), .val (.int (1 : Int32)), .val (.int r), .unset] [(.int (1 : Int32)), (.int (1 : Int32)), (.int o), (.ref b), (.int (uV g o (0 : Int32) (1 : Int32)))]))
    obtain ⟨_, T33, L33, X33, hQ33, st33⟩ := kCallS X32 hx hZ (argsL := [(.ref b), (.int o), (.int (1 : Int32)), (.int (1 : Int32))]) (rest := [(.int (uV g o (0 : Int32) (1 : Int32)))]) (c_u l Z a0 hw b o (1 : Int32) (1 : Int32) g _ J ho ⟨by decide, by decide⟩) hown (hw _ (List.mem_of_getElem? (i := 6) rfl)) (hw _ (List.mem_of_getElem? (i := 7) rfl)) (hw _ (List.mem_of_getElem? (i := 8) rfl)) (hw _ (List.mem_of_getElem? (i := 9) rfl)) (by decide) e32 (g := (mkF m 115 #[.val (.int q0), .val (.int q1), .val (.int q2), .val (.int q3), .val (.ref b), .val (.int o), .val (.int (1 : Int32)), .val (.int r), .unset] [(.int (1 : Int32)), (.int (1 : Int32)), (.int o), (.ref b), (.int (uV g o (0 : Int32) (1 : Int32)))])) rfl (by rw [hml]; rfl) (lenOf pd_1 rfl) rfl (W := 1) (by show 2 * 0 + _ ≤ _; exact Nat.le_of_eq rfl) (hb hby at_115) (by decide) (by decide) (by decide) (by decide)
    obtain ⟨rfl, rfl, e33⟩ := hQ33
    rw [List.append_nil] at X33
    refine GoOn.step st33 ?_
    show GoOn p e below _ (T33.setTop (mkF m 118 #[.val (.int q0), .val (.int q1), .val (.int q2), .val (.int q3), .val (.ref b), .val (.int o), .val (.int (1 : Int32)), .val (.int r), .unset] [(.int (uV g o (1 : Int32) (1 : Int32))), (.int (uV g o (0 : Int32) (1 : Int32)))]))
    refine GoOn.step (fun t₀ k₀ => XS.bipush X33.here hx rfl (hb hby at_118) k₀) ?_
    show GoOn p e below _ (T33.setTop (mkF m 120 #[.val (.int q0), .val (.int q1), .val (.int q2), .val (.int q3), .val (.ref b), .val (.int o), .val (.int (1 : Int32)), .val (.int r), .unset] [(.int (8 : Int32)), (.int (uV g o (1 : Int32) (1 : Int32))), (.int (uV g o (0 : Int32) (1 : Int32)))]))
    refine GoOn.step (fun t₀ k₀ => XS.ishl X33.here hx rfl (hb hby at_120) rfl k₀) ?_
    show GoOn p e below _ (T33.setTop (mkF m 121 #[.val (.int q0), .val (.int q1), .val (.int q2), .val (.int q3), .val (.ref b), .val (.int o), .val (.int (1 : Int32)), .val (.int r), .unset] [(.int ((uV g o (1 : Int32) (1 : Int32)) <<< ((8 : Int32) &&& 31))), (.int (uV g o (0 : Int32) (1 : Int32)))]))
    refine GoOn.step (fun t₀ k₀ => XS.ior X33.here hx rfl (hb hby at_121) rfl k₀) ?_
    show GoOn p e below _ (T33.setTop (mkF m 122 #[.val (.int q0), .val (.int q1), .val (.int q2), .val (.int q3), .val (.ref b), .val (.int o), .val (.int (1 : Int32)), .val (.int r), .unset] [(.int ((uV g o (0 : Int32) (1 : Int32)) ||| ((uV g o (1 : Int32) (1 : Int32)) <<< ((8 : Int32) &&& 31))))]))
    refine GoOn.step (fun t₀ k₀ => XS.aload X33.here hx rfl (hb hby at_122) rfl rfl k₀) ?_
    show GoOn p e below _ (T33.setTop (mkF m 124 #[.val (.int q0), .val (.int q1), .val (.int q2), .val (.int q3), .val (.ref b), .val (.int o), .val (.int (1 : Int32)), .val (.int r), .unset] [(.ref b), (.int ((uV g o (0 : Int32) (1 : Int32)) ||| ((uV g o (1 : Int32) (1 : Int32)) <<< ((8 : Int32) &&& 31))))]))
    refine GoOn.step (fun t₀ k₀ => XS.iload X33.here hx rfl (hb hby at_124) rfl k₀) ?_
    show GoOn p e below _ (T33.setTop (mkF m 126 #[.val (.int q0), .val (.int q1), .val (.int q2), .val (.int q3), .val (.ref b), .val (.int o), .val (.int (1 : Int32)), .val (.int r), .unset] [(.int o), (.ref b), (.int ((uV g o (0 : Int32) (1 : Int32)) ||| ((uV g o (1 : Int32) (1 : Int32)) <<< ((8 : Int32) &&& 31))))]))
    refine GoOn.step (fun t₀ k₀ => XS.iconst X33.here hx rfl (hb hby at_126) k₀) ?_
    show GoOn p e below _ (T33.setTop (mkF m 127 #[.val (.int q0), .val (.int q1), .val (.int q2), .val (.int q3), .val (.ref b), .val (.int o), .val (.int (1 : Int32)), .val (.int r), .unset] [(.int (2 : Int32)), (.int o), (.ref b), (.int ((uV g o (0 : Int32) (1 : Int32)) ||| ((uV g o (1 : Int32) (1 : Int32)) <<< ((8 : Int32) &&& 31))))]))
    refine GoOn.step (fun t₀ k₀ => XS.iload X33.here hx rfl (hb hby at_127) rfl k₀) ?_
    show GoOn p e below _ (T33.setTop (mkF m 129 #[.val (.int q0), .val (.int q1), .val (.int q2), .val (.int q3), .val (.ref b), .val (.int o), .val (.int (1 : Int32)), .val (.int r), .unset] [(.int (1 : Int32)), (.int (2 : Int32)), (.int o), (.ref b), (.int ((uV g o (0 : Int32) (1 : Int32)) ||| ((uV g o (1 : Int32) (1 : Int32)) <<< ((8 : Int32) &&& 31))))]))
    obtain ⟨_, T34, L34, X34, hQ34, st34⟩ := kCallS X33 hx hZ (argsL := [(.ref b), (.int o), (.int (2 : Int32)), (.int (1 : Int32))]) (rest := [(.int ((uV g o (0 : Int32) (1 : Int32)) ||| ((uV g o (1 : Int32) (1 : Int32)) <<< ((8 : Int32) &&& 31))))]) (c_u l Z a0 hw b o (2 : Int32) (1 : Int32) g _ J ho ⟨by decide, by decide⟩) hown (hw _ (List.mem_of_getElem? (i := 6) rfl)) (hw _ (List.mem_of_getElem? (i := 7) rfl)) (hw _ (List.mem_of_getElem? (i := 8) rfl)) (hw _ (List.mem_of_getElem? (i := 9) rfl)) (by decide) e33 (g := (mkF m 129 #[.val (.int q0), .val (.int q1), .val (.int q2), .val (.int q3), .val (.ref b), .val (.int o), .val (.int (1 : Int32)), .val (.int r), .unset] [(.int (1 : Int32)), (.int (2 : Int32)), (.int o), (.ref b), (.int ((uV g o (0 : Int32) (1 : Int32)) ||| ((uV g o (1 : Int32) (1 : Int32)) <<< ((8 : Int32) &&& 31))))])) rfl (by rw [hml]; rfl) (lenOf pd_1 rfl) rfl (W := 1) (by show 2 * 0 + _ ≤ _; exact Nat.le_of_eq rfl) (hb hby at_129) (by decide) (by decide) (by decide) (by decide)
    obtain ⟨rfl, rfl, e34⟩ := hQ34
    rw [List.append_nil] at X34
    refine GoOn.step st34 ?_
    show GoOn p e below _ (T34.setTop (mkF m 132 #[.val (.int q0), .val (.int q1), .val (.int q2), .val (.int q3), .val (.ref b), .val (.int o), .val (.int (1 : Int32)), .val (.int r), .unset] [(.int (uV g o (2 : Int32) (1 : Int32))), (.int ((uV g o (0 : Int32) (1 : Int32)) ||| ((uV g o (1 : Int32) (1 : Int32)) <<< ((8 : Int32) &&& 31))))]))
    refine GoOn.step (fun t₀ k₀ => XS.bipush X34.here hx rfl (hb hby at_132) k₀) ?_
    show GoOn p e below _ (T34.setTop (mkF m 134 #[.val (.int q0), .val (.int q1), .val (.int q2), .val (.int q3), .val (.ref b), .val (.int o), .val (.int (1 : Int32)), .val (.int r), .unset] [(.int (16 : Int32)), (.int (uV g o (2 : Int32) (1 : Int32))), (.int ((uV g o (0 : Int32) (1 : Int32)) ||| ((uV g o (1 : Int32) (1 : Int32)) <<< ((8 : Int32) &&& 31))))]))
    refine GoOn.step (fun t₀ k₀ => XS.ishl X34.here hx rfl (hb hby at_134) rfl k₀) ?_
    show GoOn p e below _ (T34.setTop (mkF m 135 #[.val (.int q0), .val (.int q1), .val (.int q2), .val (.int q3), .val (.ref b), .val (.int o), .val (.int (1 : Int32)), .val (.int r), .unset] [(.int ((uV g o (2 : Int32) (1 : Int32)) <<< ((16 : Int32) &&& 31))), (.int ((uV g o (0 : Int32) (1 : Int32)) ||| ((uV g o (1 : Int32) (1 : Int32)) <<< ((8 : Int32) &&& 31))))]))
    refine GoOn.step (fun t₀ k₀ => XS.ior X34.here hx rfl (hb hby at_135) rfl k₀) ?_
    show GoOn p e below _ (T34.setTop (mkF m 136 #[.val (.int q0), .val (.int q1), .val (.int q2), .val (.int q3), .val (.ref b), .val (.int o), .val (.int (1 : Int32)), .val (.int r), .unset] [(.int (((uV g o (0 : Int32) (1 : Int32)) ||| ((uV g o (1 : Int32) (1 : Int32)) <<< ((8 : Int32) &&& 31))) ||| ((uV g o (2 : Int32) (1 : Int32)) <<< ((16 : Int32) &&& 31))))]))
    refine GoOn.step (fun t₀ k₀ => XS.aload X34.here hx rfl (hb hby at_136) rfl rfl k₀) ?_
    show GoOn p e below _ (T34.setTop (mkF m 138 #[.val (.int q0), .val (.int q1), .val (.int q2), .val (.int q3), .val (.ref b), .val (.int o), .val (.int (1 : Int32)), .val (.int r), .unset] [(.ref b), (.int (((uV g o (0 : Int32) (1 : Int32)) ||| ((uV g o (1 : Int32) (1 : Int32)) <<< ((8 : Int32) &&& 31))) ||| ((uV g o (2 : Int32) (1 : Int32)) <<< ((16 : Int32) &&& 31))))]))
    refine GoOn.step (fun t₀ k₀ => XS.iload X34.here hx rfl (hb hby at_138) rfl k₀) ?_
    show GoOn p e below _ (T34.setTop (mkF m 140 #[.val (.int q0), .val (.int q1), .val (.int q2), .val (.int q3), .val (.ref b), .val (.int o), .val (.int (1 : Int32)), .val (.int r), .unset] [(.int o), (.ref b), (.int (((uV g o (0 : Int32) (1 : Int32)) ||| ((uV g o (1 : Int32) (1 : Int32)) <<< ((8 : Int32) &&& 31))) ||| ((uV g o (2 : Int32) (1 : Int32)) <<< ((16 : Int32) &&& 31))))]))
    refine GoOn.step (fun t₀ k₀ => XS.iconst X34.here hx rfl (hb hby at_140) k₀) ?_
    show GoOn p e below _ (T34.setTop (mkF m 141 #[.val (.int q0), .val (.int q1), .val (.int q2), .val (.int q3), .val (.ref b), .val (.int o), .val (.int (1 : Int32)), .val (.int r), .unset] [(.int (3 : Int32)), (.int o), (.ref b), (.int (((uV g o (0 : Int32) (1 : Int32)) ||| ((uV g o (1 : Int32) (1 : Int32)) <<< ((8 : Int32) &&& 31))) ||| ((uV g o (2 : Int32) (1 : Int32)) <<< ((16 : Int32) &&& 31))))]))
    refine GoOn.step (fun t₀ k₀ => XS.iload X34.here hx rfl (hb hby at_141) rfl k₀) ?_
    show GoOn p e below _ (T34.setTop (mkF m 143 #[.val (.int q0), .val (.int q1), .val (.int q2), .val (.int q3), .val (.ref b), .val (.int o), .val (.int (1 : Int32)), .val (.int r), .unset] [(.int (1 : Int32)), (.int (3 : Int32)), (.int o), (.ref b), (.int (((uV g o (0 : Int32) (1 : Int32)) ||| ((uV g o (1 : Int32) (1 : Int32)) <<< ((8 : Int32) &&& 31))) ||| ((uV g o (2 : Int32) (1 : Int32)) <<< ((16 : Int32) &&& 31))))]))
    obtain ⟨_, T35, L35, X35, hQ35, st35⟩ := kCallS X34 hx hZ (argsL := [(.ref b), (.int o), (.int (3 : Int32)), (.int (1 : Int32))]) (rest := [(.int (((uV g o (0 : Int32) (1 : Int32)) ||| ((uV g o (1 : Int32) (1 : Int32)) <<< ((8 : Int32) &&& 31))) ||| ((uV g o (2 : Int32) (1 : Int32)) <<< ((16 : Int32) &&& 31))))]) (c_u l Z a0 hw b o (3 : Int32) (1 : Int32) g _ J ho ⟨by decide, by decide⟩) hown (hw _ (List.mem_of_getElem? (i := 6) rfl)) (hw _ (List.mem_of_getElem? (i := 7) rfl)) (hw _ (List.mem_of_getElem? (i := 8) rfl)) (hw _ (List.mem_of_getElem? (i := 9) rfl)) (by decide) e34 (g := (mkF m 143 #[.val (.int q0), .val (.int q1), .val (.int q2), .val (.int q3), .val (.ref b), .val (.int o), .val (.int (1 : Int32)), .val (.int r), .unset] [(.int (1 : Int32)), (.int (3 : Int32)), (.int o), (.ref b), (.int (((uV g o (0 : Int32) (1 : Int32)) ||| ((uV g o (1 : Int32) (1 : Int32)) <<< ((8 : Int32) &&& 31))) ||| ((uV g o (2 : Int32) (1 : Int32)) <<< ((16 : Int32) &&& 31))))])) rfl (by rw [hml]; rfl) (lenOf pd_1 rfl) rfl (W := 1) (by show 2 * 0 + _ ≤ _; exact Nat.le_of_eq rfl) (hb hby at_143) (by decide) (by decide) (by decide) (by decide)
    obtain ⟨rfl, rfl, e35⟩ := hQ35
    rw [List.append_nil] at X35
    refine GoOn.step st35 ?_
    show GoOn p e below _ (T35.setTop (mkF m 146 #[.val (.int q0), .val (.int q1), .val (.int q2), .val (.int q3), .val (.ref b), .val (.int o), .val (.int (1 : Int32)), .val (.int r), .unset] [(.int (uV g o (3 : Int32) (1 : Int32))), (.int (((uV g o (0 : Int32) (1 : Int32)) ||| ((uV g o (1 : Int32) (1 : Int32)) <<< ((8 : Int32) &&& 31))) ||| ((uV g o (2 : Int32) (1 : Int32)) <<< ((16 : Int32) &&& 31))))]))
    refine GoOn.step (fun t₀ k₀ => XS.bipush X35.here hx rfl (hb hby at_146) k₀) ?_
    show GoOn p e below _ (T35.setTop (mkF m 148 #[.val (.int q0), .val (.int q1), .val (.int q2), .val (.int q3), .val (.ref b), .val (.int o), .val (.int (1 : Int32)), .val (.int r), .unset] [(.int (24 : Int32)), (.int (uV g o (3 : Int32) (1 : Int32))), (.int (((uV g o (0 : Int32) (1 : Int32)) ||| ((uV g o (1 : Int32) (1 : Int32)) <<< ((8 : Int32) &&& 31))) ||| ((uV g o (2 : Int32) (1 : Int32)) <<< ((16 : Int32) &&& 31))))]))
    refine GoOn.step (fun t₀ k₀ => XS.ishl X35.here hx rfl (hb hby at_148) rfl k₀) ?_
    show GoOn p e below _ (T35.setTop (mkF m 149 #[.val (.int q0), .val (.int q1), .val (.int q2), .val (.int q3), .val (.ref b), .val (.int o), .val (.int (1 : Int32)), .val (.int r), .unset] [(.int ((uV g o (3 : Int32) (1 : Int32)) <<< ((24 : Int32) &&& 31))), (.int (((uV g o (0 : Int32) (1 : Int32)) ||| ((uV g o (1 : Int32) (1 : Int32)) <<< ((8 : Int32) &&& 31))) ||| ((uV g o (2 : Int32) (1 : Int32)) <<< ((16 : Int32) &&& 31))))]))
    refine GoOn.step (fun t₀ k₀ => XS.ior X35.here hx rfl (hb hby at_149) rfl k₀) ?_
    show GoOn p e below _ (T35.setTop (mkF m 150 #[.val (.int q0), .val (.int q1), .val (.int q2), .val (.int q3), .val (.ref b), .val (.int o), .val (.int (1 : Int32)), .val (.int r), .unset] [(.int ((((uV g o (0 : Int32) (1 : Int32)) ||| ((uV g o (1 : Int32) (1 : Int32)) <<< ((8 : Int32) &&& 31))) ||| ((uV g o (2 : Int32) (1 : Int32)) <<< ((16 : Int32) &&& 31))) ||| ((uV g o (3 : Int32) (1 : Int32)) <<< ((24 : Int32) &&& 31))))]))
    refine GoOn.step (fun t₀ k₀ => XS.istore X35.here hx rfl (hb hby at_150) rfl (l' := #[.val (.int q0), .val (.int q1), .val (.int q2), .val (.int q3), .val (.ref b), .val (.int o), .val (.int (1 : Int32)), .val (.int r), .val (.int ((((uV g o (0 : Int32) (1 : Int32)) ||| ((uV g o (1 : Int32) (1 : Int32)) <<< ((8 : Int32) &&& 31))) ||| ((uV g o (2 : Int32) (1 : Int32)) <<< ((16 : Int32) &&& 31))) ||| ((uV g o (3 : Int32) (1 : Int32)) <<< ((24 : Int32) &&& 31))))]) rfl k₀) ?_
    show GoOn p e below _ (T35.setTop (mkF m 152 #[.val (.int q0), .val (.int q1), .val (.int q2), .val (.int q3), .val (.ref b), .val (.int o), .val (.int (1 : Int32)), .val (.int r), .val (.int ((((uV g o (0 : Int32) (1 : Int32)) ||| ((uV g o (1 : Int32) (1 : Int32)) <<< ((8 : Int32) &&& 31))) ||| ((uV g o (2 : Int32) (1 : Int32)) <<< ((16 : Int32) &&& 31))) ||| ((uV g o (3 : Int32) (1 : Int32)) <<< ((24 : Int32) &&& 31))))] []))
    refine GoOn.step (fun t₀ k₀ => XS.iload X35.here hx rfl (hb hby at_152) rfl k₀) ?_
    show GoOn p e below _ (T35.setTop (mkF m 154 #[.val (.int q0), .val (.int q1), .val (.int q2), .val (.int q3), .val (.ref b), .val (.int o), .val (.int (1 : Int32)), .val (.int r), .val (.int ((((uV g o (0 : Int32) (1 : Int32)) ||| ((uV g o (1 : Int32) (1 : Int32)) <<< ((8 : Int32) &&& 31))) ||| ((uV g o (2 : Int32) (1 : Int32)) <<< ((16 : Int32) &&& 31))) ||| ((uV g o (3 : Int32) (1 : Int32)) <<< ((24 : Int32) &&& 31))))] [(.int r)]))
    refine GoOn.step (fun t₀ k₀ => XS.iload X35.here hx rfl (hb hby at_154) rfl k₀) ?_
    show GoOn p e below _ (T35.setTop (mkF m 156 #[.val (.int q0), .val (.int q1), .val (.int q2), .val (.int q3), .val (.ref b), .val (.int o), .val (.int (1 : Int32)), .val (.int r), .val (.int ((((uV g o (0 : Int32) (1 : Int32)) ||| ((uV g o (1 : Int32) (1 : Int32)) <<< ((8 : Int32) &&& 31))) ||| ((uV g o (2 : Int32) (1 : Int32)) <<< ((16 : Int32) &&& 31))) ||| ((uV g o (3 : Int32) (1 : Int32)) <<< ((24 : Int32) &&& 31))))] [(.int ((((uV g o (0 : Int32) (1 : Int32)) ||| ((uV g o (1 : Int32) (1 : Int32)) <<< ((8 : Int32) &&& 31))) ||| ((uV g o (2 : Int32) (1 : Int32)) <<< ((16 : Int32) &&& 31))) ||| ((uV g o (3 : Int32) (1 : Int32)) <<< ((24 : Int32) &&& 31)))), (.int r)]))
    have hf36 : r = ((((uV g o (0 : Int32) (1 : Int32)) ||| ((uV g o (1 : Int32) (1 : Int32)) <<< ((8 : Int32) &&& 31))) ||| ((uV g o (2 : Int32) (1 : Int32)) <<< ((16 : Int32) &&& 31))) ||| ((uV g o (3 : Int32) (1 : Int32)) <<< ((24 : Int32) &&& 31))) := (by rw [uT (by decide : (0 : Int32) < (1 : Int32)), uF (by decide : ¬ (1 : Int32) < (1 : Int32)), uF (by decide : ¬ (2 : Int32) < (1 : Int32)), uF (by decide : ¬ (3 : Int32) < (1 : Int32)), ← hr]; exact pl1  _)
    refine GoOn.step (fun t₀ k₀ => XS.icmpNo X35.here hx rfl (hb hby at_156) rfl (teq hf36).2 k₀) ?_
    show GoOn p e below _ (T35.setTop (mkF m 159 #[.val (.int q0), .val (.int q1), .val (.int q2), .val (.int q3), .val (.ref b), .val (.int o), .val (.int (1 : Int32)), .val (.int r), .val (.int ((((uV g o (0 : Int32) (1 : Int32)) ||| ((uV g o (1 : Int32) (1 : Int32)) <<< ((8 : Int32) &&& 31))) ||| ((uV g o (2 : Int32) (1 : Int32)) <<< ((16 : Int32) &&& 31))) ||| ((uV g o (3 : Int32) (1 : Int32)) <<< ((24 : Int32) &&& 31))))] []))
    refine GoOn.step (fun t₀ k₀ => XS.iconst X35.here hx rfl (hb hby at_159) k₀) ?_
    show GoOn p e below _ (T35.setTop (mkF m 160 #[.val (.int q0), .val (.int q1), .val (.int q2), .val (.int q3), .val (.ref b), .val (.int o), .val (.int (1 : Int32)), .val (.int r), .val (.int ((((uV g o (0 : Int32) (1 : Int32)) ||| ((uV g o (1 : Int32) (1 : Int32)) <<< ((8 : Int32) &&& 31))) ||| ((uV g o (2 : Int32) (1 : Int32)) <<< ((16 : Int32) &&& 31))) ||| ((uV g o (3 : Int32) (1 : Int32)) <<< ((24 : Int32) &&& 31))))] [(.int (1 : Int32))]))
    refine GoOn.step (fun t₀ k₀ => XS.goto X35.here hx rfl (pc0 := 160) (pc' := 164) rfl (hb hby at_160) (by decide) (by decide) k₀) ?_
    show GoOn p e below _ (T35.setTop (mkF m 164 #[.val (.int q0), .val (.int q1), .val (.int q2), .val (.int q3), .val (.ref b), .val (.int o), .val (.int (1 : Int32)), .val (.int r), .val (.int ((((uV g o (0 : Int32) (1 : Int32)) ||| ((uV g o (1 : Int32) (1 : Int32)) <<< ((8 : Int32) &&& 31))) ||| ((uV g o (2 : Int32) (1 : Int32)) <<< ((16 : Int32) &&& 31))) ||| ((uV g o (3 : Int32) (1 : Int32)) <<< ((24 : Int32) &&& 31))))] [(.int (1 : Int32))]))
    exact GoOn.retN X35 hx hrt hlk (by simp) (hb hby at_164) (by decide) (by decide) (by first | exact ⟨rfl, N0⟩ | (rw [e35]; exact ⟨rfl, N0⟩))
  · show GoOn p e below _ (T24.setTop (mkF m 87 #[.val (.int q0), .val (.int q1), .val (.int q2), .val (.int q3), .val (.ref b), .val (.int o), .val (.int (2 : Int32)), .unset, .unset] []))
    refine GoOn.step (fun t₀ k₀ => XS.aload X24.here hx rfl (hb hby at_87) rfl rfl k₀) ?_
    show GoOn p e below _ (T24.setTop (mkF m 89 #[.val (.int q0), .val (.int q1), .val (.int q2), .val (.int q3), .val (.ref b), .val (.int o), .val (.int (2 : Int32)), .unset, .unset] [(.ref b)]))
    refine GoOn.step (fun t₀ k₀ => XS.iload X24.here hx rfl (hb hby at_89) rfl k₀) ?_
    show GoOn p e below _ (T24.setTop (mkF m 91 #[.val (.int q0), .val (.int q1), .val (.int q2), .val (.int q3), .val (.ref b), .val (.int o), .val (.int (2 : Int32)), .unset, .unset] [(.int o), (.ref b)]))
    refine GoOn.step (fun t₀ k₀ => XS.iload X24.here hx rfl (hb hby at_91) rfl k₀) ?_
    show GoOn p e below _ (T24.setTop (mkF m 93 #[.val (.int q0), .val (.int q1), .val (.int q2), .val (.int q3), .val (.ref b), .val (.int o), .val (.int (2 : Int32)), .unset, .unset] [(.int (2 : Int32)), (.int o), (.ref b)]))
    obtain ⟨_, T37, L37, X37, hQ37, st37⟩ := kCallS X24 hx hZ (argsL := [(.ref b), (.int o), (.int (2 : Int32))]) (rest := []) (c_read2 l Z a0 hw b o g _ J ho) hown (hw _ (List.mem_of_getElem? (i := 2) rfl)) (hw _ (List.mem_of_getElem? (i := 3) rfl)) (hw _ (List.mem_of_getElem? (i := 4) rfl)) (hw _ (List.mem_of_getElem? (i := 5) rfl)) (by decide) e24 (g := (mkF m 93 #[.val (.int q0), .val (.int q1), .val (.int q2), .val (.int q3), .val (.ref b), .val (.int o), .val (.int (2 : Int32)), .unset, .unset] [(.int (2 : Int32)), (.int o), (.ref b)])) rfl (by rw [hml]; rfl) (lenOf pd_0 rfl) rfl (W := 0) (by show 2 * 0 + _ ≤ _; exact Nat.le_of_eq rfl) (hb hby at_93) (by decide) (by decide) (by decide) (by decide)
    obtain ⟨rfl, rfl, e37⟩ := hQ37
    rw [List.append_nil] at X37
    refine GoOn.step st37 ?_
    show GoOn p e below _ (T37.setTop (mkF m 96 #[.val (.int q0), .val (.int q1), .val (.int q2), .val (.int q3), .val (.ref b), .val (.int o), .val (.int (2 : Int32)), .unset, .unset] [(.int (((((0 : Int32) <<< ((8 : Int32) &&& 31)) ||| (g (o + (1 : Int32)).toNatClampNeg &&& (255 : Int32))) <<< ((8 : Int32) &&& 31)) ||| (g (o + (0 : Int32)).toNatClampNeg &&& (255 : Int32))))]))
    generalize hr : (((((0 : Int32) <<< ((8 : Int32) &&& 31)) ||| (g (o + (1 : Int32)).toNatClampNeg &&& (255 : Int32))) <<< ((8 : Int32) &&& 31)) ||| (g (o + (0 : Int32)).toNatClampNeg &&& (255 : Int32))) = r
    have hrI := congrArg Int32.toInt hr
    refine GoOn.step (fun t₀ k₀ => XS.istore X37.here hx rfl (hb hby at_96) rfl (l' := #[.val (.int q0), .val (.int q1), .val (.int q2), .val (.int q3), .val (.ref b), .val (.int o), .val (.int (2 : Int32)), .val (.int r), .unset]) rfl k₀) ?_
    show GoOn p e below _ (T37.setTop (mkF m 98 #[.val (.int q0), .val (.int q1), .val (.int q2), .val (.int q3), .val (.ref b), .val (.int o), .val (.int (2 : Int32)), .val (.int r), .unset] []))
    refine GoOn.step (fun t₀ k₀ => XS.aload X37.here hx rfl (hb hby at_98) rfl rfl k₀) ?_
    show GoOn p e below _ (T37.setTop (mkF m 100 #[.val (.int q0), .val (.int q1), .val (.int q2), .val (.int q3), .val (.ref b), .val (.int o), .val (.int (2 : Int32)), .val (.int r), .unset] [(.ref b)]))
    refine GoOn.step (fun t₀ k₀ => XS.iload X37.here hx rfl (hb hby at_100) rfl k₀) ?_
    show GoOn p e below _ (T37.setTop (mkF m 102 #[.val (.int q0), .val (.int q1), .val (.int q2), .val (.int q3), .val (.ref b), .val (.int o), .val (.int (2 : Int32)), .val (.int r), .unset] [(.int o), (.ref b)]))
    refine GoOn.step (fun t₀ k₀ => XS.iconst X37.here hx rfl (hb hby at_102) k₀) ?_
    show GoOn p e below _ (T37.setTop (mkF m 103 #[.val (.int q0), .val (.int q1), .val (.int q2), .val (.int q3), .val (.ref b), .val (.int o), .val (.int (2 : Int32)), .val (.int r), .unset] [(.int (0 : Int32)), (.int o), (.ref b)]))
    refine GoOn.step (fun t₀ k₀ => XS.iload X37.here hx rfl (hb hby at_103) rfl k₀) ?_
    show GoOn p e below _ (T37.setTop (mkF m 105 #[.val (.int q0), .val (.int q1), .val (.int q2), .val (.int q3), .val (.ref b), .val (.int o), .val (.int (2 : Int32)), .val (.int r), .unset] [(.int (2 : Int32)), (.int (0 : Int32)), (.int o), (.ref b)]))
    obtain ⟨_, T38, L38, X38, hQ38, st38⟩ := kCallS X37 hx hZ (argsL := [(.ref b), (.int o), (.int (0 : Int32)), (.int (2 : Int32))]) (rest := []) (c_u l Z a0 hw b o (0 : Int32) (2 : Int32) g _ J ho ⟨by decide, by decide⟩) hown (hw _ (List.mem_of_getElem? (i := 6) rfl)) (hw _ (List.mem_of_getElem? (i := 7) rfl)) (hw _ (List.mem_of_getElem? (i := 8) rfl)) (hw _ (List.mem_of_getElem? (i := 9) rfl)) (by decide) e37 (g := (mkF m 105 #[.val (.int q0), .val (.int q1), .val (.int q2), .val (.int q3), .val (.ref b), .val (.int o), .val (.int (2 : Int32)), .val (.int r), .unset] [(.int (2 : Int32)), (.int (0 : Int32)), (.int o), (.ref b)])) rfl (by rw [hml]; rfl) (lenOf pd_1 rfl) rfl (W := 0) (by show 2 * 0 + _ ≤ _; exact Nat.le_of_eq rfl) (hb hby at_105) (by decide) (by decide) (by decide) (by decide)
    obtain ⟨rfl, rfl, e38⟩ := hQ38
    rw [List.append_nil] at X38
    refine GoOn.step st38 ?_
    show GoOn p e below _ (T38.setTop (mkF m 108 #[.val (.int q0), .val (.int q1), .val (.int q2), .val (.int q3), .val (.ref b), .val (.int o), .val (.int (2 : Int32)), .val (.int r), .unset] [(.int (uV g o (0 : Int32) (2 : Int32)))]))
    refine GoOn.step (fun t₀ k₀ => XS.aload X38.here hx rfl (hb hby at_108) rfl rfl k₀) ?_
    show GoOn p e below _ (T38.setTop (mkF m 110 #[.val (.int q0), .val (.int q1), .val (.int q2), .val (.int q3), .val (.ref b), .val (.int o), .val (.int (2 : Int32)), .val (.int r), .unset] [(.ref b), (.int (uV g o (0 : Int32) (2 : Int32)))]))
    refine GoOn.step (fun t₀ k₀ => XS.iload X38.here hx rfl (hb hby at_110) rfl k₀) ?_
    show GoOn p e below _ (T38.setTop (mkF m 112 #[.val (.int q0), .val (.int q1), .val (.int q2), .val (.int q3), .val (.ref b), .val (.int o), .val (.int (2 : Int32)), .val (.int r), .unset] [(.int o), (.ref b), (.int (uV g o (0 : Int32) (2 : Int32)))]))
    refine GoOn.step (fun t₀ k₀ => XS.iconst X38.here hx rfl (hb hby at_112) k₀) ?_
    show GoOn p e below _ (T38.setTop (mkF m 113 #[.val (.int q0), .val (.int q1), .val (.int q2), .val (.int q3), .val (.ref b), .val (.int o), .val (.int (2 : Int32)), .val (.int r), .unset] [(.int (1 : Int32)), (.int o), (.ref b), (.int (uV g o (0 : Int32) (2 : Int32)))]))
    refine GoOn.step (fun t₀ k₀ => XS.iload X38.here hx rfl (hb hby at_113) rfl k₀) ?_
    show GoOn p e below _ (T38.setTop (mkF m 115 #[.val (.int q0), .val (.int q1), .val (.int q2), .val (.int q3), .val (.ref b), .val (.int o), .val (.int (2 : Int32)), .val (.int r), .unset] [(.int (2 : Int32)), (.int (1 : Int32)), (.int o), (.ref b), (.int (uV g o (0 : Int32) (2 : Int32)))]))
    obtain ⟨_, T39, L39, X39, hQ39, st39⟩ := kCallS X38 hx hZ (argsL := [(.ref b), (.int o), (.int (1 : Int32)), (.int (2 : Int32))]) (rest := [(.int (uV g o (0 : Int32) (2 : Int32)))]) (c_u l Z a0 hw b o (1 : Int32) (2 : Int32) g _ J ho ⟨by decide, by decide⟩) hown (hw _ (List.mem_of_getElem? (i := 6) rfl)) (hw _ (List.mem_of_getElem? (i := 7) rfl)) (hw _ (List.mem_of_getElem? (i := 8) rfl)) (hw _ (List.mem_of_getElem? (i := 9) rfl)) (by decide) e38 (g := (mkF m 115 #[.val (.int q0), .val (.int q1), .val (.int q2), .val (.int q3), .val (.ref b), .val (.int o), .val (.int (2 : Int32)), .val (.int r), .unset] [(.int (2 : Int32)), (.int (1 : Int32)), (.int o), (.ref b), (.int (uV g o (0 : Int32) (2 : Int32)))])) rfl (by rw [hml]; rfl) (lenOf pd_1 rfl) rfl (W := 1) (by show 2 * 0 + _ ≤ _; exact Nat.le_of_eq rfl) (hb hby at_115) (by decide) (by decide) (by decide) (by decide)
    obtain ⟨rfl, rfl, e39⟩ := hQ39
    rw [List.append_nil] at X39
    refine GoOn.step st39 ?_
    show GoOn p e below _ (T39.setTop (mkF m 118 #[.val (.int q0), .val (.int q1), .val (.int q2), .val (.int q3), .val (.ref b), .val (.int o), .val (.int (2 : Int32)), .val (.int r), .unset] [(.int (uV g o (1 : Int32) (2 : Int32))), (.int (uV g o (0 : Int32) (2 : Int32)))]))
    refine GoOn.step (fun t₀ k₀ => XS.bipush X39.here hx rfl (hb hby at_118) k₀) ?_
    show GoOn p e below _ (T39.setTop (mkF m 120 #[.val (.int q0), .val (.int q1), .val (.int q2), .val (.int q3), .val (.ref b), .val (.int o), .val (.int (2 : Int32)), .val (.int r), .unset] [(.int (8 : Int32)), (.int (uV g o (1 : Int32) (2 : Int32))), (.int (uV g o (0 : Int32) (2 : Int32)))]))
    refine GoOn.step (fun t₀ k₀ => XS.ishl X39.here hx rfl (hb hby at_120) rfl k₀) ?_
    show GoOn p e below _ (T39.setTop (mkF m 121 #[.val (.int q0), .val (.int q1), .val (.int q2), .val (.int q3), .val (.ref b), .val (.int o), .val (.int (2 : Int32)), .val (.int r), .unset] [(.int ((uV g o (1 : Int32) (2 : Int32)) <<< ((8 : Int32) &&& 31))), (.int (uV g o (0 : Int32) (2 : Int32)))]))
    refine GoOn.step (fun t₀ k₀ => XS.ior X39.here hx rfl (hb hby at_121) rfl k₀) ?_
    show GoOn p e below _ (T39.setTop (mkF m 122 #[.val (.int q0), .val (.int q1), .val (.int q2), .val (.int q3), .val (.ref b), .val (.int o), .val (.int (2 : Int32)), .val (.int r), .unset] [(.int ((uV g o (0 : Int32) (2 : Int32)) ||| ((uV g o (1 : Int32) (2 : Int32)) <<< ((8 : Int32) &&& 31))))]))
    refine GoOn.step (fun t₀ k₀ => XS.aload X39.here hx rfl (hb hby at_122) rfl rfl k₀) ?_
    show GoOn p e below _ (T39.setTop (mkF m 124 #[.val (.int q0), .val (.int q1), .val (.int q2), .val (.int q3), .val (.ref b), .val (.int o), .val (.int (2 : Int32)), .val (.int r), .unset] [(.ref b), (.int ((uV g o (0 : Int32) (2 : Int32)) ||| ((uV g o (1 : Int32) (2 : Int32)) <<< ((8 : Int32) &&& 31))))]))
    refine GoOn.step (fun t₀ k₀ => XS.iload X39.here hx rfl (hb hby at_124) rfl k₀) ?_
    show GoOn p e below _ (T39.setTop (mkF m 126 #[.val (.int q0), .val (.int q1), .val (.int q2), .val (.int q3), .val (.ref b), .val (.int o), .val (.int (2 : Int32)), .val (.int r), .unset] [(.int o), (.ref b), (.int ((uV g o (0 : Int32) (2 : Int32)) ||| ((uV g o (1 : Int32) (2 : Int32)) <<< ((8 : Int32) &&& 31))))]))
    refine GoOn.step (fun t₀ k₀ => XS.iconst X39.here hx rfl (hb hby at_126) k₀) ?_
    show GoOn p e below _ (T39.setTop (mkF m 127 #[.val (.int q0), .val (.int q1), .val (.int q2), .val (.int q3), .val (.ref b), .val (.int o), .val (.int (2 : Int32)), .val (.int r), .unset] [(.int (2 : Int32)), (.int o), (.ref b), (.int ((uV g o (0 : Int32) (2 : Int32)) ||| ((uV g o (1 : Int32) (2 : Int32)) <<< ((8 : Int32) &&& 31))))]))
    refine GoOn.step (fun t₀ k₀ => XS.iload X39.here hx rfl (hb hby at_127) rfl k₀) ?_
    show GoOn p e below _ (T39.setTop (mkF m 129 #[.val (.int q0), .val (.int q1), .val (.int q2), .val (.int q3), .val (.ref b), .val (.int o), .val (.int (2 : Int32)), .val (.int r), .unset] [(.int (2 : Int32)), (.int (2 : Int32)), (.int o), (.ref b), (.int ((uV g o (0 : Int32) (2 : Int32)) ||| ((uV g o (1 : Int32) (2 : Int32)) <<< ((8 : Int32) &&& 31))))]))
    obtain ⟨_, T40, L40, X40, hQ40, st40⟩ := kCallS X39 hx hZ (argsL := [(.ref b), (.int o), (.int (2 : Int32)), (.int (2 : Int32))]) (rest := [(.int ((uV g o (0 : Int32) (2 : Int32)) ||| ((uV g o (1 : Int32) (2 : Int32)) <<< ((8 : Int32) &&& 31))))]) (c_u l Z a0 hw b o (2 : Int32) (2 : Int32) g _ J ho ⟨by decide, by decide⟩) hown (hw _ (List.mem_of_getElem? (i := 6) rfl)) (hw _ (List.mem_of_getElem? (i := 7) rfl)) (hw _ (List.mem_of_getElem? (i := 8) rfl)) (hw _ (List.mem_of_getElem? (i := 9) rfl)) (by decide) e39 (g := (mkF m 129 #[.val (.int q0), .val (.int q1), .val (.int q2), .val (.int q3), .val (.ref b), .val (.int o), .val (.int (2 : Int32)), .val (.int r), .unset] [(.int (2 : Int32)), (.int (2 : Int32)), (.int o), (.ref b), (.int ((uV g o (0 : Int32) (2 : Int32)) ||| ((uV g o (1 : Int32) (2 : Int32)) <<< ((8 : Int32) &&& 31))))])) rfl (by rw [hml]; rfl) (lenOf pd_1 rfl) rfl (W := 1) (by show 2 * 0 + _ ≤ _; exact Nat.le_of_eq rfl) (hb hby at_129) (by decide) (by decide) (by decide) (by decide)
    obtain ⟨rfl, rfl, e40⟩ := hQ40
    rw [List.append_nil] at X40
    refine GoOn.step st40 ?_
    show GoOn p e below _ (T40.setTop (mkF m 132 #[.val (.int q0), .val (.int q1), .val (.int q2), .val (.int q3), .val (.ref b), .val (.int o), .val (.int (2 : Int32)), .val (.int r), .unset] [(.int (uV g o (2 : Int32) (2 : Int32))), (.int ((uV g o (0 : Int32) (2 : Int32)) ||| ((uV g o (1 : Int32) (2 : Int32)) <<< ((8 : Int32) &&& 31))))]))
    refine GoOn.step (fun t₀ k₀ => XS.bipush X40.here hx rfl (hb hby at_132) k₀) ?_
    show GoOn p e below _ (T40.setTop (mkF m 134 #[.val (.int q0), .val (.int q1), .val (.int q2), .val (.int q3), .val (.ref b), .val (.int o), .val (.int (2 : Int32)), .val (.int r), .unset] [(.int (16 : Int32)), (.int (uV g o (2 : Int32) (2 : Int32))), (.int ((uV g o (0 : Int32) (2 : Int32)) ||| ((uV g o (1 : Int32) (2 : Int32)) <<< ((8 : Int32) &&& 31))))]))
    refine GoOn.step (fun t₀ k₀ => XS.ishl X40.here hx rfl (hb hby at_134) rfl k₀) ?_
    show GoOn p e below _ (T40.setTop (mkF m 135 #[.val (.int q0), .val (.int q1), .val (.int q2), .val (.int q3), .val (.ref b), .val (.int o), .val (.int (2 : Int32)), .val (.int r), .unset] [(.int ((uV g o (2 : Int32) (2 : Int32)) <<< ((16 : Int32) &&& 31))), (.int ((uV g o (0 : Int32) (2 : Int32)) ||| ((uV g o (1 : Int32) (2 : Int32)) <<< ((8 : Int32) &&& 31))))]))
    refine GoOn.step (fun t₀ k₀ => XS.ior X40.here hx rfl (hb hby at_135) rfl k₀) ?_
    show GoOn p e below _ (T40.setTop (mkF m 136 #[.val (.int q0), .val (.int q1), .val (.int q2), .val (.int q3), .val (.ref b), .val (.int o), .val (.int (2 : Int32)), .val (.int r), .unset] [(.int (((uV g o (0 : Int32) (2 : Int32)) ||| ((uV g o (1 : Int32) (2 : Int32)) <<< ((8 : Int32) &&& 31))) ||| ((uV g o (2 : Int32) (2 : Int32)) <<< ((16 : Int32) &&& 31))))]))
    refine GoOn.step (fun t₀ k₀ => XS.aload X40.here hx rfl (hb hby at_136) rfl rfl k₀) ?_
    show GoOn p e below _ (T40.setTop (mkF m 138 #[.val (.int q0), .val (.int q1), .val (.int q2), .val (.int q3), .val (.ref b), .val (.int o), .val (.int (2 : Int32)), .val (.int r), .unset] [(.ref b), (.int (((uV g o (0 : Int32) (2 : Int32)) ||| ((uV g o (1 : Int32) (2 : Int32)) <<< ((8 : Int32) &&& 31))) ||| ((uV g o (2 : Int32) (2 : Int32)) <<< ((16 : Int32) &&& 31))))]))
    refine GoOn.step (fun t₀ k₀ => XS.iload X40.here hx rfl (hb hby at_138) rfl k₀) ?_
    show GoOn p e below _ (T40.setTop (mkF m 140 #[.val (.int q0), .val (.int q1), .val (.int q2), .val (.int q3), .val (.ref b), .val (.int o), .val (.int (2 : Int32)), .val (.int r), .unset] [(.int o), (.ref b), (.int (((uV g o (0 : Int32) (2 : Int32)) ||| ((uV g o (1 : Int32) (2 : Int32)) <<< ((8 : Int32) &&& 31))) ||| ((uV g o (2 : Int32) (2 : Int32)) <<< ((16 : Int32) &&& 31))))]))
    refine GoOn.step (fun t₀ k₀ => XS.iconst X40.here hx rfl (hb hby at_140) k₀) ?_
    show GoOn p e below _ (T40.setTop (mkF m 141 #[.val (.int q0), .val (.int q1), .val (.int q2), .val (.int q3), .val (.ref b), .val (.int o), .val (.int (2 : Int32)), .val (.int r), .unset] [(.int (3 : Int32)), (.int o), (.ref b), (.int (((uV g o (0 : Int32) (2 : Int32)) ||| ((uV g o (1 : Int32) (2 : Int32)) <<< ((8 : Int32) &&& 31))) ||| ((uV g o (2 : Int32) (2 : Int32)) <<< ((16 : Int32) &&& 31))))]))
    refine GoOn.step (fun t₀ k₀ => XS.iload X40.here hx rfl (hb hby at_141) rfl k₀) ?_
    show GoOn p e below _ (T40.setTop (mkF m 143 #[.val (.int q0), .val (.int q1), .val (.int q2), .val (.int q3), .val (.ref b), .val (.int o), .val (.int (2 : Int32)), .val (.int r), .unset] [(.int (2 : Int32)), (.int (3 : Int32)), (.int o), (.ref b), (.int (((uV g o (0 : Int32) (2 : Int32)) ||| ((uV g o (1 : Int32) (2 : Int32)) <<< ((8 : Int32) &&& 31))) ||| ((uV g o (2 : Int32) (2 : Int32)) <<< ((16 : Int32) &&& 31))))]))
    obtain ⟨_, T41, L41, X41, hQ41, st41⟩ := kCallS X40 hx hZ (argsL := [(.ref b), (.int o), (.int (3 : Int32)), (.int (2 : Int32))]) (rest := [(.int (((uV g o (0 : Int32) (2 : Int32)) ||| ((uV g o (1 : Int32) (2 : Int32)) <<< ((8 : Int32) &&& 31))) ||| ((uV g o (2 : Int32) (2 : Int32)) <<< ((16 : Int32) &&& 31))))]) (c_u l Z a0 hw b o (3 : Int32) (2 : Int32) g _ J ho ⟨by decide, by decide⟩) hown (hw _ (List.mem_of_getElem? (i := 6) rfl)) (hw _ (List.mem_of_getElem? (i := 7) rfl)) (hw _ (List.mem_of_getElem? (i := 8) rfl)) (hw _ (List.mem_of_getElem? (i := 9) rfl)) (by decide) e40 (g := (mkF m 143 #[.val (.int q0), .val (.int q1), .val (.int q2), .val (.int q3), .val (.ref b), .val (.int o), .val (.int (2 : Int32)), .val (.int r), .unset] [(.int (2 : Int32)), (.int (3 : Int32)), (.int o), (.ref b), (.int (((uV g o (0 : Int32) (2 : Int32)) ||| ((uV g o (1 : Int32) (2 : Int32)) <<< ((8 : Int32) &&& 31))) ||| ((uV g o (2 : Int32) (2 : Int32)) <<< ((16 : Int32) &&& 31))))])) rfl (by rw [hml]; rfl) (lenOf pd_1 rfl) rfl (W := 1) (by show 2 * 0 + _ ≤ _; exact Nat.le_of_eq rfl) (hb hby at_143) (by decide) (by decide) (by decide) (by decide)
    obtain ⟨rfl, rfl, e41⟩ := hQ41
    rw [List.append_nil] at X41
    refine GoOn.step st41 ?_
    show GoOn p e below _ (T41.setTop (mkF m 146 #[.val (.int q0), .val (.int q1), .val (.int q2), .val (.int q3), .val (.ref b), .val (.int o), .val (.int (2 : Int32)), .val (.int r), .unset] [(.int (uV g o (3 : Int32) (2 : Int32))), (.int (((uV g o (0 : Int32) (2 : Int32)) ||| ((uV g o (1 : Int32) (2 : Int32)) <<< ((8 : Int32) &&& 31))) ||| ((uV g o (2 : Int32) (2 : Int32)) <<< ((16 : Int32) &&& 31))))]))
    refine GoOn.step (fun t₀ k₀ => XS.bipush X41.here hx rfl (hb hby at_146) k₀) ?_
    show GoOn p e below _ (T41.setTop (mkF m 148 #[.val (.int q0), .val (.int q1), .val (.int q2), .val (.int q3), .val (.ref b), .val (.int o), .val (.int (2 : Int32)), .val (.int r), .unset] [(.int (24 : Int32)), (.int (uV g o (3 : Int32) (2 : Int32))), (.int (((uV g o (0 : Int32) (2 : Int32)) ||| ((uV g o (1 : Int32) (2 : Int32)) <<< ((8 : Int32) &&& 31))) ||| ((uV g o (2 : Int32) (2 : Int32)) <<< ((16 : Int32) &&& 31))))]))
    refine GoOn.step (fun t₀ k₀ => XS.ishl X41.here hx rfl (hb hby at_148) rfl k₀) ?_
    show GoOn p e below _ (T41.setTop (mkF m 149 #[.val (.int q0), .val (.int q1), .val (.int q2), .val (.int q3), .val (.ref b), .val (.int o), .val (.int (2 : Int32)), .val (.int r), .unset] [(.int ((uV g o (3 : Int32) (2 : Int32)) <<< ((24 : Int32) &&& 31))), (.int (((uV g o (0 : Int32) (2 : Int32)) ||| ((uV g o (1 : Int32) (2 : Int32)) <<< ((8 : Int32) &&& 31))) ||| ((uV g o (2 : Int32) (2 : Int32)) <<< ((16 : Int32) &&& 31))))]))
    refine GoOn.step (fun t₀ k₀ => XS.ior X41.here hx rfl (hb hby at_149) rfl k₀) ?_
    show GoOn p e below _ (T41.setTop (mkF m 150 #[.val (.int q0), .val (.int q1), .val (.int q2), .val (.int q3), .val (.ref b), .val (.int o), .val (.int (2 : Int32)), .val (.int r), .unset] [(.int ((((uV g o (0 : Int32) (2 : Int32)) ||| ((uV g o (1 : Int32) (2 : Int32)) <<< ((8 : Int32) &&& 31))) ||| ((uV g o (2 : Int32) (2 : Int32)) <<< ((16 : Int32) &&& 31))) ||| ((uV g o (3 : Int32) (2 : Int32)) <<< ((24 : Int32) &&& 31))))]))
    refine GoOn.step (fun t₀ k₀ => XS.istore X41.here hx rfl (hb hby at_150) rfl (l' := #[.val (.int q0), .val (.int q1), .val (.int q2), .val (.int q3), .val (.ref b), .val (.int o), .val (.int (2 : Int32)), .val (.int r), .val (.int ((((uV g o (0 : Int32) (2 : Int32)) ||| ((uV g o (1 : Int32) (2 : Int32)) <<< ((8 : Int32) &&& 31))) ||| ((uV g o (2 : Int32) (2 : Int32)) <<< ((16 : Int32) &&& 31))) ||| ((uV g o (3 : Int32) (2 : Int32)) <<< ((24 : Int32) &&& 31))))]) rfl k₀) ?_
    show GoOn p e below _ (T41.setTop (mkF m 152 #[.val (.int q0), .val (.int q1), .val (.int q2), .val (.int q3), .val (.ref b), .val (.int o), .val (.int (2 : Int32)), .val (.int r), .val (.int ((((uV g o (0 : Int32) (2 : Int32)) ||| ((uV g o (1 : Int32) (2 : Int32)) <<< ((8 : Int32) &&& 31))) ||| ((uV g o (2 : Int32) (2 : Int32)) <<< ((16 : Int32) &&& 31))) ||| ((uV g o (3 : Int32) (2 : Int32)) <<< ((24 : Int32) &&& 31))))] []))
    refine GoOn.step (fun t₀ k₀ => XS.iload X41.here hx rfl (hb hby at_152) rfl k₀) ?_
    show GoOn p e below _ (T41.setTop (mkF m 154 #[.val (.int q0), .val (.int q1), .val (.int q2), .val (.int q3), .val (.ref b), .val (.int o), .val (.int (2 : Int32)), .val (.int r), .val (.int ((((uV g o (0 : Int32) (2 : Int32)) ||| ((uV g o (1 : Int32) (2 : Int32)) <<< ((8 : Int32) &&& 31))) ||| ((uV g o (2 : Int32) (2 : Int32)) <<< ((16 : Int32) &&& 31))) ||| ((uV g o (3 : Int32) (2 : Int32)) <<< ((24 : Int32) &&& 31))))] [(.int r)]))
    refine GoOn.step (fun t₀ k₀ => XS.iload X41.here hx rfl (hb hby at_154) rfl k₀) ?_
    show GoOn p e below _ (T41.setTop (mkF m 156 #[.val (.int q0), .val (.int q1), .val (.int q2), .val (.int q3), .val (.ref b), .val (.int o), .val (.int (2 : Int32)), .val (.int r), .val (.int ((((uV g o (0 : Int32) (2 : Int32)) ||| ((uV g o (1 : Int32) (2 : Int32)) <<< ((8 : Int32) &&& 31))) ||| ((uV g o (2 : Int32) (2 : Int32)) <<< ((16 : Int32) &&& 31))) ||| ((uV g o (3 : Int32) (2 : Int32)) <<< ((24 : Int32) &&& 31))))] [(.int ((((uV g o (0 : Int32) (2 : Int32)) ||| ((uV g o (1 : Int32) (2 : Int32)) <<< ((8 : Int32) &&& 31))) ||| ((uV g o (2 : Int32) (2 : Int32)) <<< ((16 : Int32) &&& 31))) ||| ((uV g o (3 : Int32) (2 : Int32)) <<< ((24 : Int32) &&& 31)))), (.int r)]))
    have hf42 : r = ((((uV g o (0 : Int32) (2 : Int32)) ||| ((uV g o (1 : Int32) (2 : Int32)) <<< ((8 : Int32) &&& 31))) ||| ((uV g o (2 : Int32) (2 : Int32)) <<< ((16 : Int32) &&& 31))) ||| ((uV g o (3 : Int32) (2 : Int32)) <<< ((24 : Int32) &&& 31))) := (by rw [uT (by decide : (0 : Int32) < (2 : Int32)), uT (by decide : (1 : Int32) < (2 : Int32)), uF (by decide : ¬ (2 : Int32) < (2 : Int32)), uF (by decide : ¬ (3 : Int32) < (2 : Int32)), ← hr]; exact pl2  _ _)
    refine GoOn.step (fun t₀ k₀ => XS.icmpNo X41.here hx rfl (hb hby at_156) rfl (teq hf42).2 k₀) ?_
    show GoOn p e below _ (T41.setTop (mkF m 159 #[.val (.int q0), .val (.int q1), .val (.int q2), .val (.int q3), .val (.ref b), .val (.int o), .val (.int (2 : Int32)), .val (.int r), .val (.int ((((uV g o (0 : Int32) (2 : Int32)) ||| ((uV g o (1 : Int32) (2 : Int32)) <<< ((8 : Int32) &&& 31))) ||| ((uV g o (2 : Int32) (2 : Int32)) <<< ((16 : Int32) &&& 31))) ||| ((uV g o (3 : Int32) (2 : Int32)) <<< ((24 : Int32) &&& 31))))] []))
    refine GoOn.step (fun t₀ k₀ => XS.iconst X41.here hx rfl (hb hby at_159) k₀) ?_
    show GoOn p e below _ (T41.setTop (mkF m 160 #[.val (.int q0), .val (.int q1), .val (.int q2), .val (.int q3), .val (.ref b), .val (.int o), .val (.int (2 : Int32)), .val (.int r), .val (.int ((((uV g o (0 : Int32) (2 : Int32)) ||| ((uV g o (1 : Int32) (2 : Int32)) <<< ((8 : Int32) &&& 31))) ||| ((uV g o (2 : Int32) (2 : Int32)) <<< ((16 : Int32) &&& 31))) ||| ((uV g o (3 : Int32) (2 : Int32)) <<< ((24 : Int32) &&& 31))))] [(.int (1 : Int32))]))
    refine GoOn.step (fun t₀ k₀ => XS.goto X41.here hx rfl (pc0 := 160) (pc' := 164) rfl (hb hby at_160) (by decide) (by decide) k₀) ?_
    show GoOn p e below _ (T41.setTop (mkF m 164 #[.val (.int q0), .val (.int q1), .val (.int q2), .val (.int q3), .val (.ref b), .val (.int o), .val (.int (2 : Int32)), .val (.int r), .val (.int ((((uV g o (0 : Int32) (2 : Int32)) ||| ((uV g o (1 : Int32) (2 : Int32)) <<< ((8 : Int32) &&& 31))) ||| ((uV g o (2 : Int32) (2 : Int32)) <<< ((16 : Int32) &&& 31))) ||| ((uV g o (3 : Int32) (2 : Int32)) <<< ((24 : Int32) &&& 31))))] [(.int (1 : Int32))]))
    exact GoOn.retN X41 hx hrt hlk (by simp) (hb hby at_164) (by decide) (by decide) (by first | exact ⟨rfl, N0⟩ | (rw [e41]; exact ⟨rfl, N0⟩))
  · show GoOn p e below _ (T24.setTop (mkF m 87 #[.val (.int q0), .val (.int q1), .val (.int q2), .val (.int q3), .val (.ref b), .val (.int o), .val (.int (3 : Int32)), .unset, .unset] []))
    refine GoOn.step (fun t₀ k₀ => XS.aload X24.here hx rfl (hb hby at_87) rfl rfl k₀) ?_
    show GoOn p e below _ (T24.setTop (mkF m 89 #[.val (.int q0), .val (.int q1), .val (.int q2), .val (.int q3), .val (.ref b), .val (.int o), .val (.int (3 : Int32)), .unset, .unset] [(.ref b)]))
    refine GoOn.step (fun t₀ k₀ => XS.iload X24.here hx rfl (hb hby at_89) rfl k₀) ?_
    show GoOn p e below _ (T24.setTop (mkF m 91 #[.val (.int q0), .val (.int q1), .val (.int q2), .val (.int q3), .val (.ref b), .val (.int o), .val (.int (3 : Int32)), .unset, .unset] [(.int o), (.ref b)]))
    refine GoOn.step (fun t₀ k₀ => XS.iload X24.here hx rfl (hb hby at_91) rfl k₀) ?_
    show GoOn p e below _ (T24.setTop (mkF m 93 #[.val (.int q0), .val (.int q1), .val (.int q2), .val (.int q3), .val (.ref b), .val (.int o), .val (.int (3 : Int32)), .unset, .unset] [(.int (3 : Int32)), (.int o), (.ref b)]))
    obtain ⟨_, T43, L43, X43, hQ43, st43⟩ := kCallS X24 hx hZ (argsL := [(.ref b), (.int o), (.int (3 : Int32))]) (rest := []) (c_read3 l Z a0 hw b o g _ J ho) hown (hw _ (List.mem_of_getElem? (i := 2) rfl)) (hw _ (List.mem_of_getElem? (i := 3) rfl)) (hw _ (List.mem_of_getElem? (i := 4) rfl)) (hw _ (List.mem_of_getElem? (i := 5) rfl)) (by decide) e24 (g := (mkF m 93 #[.val (.int q0), .val (.int q1), .val (.int q2), .val (.int q3), .val (.ref b), .val (.int o), .val (.int (3 : Int32)), .unset, .unset] [(.int (3 : Int32)), (.int o), (.ref b)])) rfl (by rw [hml]; rfl) (lenOf pd_0 rfl) rfl (W := 0) (by show 2 * 0 + _ ≤ _; exact Nat.le_of_eq rfl) (hb hby at_93) (by decide) (by decide) (by decide) (by decide)
    obtain ⟨rfl, rfl, e43⟩ := hQ43
    rw [List.append_nil] at X43
    refine GoOn.step st43 ?_
    show GoOn p e below _ (T43.setTop (mkF m 96 #[.val (.int q0), .val (.int q1), .val (.int q2), .val (.int q3), .val (.ref b), .val (.int o), .val (.int (3 : Int32)), .unset, .unset] [(.int (((((((0 : Int32) <<< ((8 : Int32) &&& 31)) ||| (g (o + (2 : Int32)).toNatClampNeg &&& (255 : Int32))) <<< ((8 : Int32) &&& 31)) ||| (g (o + (1 : Int32)).toNatClampNeg &&& (255 : Int32))) <<< ((8 : Int32) &&& 31)) ||| (g (o + (0 : Int32)).toNatClampNeg &&& (255 : Int32))))]))
    generalize hr : (((((((0 : Int32) <<< ((8 : Int32) &&& 31)) ||| (g (o + (2 : Int32)).toNatClampNeg &&& (255 : Int32))) <<< ((8 : Int32) &&& 31)) ||| (g (o + (1 : Int32)).toNatClampNeg &&& (255 : Int32))) <<< ((8 : Int32) &&& 31)) ||| (g (o + (0 : Int32)).toNatClampNeg &&& (255 : Int32))) = r
    have hrI := congrArg Int32.toInt hr
    refine GoOn.step (fun t₀ k₀ => XS.istore X43.here hx rfl (hb hby at_96) rfl (l' := #[.val (.int q0), .val (.int q1), .val (.int q2), .val (.int q3), .val (.ref b), .val (.int o), .val (.int (3 : Int32)), .val (.int r), .unset]) rfl k₀) ?_
    show GoOn p e below _ (T43.setTop (mkF m 98 #[.val (.int q0), .val (.int q1), .val (.int q2), .val (.int q3), .val (.ref b), .val (.int o), .val (.int (3 : Int32)), .val (.int r), .unset] []))
    refine GoOn.step (fun t₀ k₀ => XS.aload X43.here hx rfl (hb hby at_98) rfl rfl k₀) ?_
    show GoOn p e below _ (T43.setTop (mkF m 100 #[.val (.int q0), .val (.int q1), .val (.int q2), .val (.int q3), .val (.ref b), .val (.int o), .val (.int (3 : Int32)), .val (.int r), .unset] [(.ref b)]))
    refine GoOn.step (fun t₀ k₀ => XS.iload X43.here hx rfl (hb hby at_100) rfl k₀) ?_
    show GoOn p e below _ (T43.setTop (mkF m 102 #[.val (.int q0), .val (.int q1), .val (.int q2), .val (.int q3), .val (.ref b), .val (.int o), .val (.int (3 : Int32)), .val (.int r), .unset] [(.int o), (.ref b)]))
    refine GoOn.step (fun t₀ k₀ => XS.iconst X43.here hx rfl (hb hby at_102) k₀) ?_
    show GoOn p e below _ (T43.setTop (mkF m 103 #[.val (.int q0), .val (.int q1), .val (.int q2), .val (.int q3), .val (.ref b), .val (.int o), .val (.int (3 : Int32)), .val (.int r), .unset] [(.int (0 : Int32)), (.int o), (.ref b)]))
    refine GoOn.step (fun t₀ k₀ => XS.iload X43.here hx rfl (hb hby at_103) rfl k₀) ?_
    show GoOn p e below _ (T43.setTop (mkF m 105 #[.val (.int q0), .val (.int q1), .val (.int q2), .val (.int q3), .val (.ref b), .val (.int o), .val (.int (3 : Int32)), .val (.int r), .unset] [(.int (3 : Int32)), (.int (0 : Int32)), (.int o), (.ref b)]))
    obtain ⟨_, T44, L44, X44, hQ44, st44⟩ := kCallS X43 hx hZ (argsL := [(.ref b), (.int o), (.int (0 : Int32)), (.int (3 : Int32))]) (rest := []) (c_u l Z a0 hw b o (0 : Int32) (3 : Int32) g _ J ho ⟨by decide, by decide⟩) hown (hw _ (List.mem_of_getElem? (i := 6) rfl)) (hw _ (List.mem_of_getElem? (i := 7) rfl)) (hw _ (List.mem_of_getElem? (i := 8) rfl)) (hw _ (List.mem_of_getElem? (i := 9) rfl)) (by decide) e43 (g := (mkF m 105 #[.val (.int q0), .val (.int q1), .val (.int q2), .val (.int q3), .val (.ref b), .val (.int o), .val (.int (3 : Int32)), .val (.int r), .unset] [(.int (3 : Int32)), (.int (0 : Int32)), (.int o), (.ref b)])) rfl (by rw [hml]; rfl) (lenOf pd_1 rfl) rfl (W := 0) (by show 2 * 0 + _ ≤ _; exact Nat.le_of_eq rfl) (hb hby at_105) (by decide) (by decide) (by decide) (by decide)
    obtain ⟨rfl, rfl, e44⟩ := hQ44
    rw [List.append_nil] at X44
    refine GoOn.step st44 ?_
    show GoOn p e below _ (T44.setTop (mkF m 108 #[.val (.int q0), .val (.int q1), .val (.int q2), .val (.int q3), .val (.ref b), .val (.int o), .val (.int (3 : Int32)), .val (.int r), .unset] [(.int (uV g o (0 : Int32) (3 : Int32)))]))
    refine GoOn.step (fun t₀ k₀ => XS.aload X44.here hx rfl (hb hby at_108) rfl rfl k₀) ?_
    show GoOn p e below _ (T44.setTop (mkF m 110 #[.val (.int q0), .val (.int q1), .val (.int q2), .val (.int q3), .val (.ref b), .val (.int o), .val (.int (3 : Int32)), .val (.int r), .unset] [(.ref b), (.int (uV g o (0 : Int32) (3 : Int32)))]))
    refine GoOn.step (fun t₀ k₀ => XS.iload X44.here hx rfl (hb hby at_110) rfl k₀) ?_
    show GoOn p e below _ (T44.setTop (mkF m 112 #[.val (.int q0), .val (.int q1), .val (.int q2), .val (.int q3), .val (.ref b), .val (.int o), .val (.int (3 : Int32)), .val (.int r), .unset] [(.int o), (.ref b), (.int (uV g o (0 : Int32) (3 : Int32)))]))
    refine GoOn.step (fun t₀ k₀ => XS.iconst X44.here hx rfl (hb hby at_112) k₀) ?_
    show GoOn p e below _ (T44.setTop (mkF m 113 #[.val (.int q0), .val (.int q1), .val (.int q2), .val (.int q3), .val (.ref b), .val (.int o), .val (.int (3 : Int32)), .val (.int r), .unset] [(.int (1 : Int32)), (.int o), (.ref b), (.int (uV g o (0 : Int32) (3 : Int32)))]))
    refine GoOn.step (fun t₀ k₀ => XS.iload X44.here hx rfl (hb hby at_113) rfl k₀) ?_
    show GoOn p e below _ (T44.setTop (mkF m 115 #[.val (.int q0), .val (.int q1), .val (.int q2), .val (.int q3), .val (.ref b), .val (.int o), .val (.int (3 : Int32)), .val (.int r), .unset] [(.int (3 : Int32)), (.int (1 : Int32)), (.int o), (.ref b), (.int (uV g o (0 : Int32) (3 : Int32)))]))
    obtain ⟨_, T45, L45, X45, hQ45, st45⟩ := kCallS X44 hx hZ (argsL := [(.ref b), (.int o), (.int (1 : Int32)), (.int (3 : Int32))]) (rest := [(.int (uV g o (0 : Int32) (3 : Int32)))]) (c_u l Z a0 hw b o (1 : Int32) (3 : Int32) g _ J ho ⟨by decide, by decide⟩) hown (hw _ (List.mem_of_getElem? (i := 6) rfl)) (hw _ (List.mem_of_getElem? (i := 7) rfl)) (hw _ (List.mem_of_getElem? (i := 8) rfl)) (hw _ (List.mem_of_getElem? (i := 9) rfl)) (by decide) e44 (g := (mkF m 115 #[.val (.int q0), .val (.int q1), .val (.int q2), .val (.int q3), .val (.ref b), .val (.int o), .val (.int (3 : Int32)), .val (.int r), .unset] [(.int (3 : Int32)), (.int (1 : Int32)), (.int o), (.ref b), (.int (uV g o (0 : Int32) (3 : Int32)))])) rfl (by rw [hml]; rfl) (lenOf pd_1 rfl) rfl (W := 1) (by show 2 * 0 + _ ≤ _; exact Nat.le_of_eq rfl) (hb hby at_115) (by decide) (by decide) (by decide) (by decide)
    obtain ⟨rfl, rfl, e45⟩ := hQ45
    rw [List.append_nil] at X45
    refine GoOn.step st45 ?_
    show GoOn p e below _ (T45.setTop (mkF m 118 #[.val (.int q0), .val (.int q1), .val (.int q2), .val (.int q3), .val (.ref b), .val (.int o), .val (.int (3 : Int32)), .val (.int r), .unset] [(.int (uV g o (1 : Int32) (3 : Int32))), (.int (uV g o (0 : Int32) (3 : Int32)))]))
    refine GoOn.step (fun t₀ k₀ => XS.bipush X45.here hx rfl (hb hby at_118) k₀) ?_
    show GoOn p e below _ (T45.setTop (mkF m 120 #[.val (.int q0), .val (.int q1), .val (.int q2), .val (.int q3), .val (.ref b), .val (.int o), .val (.int (3 : Int32)), .val (.int r), .unset] [(.int (8 : Int32)), (.int (uV g o (1 : Int32) (3 : Int32))), (.int (uV g o (0 : Int32) (3 : Int32)))]))
    refine GoOn.step (fun t₀ k₀ => XS.ishl X45.here hx rfl (hb hby at_120) rfl k₀) ?_
    show GoOn p e below _ (T45.setTop (mkF m 121 #[.val (.int q0), .val (.int q1), .val (.int q2), .val (.int q3), .val (.ref b), .val (.int o), .val (.int (3 : Int32)), .val (.int r), .unset] [(.int ((uV g o (1 : Int32) (3 : Int32)) <<< ((8 : Int32) &&& 31))), (.int (uV g o (0 : Int32) (3 : Int32)))]))
    refine GoOn.step (fun t₀ k₀ => XS.ior X45.here hx rfl (hb hby at_121) rfl k₀) ?_
    show GoOn p e below _ (T45.setTop (mkF m 122 #[.val (.int q0), .val (.int q1), .val (.int q2), .val (.int q3), .val (.ref b), .val (.int o), .val (.int (3 : Int32)), .val (.int r), .unset] [(.int ((uV g o (0 : Int32) (3 : Int32)) ||| ((uV g o (1 : Int32) (3 : Int32)) <<< ((8 : Int32) &&& 31))))]))
    refine GoOn.step (fun t₀ k₀ => XS.aload X45.here hx rfl (hb hby at_122) rfl rfl k₀) ?_
    show GoOn p e below _ (T45.setTop (mkF m 124 #[.val (.int q0), .val (.int q1), .val (.int q2), .val (.int q3), .val (.ref b), .val (.int o), .val (.int (3 : Int32)), .val (.int r), .unset] [(.ref b), (.int ((uV g o (0 : Int32) (3 : Int32)) ||| ((uV g o (1 : Int32) (3 : Int32)) <<< ((8 : Int32) &&& 31))))]))
    refine GoOn.step (fun t₀ k₀ => XS.iload X45.here hx rfl (hb hby at_124) rfl k₀) ?_
    show GoOn p e below _ (T45.setTop (mkF m 126 #[.val (.int q0), .val (.int q1), .val (.int q2), .val (.int q3), .val (.ref b), .val (.int o), .val (.int (3 : Int32)), .val (.int r), .unset] [(.int o), (.ref b), (.int ((uV g o (0 : Int32) (3 : Int32)) ||| ((uV g o (1 : Int32) (3 : Int32)) <<< ((8 : Int32) &&& 31))))]))
    refine GoOn.step (fun t₀ k₀ => XS.iconst X45.here hx rfl (hb hby at_126) k₀) ?_
    show GoOn p e below _ (T45.setTop (mkF m 127 #[.val (.int q0), .val (.int q1), .val (.int q2), .val (.int q3), .val (.ref b), .val (.int o), .val (.int (3 : Int32)), .val (.int r), .unset] [(.int (2 : Int32)), (.int o), (.ref b), (.int ((uV g o (0 : Int32) (3 : Int32)) ||| ((uV g o (1 : Int32) (3 : Int32)) <<< ((8 : Int32) &&& 31))))]))
    refine GoOn.step (fun t₀ k₀ => XS.iload X45.here hx rfl (hb hby at_127) rfl k₀) ?_
    show GoOn p e below _ (T45.setTop (mkF m 129 #[.val (.int q0), .val (.int q1), .val (.int q2), .val (.int q3), .val (.ref b), .val (.int o), .val (.int (3 : Int32)), .val (.int r), .unset] [(.int (3 : Int32)), (.int (2 : Int32)), (.int o), (.ref b), (.int ((uV g o (0 : Int32) (3 : Int32)) ||| ((uV g o (1 : Int32) (3 : Int32)) <<< ((8 : Int32) &&& 31))))]))
    obtain ⟨_, T46, L46, X46, hQ46, st46⟩ := kCallS X45 hx hZ (argsL := [(.ref b), (.int o), (.int (2 : Int32)), (.int (3 : Int32))]) (rest := [(.int ((uV g o (0 : Int32) (3 : Int32)) ||| ((uV g o (1 : Int32) (3 : Int32)) <<< ((8 : Int32) &&& 31))))]) (c_u l Z a0 hw b o (2 : Int32) (3 : Int32) g _ J ho ⟨by decide, by decide⟩) hown (hw _ (List.mem_of_getElem? (i := 6) rfl)) (hw _ (List.mem_of_getElem? (i := 7) rfl)) (hw _ (List.mem_of_getElem? (i := 8) rfl)) (hw _ (List.mem_of_getElem? (i := 9) rfl)) (by decide) e45 (g := (mkF m 129 #[.val (.int q0), .val (.int q1), .val (.int q2), .val (.int q3), .val (.ref b), .val (.int o), .val (.int (3 : Int32)), .val (.int r), .unset] [(.int (3 : Int32)), (.int (2 : Int32)), (.int o), (.ref b), (.int ((uV g o (0 : Int32) (3 : Int32)) ||| ((uV g o (1 : Int32) (3 : Int32)) <<< ((8 : Int32) &&& 31))))])) rfl (by rw [hml]; rfl) (lenOf pd_1 rfl) rfl (W := 1) (by show 2 * 0 + _ ≤ _; exact Nat.le_of_eq rfl) (hb hby at_129) (by decide) (by decide) (by decide) (by decide)
    obtain ⟨rfl, rfl, e46⟩ := hQ46
    rw [List.append_nil] at X46
    refine GoOn.step st46 ?_
    show GoOn p e below _ (T46.setTop (mkF m 132 #[.val (.int q0), .val (.int q1), .val (.int q2), .val (.int q3), .val (.ref b), .val (.int o), .val (.int (3 : Int32)), .val (.int r), .unset] [(.int (uV g o (2 : Int32) (3 : Int32))), (.int ((uV g o (0 : Int32) (3 : Int32)) ||| ((uV g o (1 : Int32) (3 : Int32)) <<< ((8 : Int32) &&& 31))))]))
    refine GoOn.step (fun t₀ k₀ => XS.bipush X46.here hx rfl (hb hby at_132) k₀) ?_
    show GoOn p e below _ (T46.setTop (mkF m 134 #[.val (.int q0), .val (.int q1), .val (.int q2), .val (.int q3), .val (.ref b), .val (.int o), .val (.int (3 : Int32)), .val (.int r), .unset] [(.int (16 : Int32)), (.int (uV g o (2 : Int32) (3 : Int32))), (.int ((uV g o (0 : Int32) (3 : Int32)) ||| ((uV g o (1 : Int32) (3 : Int32)) <<< ((8 : Int32) &&& 31))))]))
    refine GoOn.step (fun t₀ k₀ => XS.ishl X46.here hx rfl (hb hby at_134) rfl k₀) ?_
    show GoOn p e below _ (T46.setTop (mkF m 135 #[.val (.int q0), .val (.int q1), .val (.int q2), .val (.int q3), .val (.ref b), .val (.int o), .val (.int (3 : Int32)), .val (.int r), .unset] [(.int ((uV g o (2 : Int32) (3 : Int32)) <<< ((16 : Int32) &&& 31))), (.int ((uV g o (0 : Int32) (3 : Int32)) ||| ((uV g o (1 : Int32) (3 : Int32)) <<< ((8 : Int32) &&& 31))))]))
    refine GoOn.step (fun t₀ k₀ => XS.ior X46.here hx rfl (hb hby at_135) rfl k₀) ?_
    show GoOn p e below _ (T46.setTop (mkF m 136 #[.val (.int q0), .val (.int q1), .val (.int q2), .val (.int q3), .val (.ref b), .val (.int o), .val (.int (3 : Int32)), .val (.int r), .unset] [(.int (((uV g o (0 : Int32) (3 : Int32)) ||| ((uV g o (1 : Int32) (3 : Int32)) <<< ((8 : Int32) &&& 31))) ||| ((uV g o (2 : Int32) (3 : Int32)) <<< ((16 : Int32) &&& 31))))]))
    refine GoOn.step (fun t₀ k₀ => XS.aload X46.here hx rfl (hb hby at_136) rfl rfl k₀) ?_
    show GoOn p e below _ (T46.setTop (mkF m 138 #[.val (.int q0), .val (.int q1), .val (.int q2), .val (.int q3), .val (.ref b), .val (.int o), .val (.int (3 : Int32)), .val (.int r), .unset] [(.ref b), (.int (((uV g o (0 : Int32) (3 : Int32)) ||| ((uV g o (1 : Int32) (3 : Int32)) <<< ((8 : Int32) &&& 31))) ||| ((uV g o (2 : Int32) (3 : Int32)) <<< ((16 : Int32) &&& 31))))]))
    refine GoOn.step (fun t₀ k₀ => XS.iload X46.here hx rfl (hb hby at_138) rfl k₀) ?_
    show GoOn p e below _ (T46.setTop (mkF m 140 #[.val (.int q0), .val (.int q1), .val (.int q2), .val (.int q3), .val (.ref b), .val (.int o), .val (.int (3 : Int32)), .val (.int r), .unset] [(.int o), (.ref b), (.int (((uV g o (0 : Int32) (3 : Int32)) ||| ((uV g o (1 : Int32) (3 : Int32)) <<< ((8 : Int32) &&& 31))) ||| ((uV g o (2 : Int32) (3 : Int32)) <<< ((16 : Int32) &&& 31))))]))
    refine GoOn.step (fun t₀ k₀ => XS.iconst X46.here hx rfl (hb hby at_140) k₀) ?_
    show GoOn p e below _ (T46.setTop (mkF m 141 #[.val (.int q0), .val (.int q1), .val (.int q2), .val (.int q3), .val (.ref b), .val (.int o), .val (.int (3 : Int32)), .val (.int r), .unset] [(.int (3 : Int32)), (.int o), (.ref b), (.int (((uV g o (0 : Int32) (3 : Int32)) ||| ((uV g o (1 : Int32) (3 : Int32)) <<< ((8 : Int32) &&& 31))) ||| ((uV g o (2 : Int32) (3 : Int32)) <<< ((16 : Int32) &&& 31))))]))
    refine GoOn.step (fun t₀ k₀ => XS.iload X46.here hx rfl (hb hby at_141) rfl k₀) ?_
    show GoOn p e below _ (T46.setTop (mkF m 143 #[.val (.int q0), .val (.int q1), .val (.int q2), .val (.int q3), .val (.ref b), .val (.int o), .val (.int (3 : Int32)), .val (.int r), .unset] [(.int (3 : Int32)), (.int (3 : Int32)), (.int o), (.ref b), (.int (((uV g o (0 : Int32) (3 : Int32)) ||| ((uV g o (1 : Int32) (3 : Int32)) <<< ((8 : Int32) &&& 31))) ||| ((uV g o (2 : Int32) (3 : Int32)) <<< ((16 : Int32) &&& 31))))]))
    obtain ⟨_, T47, L47, X47, hQ47, st47⟩ := kCallS X46 hx hZ (argsL := [(.ref b), (.int o), (.int (3 : Int32)), (.int (3 : Int32))]) (rest := [(.int (((uV g o (0 : Int32) (3 : Int32)) ||| ((uV g o (1 : Int32) (3 : Int32)) <<< ((8 : Int32) &&& 31))) ||| ((uV g o (2 : Int32) (3 : Int32)) <<< ((16 : Int32) &&& 31))))]) (c_u l Z a0 hw b o (3 : Int32) (3 : Int32) g _ J ho ⟨by decide, by decide⟩) hown (hw _ (List.mem_of_getElem? (i := 6) rfl)) (hw _ (List.mem_of_getElem? (i := 7) rfl)) (hw _ (List.mem_of_getElem? (i := 8) rfl)) (hw _ (List.mem_of_getElem? (i := 9) rfl)) (by decide) e46 (g := (mkF m 143 #[.val (.int q0), .val (.int q1), .val (.int q2), .val (.int q3), .val (.ref b), .val (.int o), .val (.int (3 : Int32)), .val (.int r), .unset] [(.int (3 : Int32)), (.int (3 : Int32)), (.int o), (.ref b), (.int (((uV g o (0 : Int32) (3 : Int32)) ||| ((uV g o (1 : Int32) (3 : Int32)) <<< ((8 : Int32) &&& 31))) ||| ((uV g o (2 : Int32) (3 : Int32)) <<< ((16 : Int32) &&& 31))))])) rfl (by rw [hml]; rfl) (lenOf pd_1 rfl) rfl (W := 1) (by show 2 * 0 + _ ≤ _; exact Nat.le_of_eq rfl) (hb hby at_143) (by decide) (by decide) (by decide) (by decide)
    obtain ⟨rfl, rfl, e47⟩ := hQ47
    rw [List.append_nil] at X47
    refine GoOn.step st47 ?_
    show GoOn p e below _ (T47.setTop (mkF m 146 #[.val (.int q0), .val (.int q1), .val (.int q2), .val (.int q3), .val (.ref b), .val (.int o), .val (.int (3 : Int32)), .val (.int r), .unset] [(.int (uV g o (3 : Int32) (3 : Int32))), (.int (((uV g o (0 : Int32) (3 : Int32)) ||| ((uV g o (1 : Int32) (3 : Int32)) <<< ((8 : Int32) &&& 31))) ||| ((uV g o (2 : Int32) (3 : Int32)) <<< ((16 : Int32) &&& 31))))]))
    refine GoOn.step (fun t₀ k₀ => XS.bipush X47.here hx rfl (hb hby at_146) k₀) ?_
    show GoOn p e below _ (T47.setTop (mkF m 148 #[.val (.int q0), .val (.int q1), .val (.int q2), .val (.int q3), .val (.ref b), .val (.int o), .val (.int (3 : Int32)), .val (.int r), .unset] [(.int (24 : Int32)), (.int (uV g o (3 : Int32) (3 : Int32))), (.int (((uV g o (0 : Int32) (3 : Int32)) ||| ((uV g o (1 : Int32) (3 : Int32)) <<< ((8 : Int32) &&& 31))) ||| ((uV g o (2 : Int32) (3 : Int32)) <<< ((16 : Int32) &&& 31))))]))
    refine GoOn.step (fun t₀ k₀ => XS.ishl X47.here hx rfl (hb hby at_148) rfl k₀) ?_
    show GoOn p e below _ (T47.setTop (mkF m 149 #[.val (.int q0), .val (.int q1), .val (.int q2), .val (.int q3), .val (.ref b), .val (.int o), .val (.int (3 : Int32)), .val (.int r), .unset] [(.int ((uV g o (3 : Int32) (3 : Int32)) <<< ((24 : Int32) &&& 31))), (.int (((uV g o (0 : Int32) (3 : Int32)) ||| ((uV g o (1 : Int32) (3 : Int32)) <<< ((8 : Int32) &&& 31))) ||| ((uV g o (2 : Int32) (3 : Int32)) <<< ((16 : Int32) &&& 31))))]))
    refine GoOn.step (fun t₀ k₀ => XS.ior X47.here hx rfl (hb hby at_149) rfl k₀) ?_
    show GoOn p e below _ (T47.setTop (mkF m 150 #[.val (.int q0), .val (.int q1), .val (.int q2), .val (.int q3), .val (.ref b), .val (.int o), .val (.int (3 : Int32)), .val (.int r), .unset] [(.int ((((uV g o (0 : Int32) (3 : Int32)) ||| ((uV g o (1 : Int32) (3 : Int32)) <<< ((8 : Int32) &&& 31))) ||| ((uV g o (2 : Int32) (3 : Int32)) <<< ((16 : Int32) &&& 31))) ||| ((uV g o (3 : Int32) (3 : Int32)) <<< ((24 : Int32) &&& 31))))]))
    refine GoOn.step (fun t₀ k₀ => XS.istore X47.here hx rfl (hb hby at_150) rfl (l' := #[.val (.int q0), .val (.int q1), .val (.int q2), .val (.int q3), .val (.ref b), .val (.int o), .val (.int (3 : Int32)), .val (.int r), .val (.int ((((uV g o (0 : Int32) (3 : Int32)) ||| ((uV g o (1 : Int32) (3 : Int32)) <<< ((8 : Int32) &&& 31))) ||| ((uV g o (2 : Int32) (3 : Int32)) <<< ((16 : Int32) &&& 31))) ||| ((uV g o (3 : Int32) (3 : Int32)) <<< ((24 : Int32) &&& 31))))]) rfl k₀) ?_
    show GoOn p e below _ (T47.setTop (mkF m 152 #[.val (.int q0), .val (.int q1), .val (.int q2), .val (.int q3), .val (.ref b), .val (.int o), .val (.int (3 : Int32)), .val (.int r), .val (.int ((((uV g o (0 : Int32) (3 : Int32)) ||| ((uV g o (1 : Int32) (3 : Int32)) <<< ((8 : Int32) &&& 31))) ||| ((uV g o (2 : Int32) (3 : Int32)) <<< ((16 : Int32) &&& 31))) ||| ((uV g o (3 : Int32) (3 : Int32)) <<< ((24 : Int32) &&& 31))))] []))
    refine GoOn.step (fun t₀ k₀ => XS.iload X47.here hx rfl (hb hby at_152) rfl k₀) ?_
    show GoOn p e below _ (T47.setTop (mkF m 154 #[.val (.int q0), .val (.int q1), .val (.int q2), .val (.int q3), .val (.ref b), .val (.int o), .val (.int (3 : Int32)), .val (.int r), .val (.int ((((uV g o (0 : Int32) (3 : Int32)) ||| ((uV g o (1 : Int32) (3 : Int32)) <<< ((8 : Int32) &&& 31))) ||| ((uV g o (2 : Int32) (3 : Int32)) <<< ((16 : Int32) &&& 31))) ||| ((uV g o (3 : Int32) (3 : Int32)) <<< ((24 : Int32) &&& 31))))] [(.int r)]))
    refine GoOn.step (fun t₀ k₀ => XS.iload X47.here hx rfl (hb hby at_154) rfl k₀) ?_
    show GoOn p e below _ (T47.setTop (mkF m 156 #[.val (.int q0), .val (.int q1), .val (.int q2), .val (.int q3), .val (.ref b), .val (.int o), .val (.int (3 : Int32)), .val (.int r), .val (.int ((((uV g o (0 : Int32) (3 : Int32)) ||| ((uV g o (1 : Int32) (3 : Int32)) <<< ((8 : Int32) &&& 31))) ||| ((uV g o (2 : Int32) (3 : Int32)) <<< ((16 : Int32) &&& 31))) ||| ((uV g o (3 : Int32) (3 : Int32)) <<< ((24 : Int32) &&& 31))))] [(.int ((((uV g o (0 : Int32) (3 : Int32)) ||| ((uV g o (1 : Int32) (3 : Int32)) <<< ((8 : Int32) &&& 31))) ||| ((uV g o (2 : Int32) (3 : Int32)) <<< ((16 : Int32) &&& 31))) ||| ((uV g o (3 : Int32) (3 : Int32)) <<< ((24 : Int32) &&& 31)))), (.int r)]))
    have hf48 : r = ((((uV g o (0 : Int32) (3 : Int32)) ||| ((uV g o (1 : Int32) (3 : Int32)) <<< ((8 : Int32) &&& 31))) ||| ((uV g o (2 : Int32) (3 : Int32)) <<< ((16 : Int32) &&& 31))) ||| ((uV g o (3 : Int32) (3 : Int32)) <<< ((24 : Int32) &&& 31))) := (by rw [uT (by decide : (0 : Int32) < (3 : Int32)), uT (by decide : (1 : Int32) < (3 : Int32)), uT (by decide : (2 : Int32) < (3 : Int32)), uF (by decide : ¬ (3 : Int32) < (3 : Int32)), ← hr]; exact pl3  _ _ _)
    refine GoOn.step (fun t₀ k₀ => XS.icmpNo X47.here hx rfl (hb hby at_156) rfl (teq hf48).2 k₀) ?_
    show GoOn p e below _ (T47.setTop (mkF m 159 #[.val (.int q0), .val (.int q1), .val (.int q2), .val (.int q3), .val (.ref b), .val (.int o), .val (.int (3 : Int32)), .val (.int r), .val (.int ((((uV g o (0 : Int32) (3 : Int32)) ||| ((uV g o (1 : Int32) (3 : Int32)) <<< ((8 : Int32) &&& 31))) ||| ((uV g o (2 : Int32) (3 : Int32)) <<< ((16 : Int32) &&& 31))) ||| ((uV g o (3 : Int32) (3 : Int32)) <<< ((24 : Int32) &&& 31))))] []))
    refine GoOn.step (fun t₀ k₀ => XS.iconst X47.here hx rfl (hb hby at_159) k₀) ?_
    show GoOn p e below _ (T47.setTop (mkF m 160 #[.val (.int q0), .val (.int q1), .val (.int q2), .val (.int q3), .val (.ref b), .val (.int o), .val (.int (3 : Int32)), .val (.int r), .val (.int ((((uV g o (0 : Int32) (3 : Int32)) ||| ((uV g o (1 : Int32) (3 : Int32)) <<< ((8 : Int32) &&& 31))) ||| ((uV g o (2 : Int32) (3 : Int32)) <<< ((16 : Int32) &&& 31))) ||| ((uV g o (3 : Int32) (3 : Int32)) <<< ((24 : Int32) &&& 31))))] [(.int (1 : Int32))]))
    refine GoOn.step (fun t₀ k₀ => XS.goto X47.here hx rfl (pc0 := 160) (pc' := 164) rfl (hb hby at_160) (by decide) (by decide) k₀) ?_
    show GoOn p e below _ (T47.setTop (mkF m 164 #[.val (.int q0), .val (.int q1), .val (.int q2), .val (.int q3), .val (.ref b), .val (.int o), .val (.int (3 : Int32)), .val (.int r), .val (.int ((((uV g o (0 : Int32) (3 : Int32)) ||| ((uV g o (1 : Int32) (3 : Int32)) <<< ((8 : Int32) &&& 31))) ||| ((uV g o (2 : Int32) (3 : Int32)) <<< ((16 : Int32) &&& 31))) ||| ((uV g o (3 : Int32) (3 : Int32)) <<< ((24 : Int32) &&& 31))))] [(.int (1 : Int32))]))
    exact GoOn.retN X47 hx hrt hlk (by simp) (hb hby at_164) (by decide) (by decide) (by first | exact ⟨rfl, N0⟩ | (rw [e47]; exact ⟨rfl, N0⟩))
  · show GoOn p e below _ (T24.setTop (mkF m 87 #[.val (.int q0), .val (.int q1), .val (.int q2), .val (.int q3), .val (.ref b), .val (.int o), .val (.int (4 : Int32)), .unset, .unset] []))
    refine GoOn.step (fun t₀ k₀ => XS.aload X24.here hx rfl (hb hby at_87) rfl rfl k₀) ?_
    show GoOn p e below _ (T24.setTop (mkF m 89 #[.val (.int q0), .val (.int q1), .val (.int q2), .val (.int q3), .val (.ref b), .val (.int o), .val (.int (4 : Int32)), .unset, .unset] [(.ref b)]))
    refine GoOn.step (fun t₀ k₀ => XS.iload X24.here hx rfl (hb hby at_89) rfl k₀) ?_
    show GoOn p e below _ (T24.setTop (mkF m 91 #[.val (.int q0), .val (.int q1), .val (.int q2), .val (.int q3), .val (.ref b), .val (.int o), .val (.int (4 : Int32)), .unset, .unset] [(.int o), (.ref b)]))
    refine GoOn.step (fun t₀ k₀ => XS.iload X24.here hx rfl (hb hby at_91) rfl k₀) ?_
    show GoOn p e below _ (T24.setTop (mkF m 93 #[.val (.int q0), .val (.int q1), .val (.int q2), .val (.int q3), .val (.ref b), .val (.int o), .val (.int (4 : Int32)), .unset, .unset] [(.int (4 : Int32)), (.int o), (.ref b)]))
    obtain ⟨_, T49, L49, X49, hQ49, st49⟩ := kCallS X24 hx hZ (argsL := [(.ref b), (.int o), (.int (4 : Int32))]) (rest := []) (c_read4 l Z a0 hw b o g _ J ho) hown (hw _ (List.mem_of_getElem? (i := 2) rfl)) (hw _ (List.mem_of_getElem? (i := 3) rfl)) (hw _ (List.mem_of_getElem? (i := 4) rfl)) (hw _ (List.mem_of_getElem? (i := 5) rfl)) (by decide) e24 (g := (mkF m 93 #[.val (.int q0), .val (.int q1), .val (.int q2), .val (.int q3), .val (.ref b), .val (.int o), .val (.int (4 : Int32)), .unset, .unset] [(.int (4 : Int32)), (.int o), (.ref b)])) rfl (by rw [hml]; rfl) (lenOf pd_0 rfl) rfl (W := 0) (by show 2 * 0 + _ ≤ _; exact Nat.le_of_eq rfl) (hb hby at_93) (by decide) (by decide) (by decide) (by decide)
    obtain ⟨rfl, rfl, e49⟩ := hQ49
    rw [List.append_nil] at X49
    refine GoOn.step st49 ?_
    show GoOn p e below _ (T49.setTop (mkF m 96 #[.val (.int q0), .val (.int q1), .val (.int q2), .val (.int q3), .val (.ref b), .val (.int o), .val (.int (4 : Int32)), .unset, .unset] [(.int (((((((((0 : Int32) <<< ((8 : Int32) &&& 31)) ||| (g (o + (3 : Int32)).toNatClampNeg &&& (255 : Int32))) <<< ((8 : Int32) &&& 31)) ||| (g (o + (2 : Int32)).toNatClampNeg &&& (255 : Int32))) <<< ((8 : Int32) &&& 31)) ||| (g (o + (1 : Int32)).toNatClampNeg &&& (255 : Int32))) <<< ((8 : Int32) &&& 31)) ||| (g (o + (0 : Int32)).toNatClampNeg &&& (255 : Int32))))]))
    generalize hr : (((((((((0 : Int32) <<< ((8 : Int32) &&& 31)) ||| (g (o + (3 : Int32)).toNatClampNeg &&& (255 : Int32))) <<< ((8 : Int32) &&& 31)) ||| (g (o + (2 : Int32)).toNatClampNeg &&& (255 : Int32))) <<< ((8 : Int32) &&& 31)) ||| (g (o + (1 : Int32)).toNatClampNeg &&& (255 : Int32))) <<< ((8 : Int32) &&& 31)) ||| (g (o + (0 : Int32)).toNatClampNeg &&& (255 : Int32))) = r
    have hrI := congrArg Int32.toInt hr
    refine GoOn.step (fun t₀ k₀ => XS.istore X49.here hx rfl (hb hby at_96) rfl (l' := #[.val (.int q0), .val (.int q1), .val (.int q2), .val (.int q3), .val (.ref b), .val (.int o), .val (.int (4 : Int32)), .val (.int r), .unset]) rfl k₀) ?_
    show GoOn p e below _ (T49.setTop (mkF m 98 #[.val (.int q0), .val (.int q1), .val (.int q2), .val (.int q3), .val (.ref b), .val (.int o), .val (.int (4 : Int32)), .val (.int r), .unset] []))
    refine GoOn.step (fun t₀ k₀ => XS.aload X49.here hx rfl (hb hby at_98) rfl rfl k₀) ?_
    show GoOn p e below _ (T49.setTop (mkF m 100 #[.val (.int q0), .val (.int q1), .val (.int q2), .val (.int q3), .val (.ref b), .val (.int o), .val (.int (4 : Int32)), .val (.int r), .unset] [(.ref b)]))
    refine GoOn.step (fun t₀ k₀ => XS.iload X49.here hx rfl (hb hby at_100) rfl k₀) ?_
    show GoOn p e below _ (T49.setTop (mkF m 102 #[.val (.int q0), .val (.int q1), .val (.int q2), .val (.int q3), .val (.ref b), .val (.int o), .val (.int (4 : Int32)), .val (.int r), .unset] [(.int o), (.ref b)]))
    refine GoOn.step (fun t₀ k₀ => XS.iconst X49.here hx rfl (hb hby at_102) k₀) ?_
    show GoOn p e below _ (T49.setTop (mkF m 103 #[.val (.int q0), .val (.int q1), .val (.int q2), .val (.int q3), .val (.ref b), .val (.int o), .val (.int (4 : Int32)), .val (.int r), .unset] [(.int (0 : Int32)), (.int o), (.ref b)]))
    refine GoOn.step (fun t₀ k₀ => XS.iload X49.here hx rfl (hb hby at_103) rfl k₀) ?_
    show GoOn p e below _ (T49.setTop (mkF m 105 #[.val (.int q0), .val (.int q1), .val (.int q2), .val (.int q3), .val (.ref b), .val (.int o), .val (.int (4 : Int32)), .val (.int r), .unset] [(.int (4 : Int32)), (.int (0 : Int32)), (.int o), (.ref b)]))
    obtain ⟨_, T50, L50, X50, hQ50, st50⟩ := kCallS X49 hx hZ (argsL := [(.ref b), (.int o), (.int (0 : Int32)), (.int (4 : Int32))]) (rest := []) (c_u l Z a0 hw b o (0 : Int32) (4 : Int32) g _ J ho ⟨by decide, by decide⟩) hown (hw _ (List.mem_of_getElem? (i := 6) rfl)) (hw _ (List.mem_of_getElem? (i := 7) rfl)) (hw _ (List.mem_of_getElem? (i := 8) rfl)) (hw _ (List.mem_of_getElem? (i := 9) rfl)) (by decide) e49 (g := (mkF m 105 #[.val (.int q0), .val (.int q1), .val (.int q2), .val (.int q3), .val (.ref b), .val (.int o), .val (.int (4 : Int32)), .val (.int r), .unset] [(.int (4 : Int32)), (.int (0 : Int32)), (.int o), (.ref b)])) rfl (by rw [hml]; rfl) (lenOf pd_1 rfl) rfl (W := 0) (by show 2 * 0 + _ ≤ _; exact Nat.le_of_eq rfl) (hb hby at_105) (by decide) (by decide) (by decide) (by decide)
    obtain ⟨rfl, rfl, e50⟩ := hQ50
    rw [List.append_nil] at X50
    refine GoOn.step st50 ?_
    show GoOn p e below _ (T50.setTop (mkF m 108 #[.val (.int q0), .val (.int q1), .val (.int q2), .val (.int q3), .val (.ref b), .val (.int o), .val (.int (4 : Int32)), .val (.int r), .unset] [(.int (uV g o (0 : Int32) (4 : Int32)))]))
    refine GoOn.step (fun t₀ k₀ => XS.aload X50.here hx rfl (hb hby at_108) rfl rfl k₀) ?_
    show GoOn p e below _ (T50.setTop (mkF m 110 #[.val (.int q0), .val (.int q1), .val (.int q2), .val (.int q3), .val (.ref b), .val (.int o), .val (.int (4 : Int32)), .val (.int r), .unset] [(.ref b), (.int (uV g o (0 : Int32) (4 : Int32)))]))
    refine GoOn.step (fun t₀ k₀ => XS.iload X50.here hx rfl (hb hby at_110) rfl k₀) ?_
    show GoOn p e below _ (T50.setTop (mkF m 112 #[.val (.int q0), .val (.int q1), .val (.int q2), .val (.int q3), .val (.ref b), .val (.int o), .val (.int (4 : Int32)), .val (.int r), .unset] [(.int o), (.ref b), (.int (uV g o (0 : Int32) (4 : Int32)))]))
    refine GoOn.step (fun t₀ k₀ => XS.iconst X50.here hx rfl (hb hby at_112) k₀) ?_
    show GoOn p e below _ (T50.setTop (mkF m 113 #[.val (.int q0), .val (.int q1), .val (.int q2), .val (.int q3), .val (.ref b), .val (.int o), .val (.int (4 : Int32)), .val (.int r), .unset] [(.int (1 : Int32)), (.int o), (.ref b), (.int (uV g o (0 : Int32) (4 : Int32)))]))
    refine GoOn.step (fun t₀ k₀ => XS.iload X50.here hx rfl (hb hby at_113) rfl k₀) ?_
    show GoOn p e below _ (T50.setTop (mkF m 115 #[.val (.int q0), .val (.int q1), .val (.int q2), .val (.int q3), .val (.ref b), .val (.int o), .val (.int (4 : Int32)), .val (.int r), .unset] [(.int (4 : Int32)), (.int (1 : Int32)), (.int o), (.ref b), (.int (uV g o (0 : Int32) (4 : Int32)))]))
    obtain ⟨_, T51, L51, X51, hQ51, st51⟩ := kCallS X50 hx hZ (argsL := [(.ref b), (.int o), (.int (1 : Int32)), (.int (4 : Int32))]) (rest := [(.int (uV g o (0 : Int32) (4 : Int32)))]) (c_u l Z a0 hw b o (1 : Int32) (4 : Int32) g _ J ho ⟨by decide, by decide⟩) hown (hw _ (List.mem_of_getElem? (i := 6) rfl)) (hw _ (List.mem_of_getElem? (i := 7) rfl)) (hw _ (List.mem_of_getElem? (i := 8) rfl)) (hw _ (List.mem_of_getElem? (i := 9) rfl)) (by decide) e50 (g := (mkF m 115 #[.val (.int q0), .val (.int q1), .val (.int q2), .val (.int q3), .val (.ref b), .val (.int o), .val (.int (4 : Int32)), .val (.int r), .unset] [(.int (4 : Int32)), (.int (1 : Int32)), (.int o), (.ref b), (.int (uV g o (0 : Int32) (4 : Int32)))])) rfl (by rw [hml]; rfl) (lenOf pd_1 rfl) rfl (W := 1) (by show 2 * 0 + _ ≤ _; exact Nat.le_of_eq rfl) (hb hby at_115) (by decide) (by decide) (by decide) (by decide)
    obtain ⟨rfl, rfl, e51⟩ := hQ51
    rw [List.append_nil] at X51
    refine GoOn.step st51 ?_
    show GoOn p e below _ (T51.setTop (mkF m 118 #[.val (.int q0), .val (.int q1), .val (.int q2), .val (.int q3), .val (.ref b), .val (.int o), .val (.int (4 : Int32)), .val (.int r), .unset] [(.int (uV g o (1 : Int32) (4 : Int32))), (.int (uV g o (0 : Int32) (4 : Int32)))]))
    refine GoOn.step (fun t₀ k₀ => XS.bipush X51.here hx rfl (hb hby at_118) k₀) ?_
    show GoOn p e below _ (T51.setTop (mkF m 120 #[.val (.int q0), .val (.int q1), .val (.int q2), .val (.int q3), .val (.ref b), .val (.int o), .val (.int (4 : Int32)), .val (.int r), .unset] [(.int (8 : Int32)), (.int (uV g o (1 : Int32) (4 : Int32))), (.int (uV g o (0 : Int32) (4 : Int32)))]))
    refine GoOn.step (fun t₀ k₀ => XS.ishl X51.here hx rfl (hb hby at_120) rfl k₀) ?_
    show GoOn p e below _ (T51.setTop (mkF m 121 #[.val (.int q0), .val (.int q1), .val (.int q2), .val (.int q3), .val (.ref b), .val (.int o), .val (.int (4 : Int32)), .val (.int r), .unset] [(.int ((uV g o (1 : Int32) (4 : Int32)) <<< ((8 : Int32) &&& 31))), (.int (uV g o (0 : Int32) (4 : Int32)))]))
    refine GoOn.step (fun t₀ k₀ => XS.ior X51.here hx rfl (hb hby at_121) rfl k₀) ?_
    show GoOn p e below _ (T51.setTop (mkF m 122 #[.val (.int q0), .val (.int q1), .val (.int q2), .val (.int q3), .val (.ref b), .val (.int o), .val (.int (4 : Int32)), .val (.int r), .unset] [(.int ((uV g o (0 : Int32) (4 : Int32)) ||| ((uV g o (1 : Int32) (4 : Int32)) <<< ((8 : Int32) &&& 31))))]))
    refine GoOn.step (fun t₀ k₀ => XS.aload X51.here hx rfl (hb hby at_122) rfl rfl k₀) ?_
    show GoOn p e below _ (T51.setTop (mkF m 124 #[.val (.int q0), .val (.int q1), .val (.int q2), .val (.int q3), .val (.ref b), .val (.int o), .val (.int (4 : Int32)), .val (.int r), .unset] [(.ref b), (.int ((uV g o (0 : Int32) (4 : Int32)) ||| ((uV g o (1 : Int32) (4 : Int32)) <<< ((8 : Int32) &&& 31))))]))
    refine GoOn.step (fun t₀ k₀ => XS.iload X51.here hx rfl (hb hby at_124) rfl k₀) ?_
    show GoOn p e below _ (T51.setTop (mkF m 126 #[.val (.int q0), .val (.int q1), .val (.int q2), .val (.int q3), .val (.ref b), .val (.int o), .val (.int (4 : Int32)), .val (.int r), .unset] [(.int o), (.ref b), (.int ((uV g o (0 : Int32) (4 : Int32)) ||| ((uV g o (1 : Int32) (4 : Int32)) <<< ((8 : Int32) &&& 31))))]))
    refine GoOn.step (fun t₀ k₀ => XS.iconst X51.here hx rfl (hb hby at_126) k₀) ?_
    show GoOn p e below _ (T51.setTop (mkF m 127 #[.val (.int q0), .val (.int q1), .val (.int q2), .val (.int q3), .val (.ref b), .val (.int o), .val (.int (4 : Int32)), .val (.int r), .unset] [(.int (2 : Int32)), (.int o), (.ref b), (.int ((uV g o (0 : Int32) (4 : Int32)) ||| ((uV g o (1 : Int32) (4 : Int32)) <<< ((8 : Int32) &&& 31))))]))
    refine GoOn.step (fun t₀ k₀ => XS.iload X51.here hx rfl (hb hby at_127) rfl k₀) ?_
    show GoOn p e below _ (T51.setTop (mkF m 129 #[.val (.int q0), .val (.int q1), .val (.int q2), .val (.int q3), .val (.ref b), .val (.int o), .val (.int (4 : Int32)), .val (.int r), .unset] [(.int (4 : Int32)), (.int (2 : Int32)), (.int o), (.ref b), (.int ((uV g o (0 : Int32) (4 : Int32)) ||| ((uV g o (1 : Int32) (4 : Int32)) <<< ((8 : Int32) &&& 31))))]))
    obtain ⟨_, T52, L52, X52, hQ52, st52⟩ := kCallS X51 hx hZ (argsL := [(.ref b), (.int o), (.int (2 : Int32)), (.int (4 : Int32))]) (rest := [(.int ((uV g o (0 : Int32) (4 : Int32)) ||| ((uV g o (1 : Int32) (4 : Int32)) <<< ((8 : Int32) &&& 31))))]) (c_u l Z a0 hw b o (2 : Int32) (4 : Int32) g _ J ho ⟨by decide, by decide⟩) hown (hw _ (List.mem_of_getElem? (i := 6) rfl)) (hw _ (List.mem_of_getElem? (i := 7) rfl)) (hw _ (List.mem_of_getElem? (i := 8) rfl)) (hw _ (List.mem_of_getElem? (i := 9) rfl)) (by decide) e51 (g := (mkF m 129 #[.val (.int q0), .val (.int q1), .val (.int q2), .val (.int q3), .val (.ref b), .val (.int o), .val (.int (4 : Int32)), .val (.int r), .unset] [(.int (4 : Int32)), (.int (2 : Int32)), (.int o), (.ref b), (.int ((uV g o (0 : Int32) (4 : Int32)) ||| ((uV g o (1 : Int32) (4 : Int32)) <<< ((8 : Int32) &&& 31))))])) rfl (by rw [hml]; rfl) (lenOf pd_1 rfl) rfl (W := 1) (by show 2 * 0 + _ ≤ _; exact Nat.le_of_eq rfl) (hb hby at_129) (by decide) (by decide) (by decide) (by decide)
    obtain ⟨rfl, rfl, e52⟩ := hQ52
    rw [List.append_nil] at X52
    refine GoOn.step st52 ?_
    show GoOn p e below _ (T52.setTop (mkF m 132 #[.val (.int q0), .val (.int q1), .val (.int q2), .val (.int q3), .val (.ref b), .val (.int o), .val (.int (4 : Int32)), .val (.int r), .unset] [(.int (uV g o (2 : Int32) (4 : Int32))), (.int ((uV g o (0 : Int32) (4 : Int32)) ||| ((uV g o (1 : Int32) (4 : Int32)) <<< ((8 : Int32) &&& 31))))]))
    refine GoOn.step (fun t₀ k₀ => XS.bipush X52.here hx rfl (hb hby at_132) k₀) ?_
    show GoOn p e below _ (T52.setTop (mkF m 134 #[.val (.int q0), .val (.int q1), .val (.int q2), .val (.int q3), .val (.ref b), .val (.int o), .val (.int (4 : Int32)), .val (.int r), .unset] [(.int (16 : Int32)), (.int (uV g o (2 : Int32) (4 : Int32))), (.int ((uV g o (0 : Int32) (4 : Int32)) ||| ((uV g o (1 : Int32) (4 : Int32)) <<< ((8 : Int32) &&& 31))))]))
    refine GoOn.step (fun t₀ k₀ => XS.ishl X52.here hx rfl (hb hby at_134) rfl k₀) ?_
    show GoOn p e below _ (T52.setTop (mkF m 135 #[.val (.int q0), .val (.int q1), .val (.int q2), .val (.int q3), .val (.ref b), .val (.int o), .val (.int (4 : Int32)), .val (.int r), .unset] [(.int ((uV g o (2 : Int32) (4 : Int32)) <<< ((16 : Int32) &&& 31))), (.int ((uV g o (0 : Int32) (4 : Int32)) ||| ((uV g o (1 : Int32) (4 : Int32)) <<< ((8 : Int32) &&& 31))))]))
    refine GoOn.step (fun t₀ k₀ => XS.ior X52.here hx rfl (hb hby at_135) rfl k₀) ?_
    show GoOn p e below _ (T52.setTop (mkF m 136 #[.val (.int q0), .val (.int q1), .val (.int q2), .val (.int q3), .val (.ref b), .val (.int o), .val (.int (4 : Int32)), .val (.int r), .unset] [(.int (((uV g o (0 : Int32) (4 : Int32)) ||| ((uV g o (1 : Int32) (4 : Int32)) <<< ((8 : Int32) &&& 31))) ||| ((uV g o (2 : Int32) (4 : Int32)) <<< ((16 : Int32) &&& 31))))]))
    refine GoOn.step (fun t₀ k₀ => XS.aload X52.here hx rfl (hb hby at_136) rfl rfl k₀) ?_
    show GoOn p e below _ (T52.setTop (mkF m 138 #[.val (.int q0), .val (.int q1), .val (.int q2), .val (.int q3), .val (.ref b), .val (.int o), .val (.int (4 : Int32)), .val (.int r), .unset] [(.ref b), (.int (((uV g o (0 : Int32) (4 : Int32)) ||| ((uV g o (1 : Int32) (4 : Int32)) <<< ((8 : Int32) &&& 31))) ||| ((uV g o (2 : Int32) (4 : Int32)) <<< ((16 : Int32) &&& 31))))]))
    refine GoOn.step (fun t₀ k₀ => XS.iload X52.here hx rfl (hb hby at_138) rfl k₀) ?_
    show GoOn p e below _ (T52.setTop (mkF m 140 #[.val (.int q0), .val (.int q1), .val (.int q2), .val (.int q3), .val (.ref b), .val (.int o), .val (.int (4 : Int32)), .val (.int r), .unset] [(.int o), (.ref b), (.int (((uV g o (0 : Int32) (4 : Int32)) ||| ((uV g o (1 : Int32) (4 : Int32)) <<< ((8 : Int32) &&& 31))) ||| ((uV g o (2 : Int32) (4 : Int32)) <<< ((16 : Int32) &&& 31))))]))
    refine GoOn.step (fun t₀ k₀ => XS.iconst X52.here hx rfl (hb hby at_140) k₀) ?_
    show GoOn p e below _ (T52.setTop (mkF m 141 #[.val (.int q0), .val (.int q1), .val (.int q2), .val (.int q3), .val (.ref b), .val (.int o), .val (.int (4 : Int32)), .val (.int r), .unset] [(.int (3 : Int32)), (.int o), (.ref b), (.int (((uV g o (0 : Int32) (4 : Int32)) ||| ((uV g o (1 : Int32) (4 : Int32)) <<< ((8 : Int32) &&& 31))) ||| ((uV g o (2 : Int32) (4 : Int32)) <<< ((16 : Int32) &&& 31))))]))
    refine GoOn.step (fun t₀ k₀ => XS.iload X52.here hx rfl (hb hby at_141) rfl k₀) ?_
    show GoOn p e below _ (T52.setTop (mkF m 143 #[.val (.int q0), .val (.int q1), .val (.int q2), .val (.int q3), .val (.ref b), .val (.int o), .val (.int (4 : Int32)), .val (.int r), .unset] [(.int (4 : Int32)), (.int (3 : Int32)), (.int o), (.ref b), (.int (((uV g o (0 : Int32) (4 : Int32)) ||| ((uV g o (1 : Int32) (4 : Int32)) <<< ((8 : Int32) &&& 31))) ||| ((uV g o (2 : Int32) (4 : Int32)) <<< ((16 : Int32) &&& 31))))]))
    obtain ⟨_, T53, L53, X53, hQ53, st53⟩ := kCallS X52 hx hZ (argsL := [(.ref b), (.int o), (.int (3 : Int32)), (.int (4 : Int32))]) (rest := [(.int (((uV g o (0 : Int32) (4 : Int32)) ||| ((uV g o (1 : Int32) (4 : Int32)) <<< ((8 : Int32) &&& 31))) ||| ((uV g o (2 : Int32) (4 : Int32)) <<< ((16 : Int32) &&& 31))))]) (c_u l Z a0 hw b o (3 : Int32) (4 : Int32) g _ J ho ⟨by decide, by decide⟩) hown (hw _ (List.mem_of_getElem? (i := 6) rfl)) (hw _ (List.mem_of_getElem? (i := 7) rfl)) (hw _ (List.mem_of_getElem? (i := 8) rfl)) (hw _ (List.mem_of_getElem? (i := 9) rfl)) (by decide) e52 (g := (mkF m 143 #[.val (.int q0), .val (.int q1), .val (.int q2), .val (.int q3), .val (.ref b), .val (.int o), .val (.int (4 : Int32)), .val (.int r), .unset] [(.int (4 : Int32)), (.int (3 : Int32)), (.int o), (.ref b), (.int (((uV g o (0 : Int32) (4 : Int32)) ||| ((uV g o (1 : Int32) (4 : Int32)) <<< ((8 : Int32) &&& 31))) ||| ((uV g o (2 : Int32) (4 : Int32)) <<< ((16 : Int32) &&& 31))))])) rfl (by rw [hml]; rfl) (lenOf pd_1 rfl) rfl (W := 1) (by show 2 * 0 + _ ≤ _; exact Nat.le_of_eq rfl) (hb hby at_143) (by decide) (by decide) (by decide) (by decide)
    obtain ⟨rfl, rfl, e53⟩ := hQ53
    rw [List.append_nil] at X53
    refine GoOn.step st53 ?_
    show GoOn p e below _ (T53.setTop (mkF m 146 #[.val (.int q0), .val (.int q1), .val (.int q2), .val (.int q3), .val (.ref b), .val (.int o), .val (.int (4 : Int32)), .val (.int r), .unset] [(.int (uV g o (3 : Int32) (4 : Int32))), (.int (((uV g o (0 : Int32) (4 : Int32)) ||| ((uV g o (1 : Int32) (4 : Int32)) <<< ((8 : Int32) &&& 31))) ||| ((uV g o (2 : Int32) (4 : Int32)) <<< ((16 : Int32) &&& 31))))]))
    refine GoOn.step (fun t₀ k₀ => XS.bipush X53.here hx rfl (hb hby at_146) k₀) ?_
    show GoOn p e below _ (T53.setTop (mkF m 148 #[.val (.int q0), .val (.int q1), .val (.int q2), .val (.int q3), .val (.ref b), .val (.int o), .val (.int (4 : Int32)), .val (.int r), .unset] [(.int (24 : Int32)), (.int (uV g o (3 : Int32) (4 : Int32))), (.int (((uV g o (0 : Int32) (4 : Int32)) ||| ((uV g o (1 : Int32) (4 : Int32)) <<< ((8 : Int32) &&& 31))) ||| ((uV g o (2 : Int32) (4 : Int32)) <<< ((16 : Int32) &&& 31))))]))
    refine GoOn.step (fun t₀ k₀ => XS.ishl X53.here hx rfl (hb hby at_148) rfl k₀) ?_
    show GoOn p e below _ (T53.setTop (mkF m 149 #[.val (.int q0), .val (.int q1), .val (.int q2), .val (.int q3), .val (.ref b), .val (.int o), .val (.int (4 : Int32)), .val (.int r), .unset] [(.int ((uV g o (3 : Int32) (4 : Int32)) <<< ((24 : Int32) &&& 31))), (.int (((uV g o (0 : Int32) (4 : Int32)) ||| ((uV g o (1 : Int32) (4 : Int32)) <<< ((8 : Int32) &&& 31))) ||| ((uV g o (2 : Int32) (4 : Int32)) <<< ((16 : Int32) &&& 31))))]))
    refine GoOn.step (fun t₀ k₀ => XS.ior X53.here hx rfl (hb hby at_149) rfl k₀) ?_
    show GoOn p e below _ (T53.setTop (mkF m 150 #[.val (.int q0), .val (.int q1), .val (.int q2), .val (.int q3), .val (.ref b), .val (.int o), .val (.int (4 : Int32)), .val (.int r), .unset] [(.int ((((uV g o (0 : Int32) (4 : Int32)) ||| ((uV g o (1 : Int32) (4 : Int32)) <<< ((8 : Int32) &&& 31))) ||| ((uV g o (2 : Int32) (4 : Int32)) <<< ((16 : Int32) &&& 31))) ||| ((uV g o (3 : Int32) (4 : Int32)) <<< ((24 : Int32) &&& 31))))]))
    refine GoOn.step (fun t₀ k₀ => XS.istore X53.here hx rfl (hb hby at_150) rfl (l' := #[.val (.int q0), .val (.int q1), .val (.int q2), .val (.int q3), .val (.ref b), .val (.int o), .val (.int (4 : Int32)), .val (.int r), .val (.int ((((uV g o (0 : Int32) (4 : Int32)) ||| ((uV g o (1 : Int32) (4 : Int32)) <<< ((8 : Int32) &&& 31))) ||| ((uV g o (2 : Int32) (4 : Int32)) <<< ((16 : Int32) &&& 31))) ||| ((uV g o (3 : Int32) (4 : Int32)) <<< ((24 : Int32) &&& 31))))]) rfl k₀) ?_
    show GoOn p e below _ (T53.setTop (mkF m 152 #[.val (.int q0), .val (.int q1), .val (.int q2), .val (.int q3), .val (.ref b), .val (.int o), .val (.int (4 : Int32)), .val (.int r), .val (.int ((((uV g o (0 : Int32) (4 : Int32)) ||| ((uV g o (1 : Int32) (4 : Int32)) <<< ((8 : Int32) &&& 31))) ||| ((uV g o (2 : Int32) (4 : Int32)) <<< ((16 : Int32) &&& 31))) ||| ((uV g o (3 : Int32) (4 : Int32)) <<< ((24 : Int32) &&& 31))))] []))
    refine GoOn.step (fun t₀ k₀ => XS.iload X53.here hx rfl (hb hby at_152) rfl k₀) ?_
    show GoOn p e below _ (T53.setTop (mkF m 154 #[.val (.int q0), .val (.int q1), .val (.int q2), .val (.int q3), .val (.ref b), .val (.int o), .val (.int (4 : Int32)), .val (.int r), .val (.int ((((uV g o (0 : Int32) (4 : Int32)) ||| ((uV g o (1 : Int32) (4 : Int32)) <<< ((8 : Int32) &&& 31))) ||| ((uV g o (2 : Int32) (4 : Int32)) <<< ((16 : Int32) &&& 31))) ||| ((uV g o (3 : Int32) (4 : Int32)) <<< ((24 : Int32) &&& 31))))] [(.int r)]))
    refine GoOn.step (fun t₀ k₀ => XS.iload X53.here hx rfl (hb hby at_154) rfl k₀) ?_
    show GoOn p e below _ (T53.setTop (mkF m 156 #[.val (.int q0), .val (.int q1), .val (.int q2), .val (.int q3), .val (.ref b), .val (.int o), .val (.int (4 : Int32)), .val (.int r), .val (.int ((((uV g o (0 : Int32) (4 : Int32)) ||| ((uV g o (1 : Int32) (4 : Int32)) <<< ((8 : Int32) &&& 31))) ||| ((uV g o (2 : Int32) (4 : Int32)) <<< ((16 : Int32) &&& 31))) ||| ((uV g o (3 : Int32) (4 : Int32)) <<< ((24 : Int32) &&& 31))))] [(.int ((((uV g o (0 : Int32) (4 : Int32)) ||| ((uV g o (1 : Int32) (4 : Int32)) <<< ((8 : Int32) &&& 31))) ||| ((uV g o (2 : Int32) (4 : Int32)) <<< ((16 : Int32) &&& 31))) ||| ((uV g o (3 : Int32) (4 : Int32)) <<< ((24 : Int32) &&& 31)))), (.int r)]))
    have hf54 : r = ((((uV g o (0 : Int32) (4 : Int32)) ||| ((uV g o (1 : Int32) (4 : Int32)) <<< ((8 : Int32) &&& 31))) ||| ((uV g o (2 : Int32) (4 : Int32)) <<< ((16 : Int32) &&& 31))) ||| ((uV g o (3 : Int32) (4 : Int32)) <<< ((24 : Int32) &&& 31))) := (by rw [uT (by decide : (0 : Int32) < (4 : Int32)), uT (by decide : (1 : Int32) < (4 : Int32)), uT (by decide : (2 : Int32) < (4 : Int32)), uT (by decide : (3 : Int32) < (4 : Int32)), ← hr]; exact pl4  _ _ _ _)
    refine GoOn.step (fun t₀ k₀ => XS.icmpNo X53.here hx rfl (hb hby at_156) rfl (teq hf54).2 k₀) ?_
    show GoOn p e below _ (T53.setTop (mkF m 159 #[.val (.int q0), .val (.int q1), .val (.int q2), .val (.int q3), .val (.ref b), .val (.int o), .val (.int (4 : Int32)), .val (.int r), .val (.int ((((uV g o (0 : Int32) (4 : Int32)) ||| ((uV g o (1 : Int32) (4 : Int32)) <<< ((8 : Int32) &&& 31))) ||| ((uV g o (2 : Int32) (4 : Int32)) <<< ((16 : Int32) &&& 31))) ||| ((uV g o (3 : Int32) (4 : Int32)) <<< ((24 : Int32) &&& 31))))] []))
    refine GoOn.step (fun t₀ k₀ => XS.iconst X53.here hx rfl (hb hby at_159) k₀) ?_
    show GoOn p e below _ (T53.setTop (mkF m 160 #[.val (.int q0), .val (.int q1), .val (.int q2), .val (.int q3), .val (.ref b), .val (.int o), .val (.int (4 : Int32)), .val (.int r), .val (.int ((((uV g o (0 : Int32) (4 : Int32)) ||| ((uV g o (1 : Int32) (4 : Int32)) <<< ((8 : Int32) &&& 31))) ||| ((uV g o (2 : Int32) (4 : Int32)) <<< ((16 : Int32) &&& 31))) ||| ((uV g o (3 : Int32) (4 : Int32)) <<< ((24 : Int32) &&& 31))))] [(.int (1 : Int32))]))
    refine GoOn.step (fun t₀ k₀ => XS.goto X53.here hx rfl (pc0 := 160) (pc' := 164) rfl (hb hby at_160) (by decide) (by decide) k₀) ?_
    show GoOn p e below _ (T53.setTop (mkF m 164 #[.val (.int q0), .val (.int q1), .val (.int q2), .val (.int q3), .val (.ref b), .val (.int o), .val (.int (4 : Int32)), .val (.int r), .val (.int ((((uV g o (0 : Int32) (4 : Int32)) ||| ((uV g o (1 : Int32) (4 : Int32)) <<< ((8 : Int32) &&& 31))) ||| ((uV g o (2 : Int32) (4 : Int32)) <<< ((16 : Int32) &&& 31))) ||| ((uV g o (3 : Int32) (4 : Int32)) <<< ((24 : Int32) &&& 31))))] [(.int (1 : Int32))]))
    exact GoOn.retN X53 hx hrt hlk (by simp) (hb hby at_164) (by decide) (by decide) (by first | exact ⟨rfl, N0⟩ | (rw [e53]; exact ⟨rfl, N0⟩))
set_option maxRecDepth 65536 in
set_option maxHeartbeats 40000000 in
theorem comes_1 {Post : Tables → Env → Array Value → State → Outcome → State → Prop} (hpost : ∀ tb e args s v u, (limb_1_1.after args s (.returned v) u = true ∧ limb_1_2.after args s (.returned v) u = true ∧ True) → FrameEnd s (.returned v) u (Jvm.fieldLocs frame_1_writes args s ++ Jvm.arrayLocs frame_1_arrays args s ++ Jvm.staticLocs frame_1_statics s) 16 128 → Post tb e args s (.returned v) u) :
    ArmFor flags0 classFile x code maxLocals ret World_1 tables_1 room_1 Calls_1 rest_1 Pre_1 Post := by
  intro l hfl _ _ p e ha hc hk s m args below hf hA hF happ hP
  obtain ⟨hcalls, hrest, hpre⟩ := hP
  obtain ⟨-, -, -, hnamed, -, -, -, hat⟩ := (Spec.applies_iff hf).mp happ
  obtain ⟨hg, hn⟩ := and_e (Cond.before_iff.mp (show (Jvm.Cond.and given_1 narrow_1).before args s = true from hpre))
  obtain ⟨g0, r0⟩ := and_e hg
  obtain ⟨g1, r1⟩ := and_e r0
  obtain ⟨g2, r2⟩ := and_e r1
  obtain ⟨g3, r3⟩ := and_e r2
  obtain ⟨w0, w1, w2, w3, rfl⟩ : ∃ w0 w1 w2 w3 : Value, args = #[w0, w1, w2, w3] := by
    have hs : args.size = 4 := by simpa [Cond.value, given_1] using g0
    obtain ⟨L⟩ := args
    match L, hs with
    | [w0, w1, w2, w3], _ => exact ⟨w0, w1, w2, w3, rfl⟩
  have hw := fun d (hd : d ∈ tables_1) => atoms_spec (ws := Jvm.Cond.code x code maxLocals ret :: tables_1) hat d (List.mem_cons_of_mem _ hd)
  have hfit : Fit s := fun {y c} hc i hi => by
    obtain ⟨ha, rfl⟩ := Array.getElem?_eq_some_iff.mp hc
    have q := List.all_eq_true.mp ((Array.all_eq_true_iff_forall_mem.mp hF) _ (Array.getElem_mem ha)) i (List.mem_range.mpr hi)
    simpa [Array.getElem?_eq_getElem hi] using q
  obtain ⟨i0, ei0⟩ := is_v g1
  obtain rfl : w0 = (.int i0) := Option.some.inj ei0
  obtain ⟨i1, ei1⟩ := is_v g2
  obtain rfl : w1 = (.int i1) := Option.some.inj ei1
  obtain ⟨i2, ei2⟩ := is_v g3
  obtain rfl : w2 = (.int i2) := Option.some.inj ei2
  obtain ⟨i3, ei3⟩ := is_v r3
  obtain rfl : w3 = (.int i3) := Option.some.inj ei3
  obtain ⟨n, o, h1, h2, h3, _, L, rfl, ⟨rfl, N⟩, hq⟩ := law_ok l s _ hw i0 i1 i2 i3 s.heap s.heap.size (Nat.le_refl _) tables_1 p e ha hc hk s m _ below hf ((Spec.applies_iff_loose hf).mp happ).1 ⟨rfl, State.Warmed39.refl s, rfl⟩ trivial
  refine ⟨n, _, h1, h2, h3, hpost _ _ _ _ _ _ ⟨Cond.after_iff.mpr rfl, Cond.after_iff.mpr (eq_i res_at (Term.int_eval (1)) rfl), trivial⟩ ⟨hq.1, hq.2.1, (hq.2.2.sift fun y hy => Or.inr (N y hy)).mono (by decide) (by decide)⟩⟩
theorem main_1_1 : Claimed_1_1 := comes_1 fun _ _ _ _ _ _ h hF => ⟨h.1, hF⟩
theorem main_1_2 : Claimed_1_2 := comes_1 fun _ _ _ _ _ _ h hF => ⟨h.2.1, hF⟩
end Jvm.Pilot.@@N@@
namespace Jvm.Pilot.@@N@@
open Jvm Jvm.ClassFile Sem Op Lib Jvm.Free Jvm.Stand Jvm.Pilot.@@N@@.Jvm.D
/-! MADE BY PROGRAM (witnessworld.py) out of the Statement's table words and the real class files: 8 classes; the members and pool entries that the words name. The judged class is class 1, her method 2. -/
namespace start1
open Jvm.ClassFile
def u (s : String) : CpInfo := .utf8 (stringToUtf16 s)
/-- a pool by its gaps: so many unusable entries, then the entry; so many at the end -/
def gap : Nat → List CpInfo → List CpInfo
  | 0, r => r
  | n + 1, r => .unusable :: gap n r
def poolList (es : List (Nat × CpInfo)) (last : Nat) : List CpInfo := es.foldr (fun e r => gap e.1 (e.2 :: r)) (gap last [])
def pool (es : List (Nat × CpInfo)) (last : Nat) : Array CpInfo := ⟨poolList es last⟩
def fileOf (pool : Array CpInfo) (this : Nat) (attrs : Array Attribute := #[]) (ms : Array MethodInfo := #[]) (fl : Nat := 33) (sup : Nat := 0) (ifs : Array Nat := #[]) (fds : Array FieldInfo := #[]) : ClassFile where
  minorVersion := 0
  majorVersion := 65
  constantPool := pool
  accessFlags := fl
  thisClass := this
  superClass := sup
  interfaces := ifs
  fields := fds
  methods := ms
  attributes := attrs
def plain (name : String) (sup : Option ClassId) : Class where
  name := name
  kind := .ordinary
  loader := none
  accessFlags := 33
  super := sup
  interfaces := #[]
  cf := none
  fields := #[]
  methods := #[]
  instanceTypes := #[]
  staticTypes := #[]
  resolved := #[]
  callSites := []
  init := .initialized
  statics := none
  mirror := none

def pool0 : Array CpInfo := pool [(5, u "<init>"), (0, u "()V"), (1, .class_ 10), (1, u "java/lang/Object")] 113

def k0m0 : Method := { name := "<init>", desc := "()V", sig := { parameters := [], returnType := none }, accessFlags := 1, code := none }
/-- java/lang/Object -/
def k0 : Class := { plain "java/lang/Object" none with
  accessFlags := 33
  interfaces := #[]
  cf := some (fileOf pool0 8 #[] #[{ accessFlags := 1, nameIndex := 5, descriptorIndex := 6, attributes := #[] }] 33 0 #[] #[])
  fields := #[]
  methods := #[k0m0]
  instanceTypes := #[]
  staticTypes := #[]
  resolved := Array.replicate 124 none
  statics := none }

def pool1 : Array CpInfo := pool [(2, .class_ 4), (1, u "java/lang/Object"), (0, u "<init>"), (0, u "()V"), (0, .integer 2147483647), (0, .methodref 9 10), (0, .class_ 11), (0, .nameAndType 12 13), (0, u "com/example/query_warden/querywarden/Packet"), (0, u "readInt"), (0, u "([BII)I"), (0, .methodref 15 16), (0, .class_ 17), (0, .nameAndType 18 19), (0, u "com/example/query_warden/querywarden/PacketReadIntPinLaw"), (0, u "u"), (0, u "([BIII)I"), (3, u "law"), (0, u "(IIII)Z")] 4

def k1m0 : Method := { name := "<init>", desc := "()V", sig := { parameters := [], returnType := none }, accessFlags := 1, code := none }
def k1c1 : Code := { maxStack := 3, maxLocals := 4, code := method_2_code, exceptionTable := #[], attributes := #[] }
def k1m1 : Method := { name := "u", desc := "([BIII)I", sig := { parameters := [(.array .byte), .int, .int, .int], returnType := some .int }, accessFlags := 10, code := some k1c1 }
def k1c2 : Code := { maxStack := 5, maxLocals := 9, code := code, exceptionTable := #[], attributes := #[] }
def k1m2 : Method := { name := "law", desc := "(IIII)Z", sig := { parameters := [.int, .int, .int, .int], returnType := some .boolean }, accessFlags := 9, code := some k1c2 }
/-- com/example/query_warden/querywarden/PacketReadIntPinLaw -/
def k1 : Class := { plain "com/example/query_warden/querywarden/PacketReadIntPinLaw" (some 0) with
  accessFlags := 49
  interfaces := #[]
  cf := some (fileOf pool1 15 #[] #[{ accessFlags := 1, nameIndex := 5, descriptorIndex := 6, attributes := #[] }, { accessFlags := 10, nameIndex := 18, descriptorIndex := 19, attributes := #[] }, { accessFlags := 9, nameIndex := 23, descriptorIndex := 24, attributes := #[] }] 49 2 #[] #[])
  fields := #[]
  methods := #[k1m0, k1m1, k1m2]
  instanceTypes := #[]
  staticTypes := #[]
  resolved := Array.replicate 29 none
  statics := none }

def pool2 : Array CpInfo := pool [(2, .class_ 4), (1, u "java/lang/Object"), (0, u "<init>"), (0, u "()V"), (0, .class_ 8), (0, u "java/lang/Record")] 13

def k2m0 : Method := { name := "<init>", desc := "()V", sig := { parameters := [], returnType := none }, accessFlags := 4, code := none }
/-- java/lang/Record -/
def k2 : Class := { plain "java/lang/Record" (some 0) with
  accessFlags := 1057
  interfaces := #[]
  cf := some (fileOf pool2 7 #[] #[{ accessFlags := 4, nameIndex := 5, descriptorIndex := 6, attributes := #[] }] 1057 2 #[] #[])
  fields := #[]
  methods := #[k2m0]
  instanceTypes := #[]
  staticTypes := #[]
  resolved := Array.replicate 22 none
  statics := none }

def pool3 : Array CpInfo := pool [(2, .class_ 4), (1, u "java/lang/Record"), (3, .class_ 10), (1, u "com/example/query_warden/querywarden/Packet"), (0, u "sequence"), (0, u "I"), (2, u "payload"), (0, u "[B"), (39, u "readInt"), (0, u "([BII)I"), (12, u "MAX_PAYLOAD"), (1, u "OK"), (1, u "ERR"), (1, u "EOF")] 39

def k3c0 : Code := { maxStack := 4, maxLocals := 5, code := prog_22_method_6_code, exceptionTable := #[], attributes := #[] }
def k3m0 : Method := { name := "readInt", desc := "([BII)I", sig := { parameters := [(.array .byte), .int, .int], returnType := some .int }, accessFlags := 8, code := some k3c0 }
/-- com/example/query_warden/querywarden/Packet -/
def k3 : Class := { plain "com/example/query_warden/querywarden/Packet" (some 2) with
  accessFlags := 48
  interfaces := #[]
  cf := some (fileOf pool3 8 #[] #[{ accessFlags := 8, nameIndex := 56, descriptorIndex := 57, attributes := #[] }] 48 2 #[] #[{ accessFlags := 18, nameIndex := 11, descriptorIndex := 12, attributes := #[] }, { accessFlags := 18, nameIndex := 15, descriptorIndex := 16, attributes := #[] }, { accessFlags := 24, nameIndex := 70, descriptorIndex := 12, attributes := #[] }, { accessFlags := 24, nameIndex := 72, descriptorIndex := 12, attributes := #[] }, { accessFlags := 24, nameIndex := 74, descriptorIndex := 12, attributes := #[] }, { accessFlags := 24, nameIndex := 76, descriptorIndex := 12, attributes := #[] }])
  fields := #[{ name := "sequence", type := .int, accessFlags := 18, slot := 0, constantValue := 0 }, { name := "payload", type := (.array .byte), accessFlags := 18, slot := 1, constantValue := 0 }, { name := "MAX_PAYLOAD", type := .int, accessFlags := 24, slot := 0, constantValue := 0 }, { name := "OK", type := .int, accessFlags := 24, slot := 1, constantValue := 0 }, { name := "ERR", type := .int, accessFlags := 24, slot := 2, constantValue := 0 }, { name := "EOF", type := .int, accessFlags := 24, slot := 3, constantValue := 0 }]
  methods := #[k3m0]
  instanceTypes := #[.int, (.array .byte)]
  staticTypes := #[.int, .int, .int, .int]
  resolved := Array.replicate 116 none
  statics := none }

def pool4 : Array CpInfo := pool [(1, u "java/lang/Cloneable"), (0, .class_ 1), (0, u "java/lang/Object"), (0, .class_ 3)] 3

/-- java/lang/Cloneable -/
def k4 : Class := { plain "java/lang/Cloneable" (some 0) with
  accessFlags := 1537
  interfaces := #[]
  cf := some (fileOf pool4 2 #[] #[] 1537 4 #[] #[])
  fields := #[]
  methods := #[]
  instanceTypes := #[]
  staticTypes := #[]
  resolved := Array.replicate 8 none
  statics := none }

def pool5 : Array CpInfo := pool [(1, u "java/io/Serializable"), (0, .class_ 1), (0, u "java/lang/Object"), (0, .class_ 3)] 3

/-- java/io/Serializable -/
def k5 : Class := { plain "java/io/Serializable" (some 0) with
  accessFlags := 1537
  interfaces := #[]
  cf := some (fileOf pool5 2 #[] #[] 1537 4 #[] #[])
  fields := #[]
  methods := #[]
  instanceTypes := #[]
  staticTypes := #[]
  resolved := Array.replicate 8 none
  statics := none }

/-- the primitive byte -/
def k6 : Class := { plain "byte" none with kind := .primitive 'B', accessFlags := 0x411 }
/-- [B -/
def k7 : Class := { plain "[B" (some 0) with kind := .array 6 .byte, interfaces := #[4, 5], accessFlags := 1041 }

def heap : Heap := #[]
def classes : Array Class := #[k0, k1, k2, k3, k4, k5, k6, k7]
def interned : List (Array UInt16 × Addr) := []
def slotsUsed : Nat := 0
def theMethod : MethodId := ⟨1, 2⟩
def args0 : Array Value := #[.int 50, .int 7, .int 2, .int 3]
def aboutOver (below : List Frame) : State where
  vm := { classes := classes, interned := interned.toArray }
  heap := heap
  slotsUsed := slotsUsed
  threads := #[{ frames := .invoking theMethod args0 :: below }]
def below0 : List Frame := [.native { method := ⟨0, 0⟩, args := #[] }]
def about1 : State := aboutOver below0
def p0 : Program := .bare "" "" ""
def e0 : Env := launch0.env 0 0 0
theorem w_frames : about1.frames = Frame.invoking theMethod args0 :: below0 := rfl
set_option maxRecDepth 65536 in
theorem w_args : argsFit about1.vm theMethod args0 = true := by decide +kernel
set_option maxRecDepth 65536 in
theorem w_heap : heapFits about1 = true := by decide +kernel
set_option maxRecDepth 65536 in
theorem w_runnable : about1.curStatus? = some .runnable := by decide +kernel
set_option maxRecDepth 65536 in
theorem w_alone : about1.alone = true := by decide +kernel
set_option maxRecDepth 65536 in
theorem w_named : about1.methodNamed? x = some theMethod := by decide +kernel
set_option maxRecDepth 65536 in
theorem w_hears : about1.hears theMethod below0 = true := by decide +kernel
set_option maxRecDepth 65536 in
theorem w_ripe : about1.ripe theMethod args0 below0 = true := by decide +kernel
theorem w_running : about1.status = .running := rfl
set_option maxRecDepth 65536 in
theorem w_room : about1.hasRoom e0.platform room_1 = true :=
  launch0.hasRoom_least _ room_1 (by decide +kernel) (by decide +kernel) (by decide +kernel) (by decide +kernel) (by decide +kernel) (by decide +kernel)
theorem allAtoms_all (ts : List Jvm.Cond) (a : Array Jvm.Value) (st : Jvm.State) : (allAtoms ts).before a st = ts.all (fun c => c.before a st) := by
  induction ts with
  | nil => rfl
  | cons c t ih =>
    show (Jvm.Cond.and c (allAtoms t)).before a st = _
    rw [Jvm.Cond.before_and, ih, List.all_cons]
def words1 : List Jvm.Cond := Jvm.Cond.code x code maxLocals ret :: tables_1
/-- a 'code' word, met by the world's own term for the bytes: nothing is compared byte by byte -/
theorem code_word {y : MethodName} {bytes : ByteArray} {mx : Nat} {rt : Option FieldType} {a : Array Value} {s : State} {m : MethodId} {meth : Method} {c : Code} (h1 : s.methodNamed? y = some m) (h2 : s.vm.method? m = some meth) (h3 : meth.code = some c) (h4 : c.code = bytes)
    (h5 : (c.maxLocals == mx && c.exceptionTable.isEmpty && decide (c.maxStack ≤ mostOperands) && decide (meth.sig.returnType = rt) && !meth.locks && decide (parseMethodDescriptor y.desc = some meth.sig)) = true) : (Jvm.Cond.code y bytes mx rt).before a s = true := by
  simp only [Bool.and_eq_true, beq_iff_eq, Bool.not_eq_true', decide_eq_true_eq] at h5
  obtain ⟨⟨⟨⟨⟨g1, g2⟩, g3⟩, g4⟩, g5⟩, g6⟩ := h5
  simp [Cond.before, Cond.holds, Cond.value, h1, h2, h3, h4, g1, g2, g3, g4, g5, g6]
def isCode : Jvm.Cond → Bool
  | .code _ _ _ _ => true
  | _ => false
theorem all_split {L : List Jvm.Cond} {P : Jvm.Cond → Bool} (h1 : L.all (fun c => isCode c || P c) = true) (h2 : ∀ c ∈ L.filter isCode, P c = true) : L.all P = true := by
  refine List.all_eq_true.mpr fun c hc => ?_
  have h := List.all_eq_true.mp h1 c hc
  rcases Bool.eq_false_or_eq_true (isCode c) with hi | hi
  · exact h2 c (List.mem_filter.mpr ⟨hc, hi⟩)
  · simpa [hi] using h
set_option maxRecDepth 65536 in
theorem w_c0 : (Jvm.Cond.code x code maxLocals ret).before args0 about1 = true := code_word (m := ⟨1, 2⟩) (meth := k1m2) (c := k1c2) (by decide +kernel) rfl rfl rfl (by decide +kernel)
set_option maxRecDepth 65536 in
theorem w_c1 : (Jvm.Cond.code ({ cls := "com/example/query_warden/querywarden/Packet", name := "readInt", desc := "([BII)I" } : Jvm.MethodName) prog_22_method_6_code (5 : Nat) (Option.some Jvm.ClassFile.FieldType.int)).before args0 about1 = true := code_word (m := ⟨3, 0⟩) (meth := k3m0) (c := k3c0) (by decide +kernel) rfl rfl rfl (by decide +kernel)
set_option maxRecDepth 65536 in
theorem w_c2 : (Jvm.Cond.code ({ cls := "com/example/query_warden/querywarden/PacketReadIntPinLaw", name := "u", desc := "([BIII)I" } : Jvm.MethodName) method_2_code (4 : Nat) (Option.some Jvm.ClassFile.FieldType.int)).before args0 about1 = true := code_word (m := ⟨1, 1⟩) (meth := k1m1) (c := k1c1) (by decide +kernel) rfl rfl rfl (by decide +kernel)
def codes1 : List Jvm.Cond := [Jvm.Cond.code x code maxLocals ret, Jvm.Cond.code ({ cls := "com/example/query_warden/querywarden/Packet", name := "readInt", desc := "([BII)I" } : Jvm.MethodName) prog_22_method_6_code (5 : Nat) (Option.some Jvm.ClassFile.FieldType.int), Jvm.Cond.code ({ cls := "com/example/query_warden/querywarden/PacketReadIntPinLaw", name := "u", desc := "([BIII)I" } : Jvm.MethodName) method_2_code (4 : Nat) (Option.some Jvm.ClassFile.FieldType.int)]
set_option maxRecDepth 65536 in
theorem codes_eq : words1.filter isCode = codes1 := rfl
theorem w_codes : ∀ c ∈ words1.filter isCode, c.before args0 about1 = true := by
  rw [codes_eq]
  intro c hc
  simp only [codes1, List.mem_cons, List.not_mem_nil, or_false] at hc
  rcases hc with rfl | rfl | rfl
  · exact w_c0
  · exact w_c1
  · exact w_c2
set_option maxRecDepth 65536 in
theorem w_t1 : words1.all (fun c => isCode c || c.before args0 about1) = true := by decide +kernel
theorem w_tables : (allAtoms (Jvm.Cond.code x code maxLocals ret :: tables_1)).before args0 about1 = true := by
  rw [allAtoms_all]
  show words1.all (fun c => c.before args0 about1) = true
  refine all_split ?_ w_codes
  rw [w_t1]
set_option maxRecDepth 65536 in
theorem w_case : (Jvm.Cond.and given_1 narrow_1).before args0 about1 = true := by decide +kernel
theorem w_applies : (headSpec (Jvm.Cond.code x code maxLocals ret :: tables_1) room_1).applies x e0.platform about1 = true :=
  (Spec.applies_iff w_frames).mpr ⟨w_running, w_runnable, w_alone, w_named, w_hears, w_ripe, w_room, w_tables⟩
theorem atStart : AtStart classFile x code maxLocals ret World_1 tables_1 room_1 Calls_1 rest_1 Pre_1 launch0 p0 e0 about1 theMethod args0 below0 :=
  ⟨lists_1, trivial, launch0.admits_env _ _ _, launch0.least_env, fairChoices_fair.cas, fairChoices_fair.clock, w_frames, w_args, w_heap, w_applies, trivial, trivial, w_case⟩
end start1
theorem witness_1 : WitnessClaimed_1 := ⟨start1.p0, start1.e0, start1.about1, start1.theMethod, start1.args0, start1.below0, start1.atStart⟩
end Jvm.Pilot.@@N@@
