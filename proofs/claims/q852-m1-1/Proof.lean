import JvmDerived
import JvmDerived.Pilot.@@N@@Statement
import JvmDerived.Pilot.@@N@@Code
set_option linter.unusedVariables false
set_option linter.unusedSimpArgs false
namespace Jvm.Pilot.@@N@@
open Jvm Jvm.ClassFile Sem Op Lib Jvm.Free Jvm.Stand Jvm.LawKit Jvm.RoadKit Bundle Jvm.Pilot.@@N@@.Jvm.D
/-! ## own kit: a walk in continuation style over the library's steps -/
section OwnKit
variable {p : Program} {l : Launch} {e : Env} {R : Room} {s : State} {m : MethodId} {args : Array Value} {below : List Frame} {meth : Method} {c : Code} {T : State} {locs : List Loc} {cells slots : Nat} {Z : State} {a0 : Array Value} {h h' : Heap}
/-- from U the run ends, and then E holds -/
def GoOn (p : Program) (e : Env) (below : List Frame) (E : State → Outcome → Prop) (U : State) : Prop :=
  ∃ t o, Steps p.tables e below U t ∧ t.status = .running ∧ Ended t below o ∧ E t o
theorem GoOn.step {E : State → Outcome → Prop} {U U' : State} (hs : ∀ t, Steps p.tables e below U' t → Steps p.tables e below U t) (g : GoOn p e below E U') : GoOn p e below E U := by
  obtain ⟨t, o, h1, h2⟩ := g
  exact ⟨t, o, hs _ h1, h2⟩
/-- how a body ends: what it returns, its heap, the places that it wrote -/
abbrev EndQ (s : State) (rm : Room) (Q : Option Value → Heap → List Loc → Prop) : State → Outcome → Prop :=
  fun U o => ∃ v L, o = .returned v ∧ Q v U.heap L ∧ FrameEnd s o U L rm.cells rm.slots
/-- a body's contract at one array of arguments and one heap -/
def Con (l : Launch) (Z : State) (y : MethodName) (bytes : ByteArray) (mx : Nat) (rt : Option FieldType) (rm : Room) (as : Array Value) (h : Heap) (Q : Option Value → Heap → List Loc → Prop) : Prop :=
  ∀ ws : List Jvm.Cond, MetFree l y (head1 (Jvm.Cond.code y bytes mx rt :: ws) rm) (fun a U => a = as ∧ Z.Warmed39 U.vm ∧ U.heap = h) (fun _ _ _ _ _ => True) (fun _ U o U' => ∃ v L, o = .returned v ∧ Q v U'.heap L ∧ FrameEnd U o U' L rm.cells rm.slots)
theorem Con.intro {y : MethodName} {bytes : ByteArray} {mx : Nat} {rt : Option FieldType} {rm : Room} {as : Array Value} {Q : Option Value → Heap → List Loc → Prop} (hp : plainFor y = true)
    (body : ∀ (p : Program) (e : Env) (s : State) (m : MethodId) (below : List Frame) (meth : Method) (c : Code) (s₁ : State), p.tables.exec = Jvm.exec → c.code = bytes → c.maxLocals = mx → meth.sig.returnType = rt → meth.locks = false → Z.Warmed39 s.vm → s.vm.findClass y.cls = some m.cls → meth.name = y.name →
      Stand p l e rm s m as below meth c s₁ [] 0 0 → s₁.heap = h → GoOn p e below (EndQ s rm Q) (s₁.setTop (entryFrame m as mx))) : Con l Z y bytes mx rt rm as h Q := fun ws => by
  refine MetFree.of_bodySF hp hisR ?_
  intro p e s m args below meth c s₁ Bd hml0 hP hK
  obtain ⟨rfl, hZ, hh⟩ := hP
  have X0 : Stand p l e rm s m args below meth c s₁ [] 0 0 := Stand.of_body Bd
  obtain ⟨t, o, h1, h2, h3, h4⟩ := body p e s m below meth c s₁ Bd.exec Bd.bytes hml0 Bd.returns Bd.notSynchronized hZ (findClass_of_methodNamed Bd.named) (name_of_methodNamed Bd.named Bd.method).1 X0 (by rw [← hh, Bd.state]; rfl)
  exact ⟨t, o, h1, h2, h3, h4⟩
theorem GoOn.cast {E : State → Outcome → Prop} {g g' : JFrame} (q : g = g') (k : GoOn p e below E (T.setTop g')) : GoOn p e below E (T.setTop g) := q ▸ k
theorem GoOn.retI (X : Stand p l e R s m args below meth c T locs cells slots) (hx : p.tables.exec = Jvm.exec) (hrt : meth.sig.returnType = some .int) (hlk : meth.locks = false) {rm : Room} {Q : Option Value → Heap → List Loc → Prop} {pc : Nat} {Ls : Array Slot} {z : Int32} {rest : List Value}
    (hd : decode c.code pc = .ok (.ireturn, 1)) (hc : cells ≤ rm.cells) (hs : slots ≤ rm.slots) (hQ : Q (some (.int z)) T.heap locs) : GoOn p e below (EndQ s rm Q) (T.setTop (mkF m pc Ls (.int z :: rest))) := by
  obtain ⟨fs, hr, hrun, hended, hW, hsame⟩ := X.leave (v := some (.int z)) (fun h => by rw [hrt] at h; cases h) hlk
  exact ⟨_, _, Jvm.RoadKit.retOut X hx hrt rfl (Or.inl ⟨rfl, Or.inl rfl, _, rfl⟩) hd hr, hrun, hended, _, _, rfl, hQ, ⟨_, rfl⟩, hW, hsame.mono hc hs⟩
theorem GoOn.retN (X : Stand p l e R s m args below meth c T locs cells slots) (hx : p.tables.exec = Jvm.exec) {t : FieldType} (hrt : meth.sig.returnType = some t) (hlk : meth.locks = false) {rm : Room} {Q : Option Value → Heap → List Loc → Prop} {pc : Nat} {Ls : Array Slot} {z : Int32} {rest : List Value} (ht : t = .boolean ∨ t = .byte ∨ t = .char ∨ t = .short)
    (hd : decode c.code pc = .ok (.ireturn, 1)) (hc : cells ≤ rm.cells) (hs : slots ≤ rm.slots) (hQ : Q (some (.int (nar t z))) T.heap locs) : GoOn p e below (EndQ s rm Q) (T.setTop (mkF m pc Ls (.int z :: rest))) := by
  obtain ⟨fs, hr, hrun, hended, hW, hsame⟩ := X.leave (v := some (.int (nar t z))) (fun h => by rw [hrt] at h; cases h) hlk
  exact ⟨_, _, Jvm.RoadKit.retN X hx hrt ht hd hr, hrun, hended, _, _, rfl, hQ, ⟨_, rfl⟩, hW, hsame.mono hc hs⟩
theorem GoOn.retJ (X : Stand p l e R s m args below meth c T locs cells slots) (hx : p.tables.exec = Jvm.exec) (hrt : meth.sig.returnType = some .long) (hlk : meth.locks = false) {rm : Room} {Q : Option Value → Heap → List Loc → Prop} {pc : Nat} {Ls : Array Slot} {z : Int64} {rest : List Value}
    (hd : decode c.code pc = .ok (.lreturn, 1)) (hc : cells ≤ rm.cells) (hs : slots ≤ rm.slots) (hQ : Q (some (.long z)) T.heap locs) : GoOn p e below (EndQ s rm Q) (T.setTop (mkF m pc Ls (.long z :: rest))) := by
  obtain ⟨fs, hr, hrun, hended, hW, hsame⟩ := X.leave (v := some (.long z)) (fun h => by rw [hrt] at h; cases h) hlk
  exact ⟨_, _, Jvm.RoadKit.retOut X hx hrt rfl (Or.inr (Or.inl ⟨rfl, rfl, _, rfl⟩)) hd hr, hrun, hended, _, _, rfl, hQ, ⟨_, rfl⟩, hW, hsame.mono hc hs⟩
theorem GoOn.retR (X : Stand p l e R s m args below meth c T locs cells slots) (hx : p.tables.exec = Jvm.exec) {t : FieldType} (hrt : meth.sig.returnType = some t) (htr : t.isReference = true) (hlk : meth.locks = false) {rm : Room} {Q : Option Value → Heap → List Loc → Prop} {pc : Nat} {Ls : Array Slot} {z : Value} (hz : z.isRef = true) {rest : List Value}
    (hd : decode c.code pc = .ok (.areturn, 1)) (hc : cells ≤ rm.cells) (hs : slots ≤ rm.slots) (hQ : Q (some z) T.heap locs) : GoOn p e below (EndQ s rm Q) (T.setTop (mkF m pc Ls (z :: rest))) := by
  obtain ⟨fs, hr, hrun, hended, hW, hsame⟩ := X.leave (v := some z) (fun h => by rw [hrt] at h; cases h) hlk
  refine ⟨_, _, Jvm.RoadKit.retOut X hx hrt ?_ (Or.inr (Or.inr (Or.inr (Or.inr ⟨rfl, htr, hz⟩)))) hd hr, hrun, hended, _, _, rfl, hQ, ⟨_, rfl⟩, hW, hsame.mono hc hs⟩
  cases z <;> first | (cases t <;> rfl) | (simp [Value.isRef] at hz)
theorem GoOn.ret0 (X : Stand p l e R s m args below meth c T locs cells slots) (hx : p.tables.exec = Jvm.exec) (hrt : meth.sig.returnType = none) (hlk : meth.locks = false) {rm : Room} {Q : Option Value → Heap → List Loc → Prop} {pc : Nat} {Ls : Array Slot}
    (hd : decode c.code pc = .ok (.return_, 1)) (hc : cells ≤ rm.cells) (hs : slots ≤ rm.slots) (hQ : Q none T.heap locs) : GoOn p e below (EndQ s rm Q) (T.setTop (mkF m pc Ls [])) := by
  obtain ⟨fs, hr, hrun, hended, hW, hsame⟩ := X.leave (v := none) (fun _ => rfl) hlk
  exact ⟨_, _, X.returnOut hx hrt hd hr, hrun, hended, _, _, rfl, hQ, ⟨_, rfl⟩, hW, hsame.mono hc hs⟩
/-- a static call by its contract -/
theorem kCallS (X : Stand p l e R s m args below meth c T locs cells slots) (hx : p.tables.exec = Jvm.exec) (hZ : Z.Warmed39 s.vm) {own : String} {index : Nat} {y : MethodName} {bytes : ByteArray} {mx : Nat} {rt : Option FieldType} {rm : Room} {Q : Option Value → Heap → List Loc → Prop} {argsL rest : List Value}
    (K : Con l Z y bytes mx rt rm argsL.toArray h Q) (hown : s.vm.findClass own = some m.cls) (w1 : (Jvm.Cond.methodLink own index y).before a0 Z = true) (w2 : (Jvm.Cond.static y).before a0 Z = true) (w3 : (Jvm.Cond.initialized y.cls).before a0 Z = true) (w4 : (Jvm.Cond.code y bytes mx rt).before a0 Z = true)
    (hy : y.cls ≠ "java/lang/invoke/MethodHandle" ∧ y.cls ≠ "java/lang/invoke/VarHandle") (eT : T.heap = h) {g : JFrame} (hg : g.method = m) (hsize : g.locals.size = c.maxLocals) (hlen : ∀ sig, parseMethodDescriptor y.desc = some sig → argsL.length = sig.parameters.length) (hstack : g.stack = argsL.reverse ++ rest)
    {W : Nat} (hW : 2 * g.monitorRoom + (rest.map fun v => v.category).sum ≤ W) (hd : decode c.code g.pc = .ok (.invokestatic index, 3)) (hf : rm.frames + 1 ≤ R.frames) (hl : W + (mx + 11) + rm.locals ≤ R.locals) (hc : cells + rm.cells ≤ R.cells) (hs : slots + rm.slots ≤ R.slots) :
    ∃ v T' L, Stand p l e R s m args below meth c T' (locs ++ L) (cells + rm.cells) (slots + rm.slots) ∧ Q v T'.heap L ∧ ∀ target, Steps p.tables e below (T'.setTop { g with pc := g.pc + 3, stack := v.toList ++ rest }) target → Steps p.tables e below (T.setTop g) target := by
  obtain ⟨v, _, ⟨T', L', k', n'⟩, -, X', ⟨L, hQ, l1, l2, l3⟩, st⟩ := Jvm.LawKit.callS X hx (y := y) hown (mvT hZ w1) (mvT hZ w2) (mvT hZ w3) (mvT hZ w4) hy (backOf (W := W) (K []) hZ w4 w3 hf hl) hg hsize hlen hstack hW hd (fun _ _ => ⟨rfl, eT, hc, hs⟩)
  dsimp only [Pt.U, Pt.locs, Pt.cells, Pt.slots] at X' l1 l2 l3 hQ st
  subst l1 l2 l3
  exact ⟨v, T', L, X', hQ, fun t k => st _ k⟩
/-- a constructor by its contract -/
theorem kCallI (X : Stand p l e R s m args below meth c T locs cells slots) (hx : p.tables.exec = Jvm.exec) (hZ : Z.Warmed39 s.vm) {own : String} {index : Nat} {y : MethodName} {bytes : ByteArray} {mx : Nat} {rm : Room} {Q : Option Value → Heap → List Loc → Prop} {a : Addr} {argsL rest : List Value}
    (K : Con l Z y bytes mx none rm (.ref a :: argsL).toArray h Q) (hy1 : y.name = "<init>") (hown : s.vm.findClass own = some m.cls) (w1 : (Jvm.Cond.methodLink own index y).before a0 Z = true) (w2 : (Jvm.Cond.instanceMethod y).before a0 Z = true) (w3 : (Jvm.Cond.initialized y.cls).before a0 Z = true) (w4 : (Jvm.Cond.code y bytes mx none).before a0 Z = true)
    (hy : y.cls ≠ "java/lang/invoke/MethodHandle" ∧ y.cls ≠ "java/lang/invoke/VarHandle") (eT : T.heap = h) {g : JFrame} (hg : g.method = m) (hsize : g.locals.size = c.maxLocals) (hlen : ∀ sig, parseMethodDescriptor y.desc = some sig → argsL.length = sig.parameters.length) (hstack : g.stack = argsL.reverse ++ .ref a :: rest)
    {W : Nat} (hW : 2 * g.monitorRoom + (rest.map fun v => v.category).sum ≤ W) (hd : decode c.code g.pc = .ok (.invokespecial index, 3)) (hf : rm.frames + 1 ≤ R.frames) (hl : W + (mx + 11) + rm.locals ≤ R.locals) (hc : cells + rm.cells ≤ R.cells) (hs : slots + rm.slots ≤ R.slots) :
    ∃ v T' L, Stand p l e R s m args below meth c T' (locs ++ L) (cells + rm.cells) (slots + rm.slots) ∧ Q v T'.heap L ∧ ∀ target, Steps p.tables e below (T'.setTop { g with pc := g.pc + 3, stack := v.toList ++ rest }) target → Steps p.tables e below (T.setTop g) target := by
  obtain ⟨v, _, ⟨T', L', k', n'⟩, -, X', ⟨L, hQ, l1, l2, l3⟩, st⟩ := X.specialBack hx (y := y) hy1 hown (mvT hZ w1) (mvT hZ w2) (mvT hZ w4) hy (backOf (W := W) (K []) hZ w4 w3 hf hl) hg hsize (Steps.refl _) (a := a) hlen hstack hW hd (fun _ _ => ⟨rfl, eT, hc, hs⟩)
  dsimp only [Pt.U, Pt.locs, Pt.cells, Pt.slots] at X' l1 l2 l3 hQ st
  subst l1 l2 l3
  exact ⟨v, T', L, X', hQ, fun t k => st.trans k⟩
/-- an instance method by its contract, on an object of that very class -/
theorem kCallV (X : Stand p l e R s m args below meth c T locs cells slots) (hx : p.tables.exec = Jvm.exec) (hZ : Z.Warmed39 s.vm) {own C : String} {index : Nat} {y z : MethodName} {bytes : ByteArray} {mx : Nat} {rt : Option FieldType} {rm : Room} {Q : Option Value → Heap → List Loc → Prop} {a : Addr} {argsL rest : List Value}
    (K : Con l Z z bytes mx rt rm (.ref a :: argsL).toArray h Q) (hown : s.vm.findClass own = some m.cls) (w1 : (Jvm.Cond.methodLink own index y).before a0 Z = true) (wd : (Jvm.Cond.declares y).before a0 Z = true) (hnf : NotFace s y) (ws : (Jvm.Cond.selects C y z).before a0 Z = true) (w2 : (Jvm.Cond.instanceMethod z).before a0 Z = true) (w3 : (Jvm.Cond.initialized z.cls).before a0 Z = true) (w4 : (Jvm.Cond.code z bytes mx rt).before a0 Z = true)
    (hy : y.cls ≠ "java/lang/invoke/MethodHandle" ∧ y.cls ≠ "java/lang/invoke/VarHandle") (eT : T.heap = h) (E : Exa Z h a C) {g : JFrame} (hg : g.method = m) (hsize : g.locals.size = c.maxLocals) (hlen : ∀ sig, parseMethodDescriptor y.desc = some sig → argsL.length = sig.parameters.length) (hstack : g.stack = argsL.reverse ++ .ref a :: rest)
    {W : Nat} (hW : 2 * g.monitorRoom + (rest.map fun v => v.category).sum ≤ W) (hd : decode c.code g.pc = .ok (.invokevirtual index, 3)) (hf : rm.frames + 1 ≤ R.frames) (hl : W + (mx + 11) + rm.locals ≤ R.locals) (hc : cells + rm.cells ≤ R.cells) (hs : slots + rm.slots ≤ R.slots) :
    ∃ v T' L, Stand p l e R s m args below meth c T' (locs ++ L) (cells + rm.cells) (slots + rm.slots) ∧ Q v T'.heap L ∧ ∀ target, Steps p.tables e below (T'.setTop { g with pc := g.pc + 3, stack := v.toList ++ rest }) target → Steps p.tables e below (T.setTop g) target := by
  obtain ⟨cB, kB, q1, q2, q3⟩ := isOf hZ eT E
  obtain ⟨v, _, ⟨T', L', k', n'⟩, -, X', ⟨L, hQ, l1, l2, l3⟩, st⟩ := X.virtualBack hx (y := y) (z := z) hown (mvT hZ w1) (mvT hZ wd) hnf (mvT hZ ws) (mvT hZ w2) hy (backOf (W := W) (K []) hZ w4 w3 hf hl) q1 q3 hg hsize (Steps.refl _) hlen hstack hW hd (fun _ _ => ⟨rfl, eT, hc, hs⟩)
  dsimp only [Pt.U, Pt.locs, Pt.cells, Pt.slots] at X' l1 l2 l3 hQ st
  subst l1 l2 l3
  exact ⟨v, T', L, X', hQ, fun t k => st.trans k⟩
/-- a private method by its contract ('invokevirtual'); y2: a method of the same class of which is known that its class is no interface -/
theorem kCallP (X : Stand p l e R s m args below meth c T locs cells slots) (hx : p.tables.exec = Jvm.exec) (hZ : Z.Warmed39 s.vm) {own C : String} {index : Nat} {y y2 : MethodName} {bytes : ByteArray} {mx : Nat} {rt : Option FieldType} {rm : Room} {Q : Option Value → Heap → List Loc → Prop} {a : Addr} {argsL rest : List Value}
    (K : Con l Z y bytes mx rt rm (.ref a :: argsL).toArray h Q) (hown : s.vm.findClass own = some m.cls) (w1 : (Jvm.Cond.methodLink own index y).before a0 Z = true) (w2 : (Jvm.Cond.instanceMethod y).before a0 Z = true) (wp : (Jvm.Cond.privateMethod y).before a0 Z = true) (w3 : (Jvm.Cond.initialized y.cls).before a0 Z = true) (w4 : (Jvm.Cond.code y bytes mx rt).before a0 Z = true)
    (hnf : NotFace s y2) (hcl : y2.cls = y.cls) (w5 : (Jvm.Cond.instanceMethod y2).before a0 Z = true)
    (hy : y.cls ≠ "java/lang/invoke/MethodHandle" ∧ y.cls ≠ "java/lang/invoke/VarHandle") (eT : T.heap = h) (E : Exa Z h a C) {g : JFrame} (hg : g.method = m) (hsize : g.locals.size = c.maxLocals) (hlen : ∀ sig, parseMethodDescriptor y.desc = some sig → argsL.length = sig.parameters.length) (hstack : g.stack = argsL.reverse ++ .ref a :: rest)
    {W : Nat} (hW : 2 * g.monitorRoom + (rest.map fun v => v.category).sum ≤ W) (hd : decode c.code g.pc = .ok (.invokevirtual index, 3)) (hf : rm.frames + 1 ≤ R.frames) (hl : W + (mx + 11) + rm.locals ≤ R.locals) (hc : cells + rm.cells ≤ R.cells) (hs : slots + rm.slots ≤ R.slots) :
    ∃ v T' L, Stand p l e R s m args below meth c T' (locs ++ L) (cells + rm.cells) (slots + rm.slots) ∧ Q v T'.heap L ∧ ∀ target, Steps p.tables e below (T'.setTop { g with pc := g.pc + 3, stack := v.toList ++ rest }) target → Steps p.tables e below (T.setTop g) target := by
  obtain ⟨cB, kB, q1, q2, cell, q3, q4, q5⟩ := isOf hZ eT E
  obtain ⟨mk, methM, hnamed, hmethM, hstM, habM⟩ := Cond.instanceMethod_spec (mvT (args := args) hZ w2)
  obtain ⟨methM', cM, hmethM', -, -, -, -, -, -, hsigM⟩ := Cond.code_spec hnamed (mvT (args := args) hZ w4)
  cases hmethM.symm.trans hmethM'
  obtain ⟨mk2, methM2, hnamed2, -⟩ := Cond.instanceMethod_spec (mvT (args := args) hZ w5)
  obtain ⟨kP, hkP, hkPi⟩ := hnf mk2 hnamed2
  have hcc : mk2.cls = mk.cls := by
    have u1 := findClass_of_methodNamed hnamed2
    rw [hcl] at u1
    exact Option.some.inj (u1.symm.trans (findClass_of_methodNamed hnamed))
  rw [hcc] at hkP
  have hpriv : s.PrivateAt y := Cond.privateMethod_at (mvP hZ wp (args := args))
  obtain ⟨vm₁, X₁, hstep₁⟩ := X.invokevirtual hx hown (mvT hZ w1) hnamed hmethM hstM hkP hkPi hy (a := a) (cell := cell) q3 (fun q z => by rw [z] at q5; cases q5) (selectMethod_private hmethM (hpriv mk methM hnamed hmethM)) hmethM habM hkP hkPi (g := g) hg (argsL := argsL) (rest := rest) (hlen _ hsigM) hstack hd
  obtain ⟨v, ⟨T', L', k', n'⟩, X', ⟨L, hQ, l1, l2, l3⟩, st⟩ := (backOf (W := W) (K []) hZ w4 w3 hf hl) m meth c ⟨T.setVm vm₁, locs, cells, slots⟩ { g with stack := rest } (.invokevirtual index) mk (.ref a :: argsL).toArray X₁ hg hsize hd hW (X₁.named hnamed) ⟨rfl, eT, hc, hs⟩
  dsimp only [Pt.U, Pt.locs, Pt.cells, Pt.slots] at X' l1 l2 l3 hQ st
  subst l1 l2 l3
  exact ⟨v, T', L, X', hQ, fun t k => (hstep₁ _ fun acts => by rw [doInvoke_state]; exact Steps.refl _).trans (st.trans k)⟩
/-- an array: its kind, its length, what each place holds -/
def Jar (Z : State) (h : Heap) (a : Addr) (ty : FieldType) (n : Nat) (f : Nat → Value) : Prop := ∃ cl : Cell, Arr Z h a cl ty ∧ cl.slots.size = n ∧ ∀ i, i < n → cl.slots[i]? = some (f i)
section JarS
variable {a b : Addr} {ty : FieldType} {n : Nat} {f g : Nat → Value} {v : Value} {sl : Nat} {ws : List Addr}
theorem Jar.lt (F : Jar Z h a ty n f) : a < h.size := by obtain ⟨cl, A, -⟩ := F; exact A.lt
theorem Jar.ext (F : Jar Z h a ty n f) (E : Ext h h') : Jar Z h' a ty n f := by obtain ⟨cl, A, r⟩ := F; exact ⟨cl, A.ext E, r⟩
theorem Jar.other (F : Jar Z h b ty n f) (W : Wr h h' a sl v) (q : b ≠ a) : Jar Z h' b ty n f := by obtain ⟨cl, A, r⟩ := F; exact ⟨cl, A.other W q, r⟩
theorem Jar.keep (F : Jar Z h a ty n f) (K : Keep h h' ws) (q : a ∉ ws) : Jar Z h' a ty n f := by obtain ⟨cl, A, r⟩ := F; exact ⟨cl, ⟨K.2.1 a cl A.1 q, A.2⟩, r⟩
theorem Jar.congr (F : Jar Z h a ty n f) (q : ∀ i, i < n → f i = g i) : Jar Z h a ty n g := by obtain ⟨cl, A, s1, s2⟩ := F; exact ⟨cl, A, s1, fun i hi => by rw [s2 i hi, q i hi]⟩
theorem Jar.new {k : ClassId} {z : Int32} (A : Arr Z h a (newA k ty z) ty) (hz : z.toNatClampNeg = n) : Jar Z h a ty n (fun _ => defaultValue ty) := ⟨_, A, (sz_new _ _ _).trans hz, fun i hi => by simp [newA, hz, hi]⟩
theorem Jar.set (F : Jar Z h a ty n f) (W : Wr h h' a sl v) : Jar Z h' a ty n (fun i => if i = sl then v else f i) := by
  obtain ⟨cl, A, s1, s2⟩ := F
  obtain ⟨c2, q1, -, q3, -⟩ := id W
  cases A.1.symm.trans q1
  refine ⟨_, Arr.same W A, by simp [Cell.setSlot, s1], fun i hi => ?_⟩
  by_cases q : i = sl
  · subst q; simp [Cell.setSlot, q3]
  · show (cl.slots.setIfInBounds sl v)[i]? = some (if i = sl then v else f i)
    rw [if_neg q, ← s2 i hi, Array.getElem?_setIfInBounds_ne (Ne.symm q)]
theorem Jar.ints (F : Jar Z h a ty n f) (H : ∀ i, ∃ x, f i = .int x) : ∃ g : Nat → Int32, Jar Z h a ty n (fun i => .int (g i)) := ⟨fun i => Classical.choose (H i), F.congr fun i _ => Classical.choose_spec (H i)⟩
theorem Jar.longs (F : Jar Z h a ty n f) (H : ∀ i, ∃ x, f i = .long x) : ∃ g : Nat → Int64, Jar Z h a ty n (fun i => .long (g i)) := ⟨fun i => Classical.choose (H i), F.congr fun i _ => Classical.choose_spec (H i)⟩
theorem inJ {cl : Cell} {j : Int32} (s1 : cl.slots.size = n) (hj : 0 ≤ j.toInt ∧ j.toInt < n) : ¬ (j < 0 ∨ cl.slots.size ≤ j.toNatClampNeg) := by
  rw [s1, Int32.lt_iff_toInt_lt]
  have e1 : (0 : Int32).toInt = 0 := rfl
  have e2 : j.toNatClampNeg = j.toInt.toNat := rfl
  omega
theorem natJ {j : Int32} (hj : 0 ≤ j.toInt ∧ j.toInt < n) : j.toNatClampNeg < n := by
  have e2 : j.toNatClampNeg = j.toInt.toNat := rfl
  omega
end JarS
theorem kLdI (X : Stand p l e R s m args below meth c T locs cells slots) (hx : p.tables.exec = Jvm.exec) (hZ : Z.Warmed39 s.vm) (eT : T.heap = h) {a : Addr} {n : Nat} {f : Nat → Value} (F : Jar Z h a .int n f) {j : Int32} {v : Value} (hj : 0 ≤ j.toInt ∧ j.toInt < n) (hv : f j.toNatClampNeg = v) {g : JFrame} (hg : g.method = m) {rest : List Value} (hs : g.stack = .int j :: .ref a :: rest) (hd : decode c.code g.pc = .ok (.iaload, 1)) :
    ∀ t, Steps p.tables e below (T.setTop { g with pc := g.pc + 1, stack := v :: rest }) t → Steps p.tables e below (T.setTop g) t := by
  obtain ⟨cl, A, s1, s2⟩ := F
  exact X.iaload hx (j := j) (v := v) (by rw [eT]; exact A.1) (State.isArrayOf_alike hZ.alike A.2.1) A.2.2 (inJ s1 hj) (by rw [s2 _ (natJ hj), hv]) hg hs hd
theorem kLdJ (X : Stand p l e R s m args below meth c T locs cells slots) (hx : p.tables.exec = Jvm.exec) (hZ : Z.Warmed39 s.vm) (eT : T.heap = h) {a : Addr} {n : Nat} {f : Nat → Value} (F : Jar Z h a .long n f) {j : Int32} {v : Value} (hj : 0 ≤ j.toInt ∧ j.toInt < n) (hv : f j.toNatClampNeg = v) {g : JFrame} (hg : g.method = m) {rest : List Value} (hs : g.stack = .int j :: .ref a :: rest) (hd : decode c.code g.pc = .ok (.laload, 1)) :
    ∀ t, Steps p.tables e below (T.setTop { g with pc := g.pc + 1, stack := v :: rest }) t → Steps p.tables e below (T.setTop g) t := by
  obtain ⟨cl, A, s1, s2⟩ := F
  exact X.laload hx (j := j) (v := v) (by rw [eT]; exact A.1) (State.isArrayOf_alike hZ.alike A.2.1) A.2.2 (inJ s1 hj) (by rw [s2 _ (natJ hj), hv]) hg hs hd
theorem kLdB (X : Stand p l e R s m args below meth c T locs cells slots) (hx : p.tables.exec = Jvm.exec) (hZ : Z.Warmed39 s.vm) (eT : T.heap = h) {a : Addr} {n : Nat} {f : Nat → Value} (F : Jar Z h a .byte n f) {j : Int32} {v : Value} (hj : 0 ≤ j.toInt ∧ j.toInt < n) (hv : f j.toNatClampNeg = v) {g : JFrame} (hg : g.method = m) {rest : List Value} (hs : g.stack = .int j :: .ref a :: rest) (hd : decode c.code g.pc = .ok (.baload, 1)) :
    ∀ t, Steps p.tables e below (T.setTop { g with pc := g.pc + 1, stack := v :: rest }) t → Steps p.tables e below (T.setTop g) t := by
  obtain ⟨cl, A, s1, s2⟩ := F
  exact X.baloadBytes hx (j := j) (v := v) (by rw [eT]; exact A.1) (State.isArrayOf_alike hZ.alike A.2.1) A.2.2 (inJ s1 hj) (by rw [s2 _ (natJ hj), hv]) hg hs hd
theorem kLdA (X : Stand p l e R s m args below meth c T locs cells slots) (hx : p.tables.exec = Jvm.exec) (hZ : Z.Warmed39 s.vm) (eT : T.heap = h) {a : Addr} {ty : FieldType} {n : Nat} {f : Nat → Value} (F : Jar Z h a ty n f) (hty : ty.isReference = true) {j : Int32} {v : Value} (hj : 0 ≤ j.toInt ∧ j.toInt < n) (hv : f j.toNatClampNeg = v) {g : JFrame} (hg : g.method = m) {rest : List Value} (hs : g.stack = .int j :: .ref a :: rest) (hd : decode c.code g.pc = .ok (.aaload, 1)) :
    ∀ t, Steps p.tables e below (T.setTop { g with pc := g.pc + 1, stack := v :: rest }) t → Steps p.tables e below (T.setTop g) t := by
  obtain ⟨cl, A, s1, s2⟩ := F
  exact X.aaload hx (j := j) (v := v) (by rw [eT]; exact A.1) (State.isArrayOf_alike hZ.alike A.2.1) hty A.2.2 (inJ s1 hj) (by rw [s2 _ (natJ hj), hv]) hg hs hd
theorem kLen (X : Stand p l e R s m args below meth c T locs cells slots) (hx : p.tables.exec = Jvm.exec) (hZ : Z.Warmed39 s.vm) (eT : T.heap = h) {a : Addr} {ty : FieldType} {n : Nat} {f : Nat → Value} (F : Jar Z h a ty n f) {z : Int32} (hz : n.toInt32 = z) {g : JFrame} (hg : g.method = m) {rest : List Value} (hs : g.stack = .ref a :: rest) (hd : decode c.code g.pc = .ok (.arraylength, 1)) :
    ∀ t, Steps p.tables e below (T.setTop { g with pc := g.pc + 1, stack := .int z :: rest }) t → Steps p.tables e below (T.setTop g) t := by
  obtain ⟨cl, A, s1, s2⟩ := F
  subst hz s1
  exact X.arraylength hx (by rw [eT]; exact A.1) (State.isArrayOf_alike hZ.alike A.2.1) hg hs hd
/-- a store: what the three kinds say alike -/
theorem kStI (X : Stand p l e R s m args below meth c T locs cells slots) (hx : p.tables.exec = Jvm.exec) (hZ : Z.Warmed39 s.vm) (eT : T.heap = h) {a : Addr} {n : Nat} {f : Nat → Value} (F : Jar Z h a .int n f) {j x : Int32} (hj : 0 ≤ j.toInt ∧ j.toInt < n) {g : JFrame} (hg : g.method = m) {rest : List Value} (hs : g.stack = .int x :: .int j :: .ref a :: rest) (hd : decode c.code g.pc = .ok (.iastore, 1)) :
    ∃ T' h', Stand p l e R s m args below meth c T' (locs ++ [⟨a, j.toNatClampNeg⟩]) cells slots ∧ T'.heap = h' ∧ Wr h h' a j.toNatClampNeg (.int x) ∧ ∀ target, Steps p.tables e below (T'.setTop { g with pc := g.pc + 1, stack := rest }) target → Steps p.tables e below (T.setTop g) target := by
  obtain ⟨cl, A, s1, s2⟩ := F
  exact stI X hx hZ eT A (inJ s1 hj) hg hs hd
theorem kStJ (X : Stand p l e R s m args below meth c T locs cells slots) (hx : p.tables.exec = Jvm.exec) (hZ : Z.Warmed39 s.vm) (eT : T.heap = h) {a : Addr} {n : Nat} {f : Nat → Value} (F : Jar Z h a .long n f) {j : Int32} {x : Int64} (hj : 0 ≤ j.toInt ∧ j.toInt < n) {g : JFrame} (hg : g.method = m) {rest : List Value} (hs : g.stack = .long x :: .int j :: .ref a :: rest) (hd : decode c.code g.pc = .ok (.lastore, 1)) :
    ∃ T' h', Stand p l e R s m args below meth c T' (locs ++ [⟨a, j.toNatClampNeg⟩]) cells slots ∧ T'.heap = h' ∧ Wr h h' a j.toNatClampNeg (.long x) ∧ ∀ target, Steps p.tables e below (T'.setTop { g with pc := g.pc + 1, stack := rest }) target → Steps p.tables e below (T.setTop g) target := by
  obtain ⟨cl, A, s1, s2⟩ := F
  exact stJ X hx hZ eT A (inJ s1 hj) hg hs hd
theorem kStB (X : Stand p l e R s m args below meth c T locs cells slots) (hx : p.tables.exec = Jvm.exec) (hZ : Z.Warmed39 s.vm) (eT : T.heap = h) {a : Addr} {n : Nat} {f : Nat → Value} (F : Jar Z h a .byte n f) {j x : Int32} (hj : 0 ≤ j.toInt ∧ j.toInt < n) {g : JFrame} (hg : g.method = m) {rest : List Value} (hs : g.stack = .int x :: .int j :: .ref a :: rest) (hd : decode c.code g.pc = .ok (.bastore, 1)) :
    ∃ T' h', Stand p l e R s m args below meth c T' (locs ++ [⟨a, j.toNatClampNeg⟩]) cells slots ∧ T'.heap = h' ∧ Wr h h' a j.toNatClampNeg (.int (x.toInt8.toInt32)) ∧ ∀ target, Steps p.tables e below (T'.setTop { g with pc := g.pc + 1, stack := rest }) target → Steps p.tables e below (T.setTop g) target := by
  obtain ⟨cl, A, s1, s2⟩ := F
  exact stB X hx hZ eT A (inJ s1 hj) hg hs hd
theorem kClone (X : Stand p l e R s m args below meth c T locs cells slots) (hx : p.tables.exec = Jvm.exec) (hZ : Z.Warmed39 s.vm) {own ad : String} {index : Nat} (hown : s.vm.findClass own = some m.cls)
    (w1 : (Jvm.Cond.methodLink own index ⟨ad, "clone", "()Ljava/lang/Object;"⟩).before a0 Z = true) (w2 : (Jvm.Cond.sameMethod ad "java/lang/Object" "clone" "()Ljava/lang/Object;").before a0 Z = true) (w3 : (Jvm.Cond.native ⟨"java/lang/Object", "clone", "()Ljava/lang/Object;"⟩).before a0 Z = true)
    (w4 : (Jvm.Cond.instanceMethod ⟨"java/lang/Object", "clone", "()Ljava/lang/Object;"⟩).before a0 Z = true) (w5 : (Jvm.Cond.selects ad ⟨ad, "clone", "()Ljava/lang/Object;"⟩ ⟨"java/lang/Object", "clone", "()Ljava/lang/Object;"⟩).before a0 Z = true) (w6 : (Jvm.Cond.castable ad "java/lang/Cloneable").before a0 Z = true)
    (eT : T.heap = h) {a : Addr} {ty : FieldType} {n : Nat} {f : Nat → Value} (F : Jar Z h a ty n f) (E : Exa Z h a ad) (hft : ∀ i, i < n → fits ty (f i) = true) {g : JFrame} (hg : g.method = m) (hsize : g.locals.size = c.maxLocals) {rest : List Value} (hs : g.stack = .ref a :: rest) (hd : decode c.code g.pc = .ok (.invokevirtual index, 3))
    (hf : 1 ≤ R.frames) {W cap : Nat} (hW : 2 * g.monitorRoom + (rest.map fun v => v.category).sum ≤ W) (hl : W + 14 ≤ R.locals) (hcap : n ≤ cap) (hc : cells + 1 ≤ R.cells) (hsl : slots + cap ≤ R.slots) :
    ∃ T' h', Stand p l e R s m args below meth c T' locs (cells + 1) (slots + cap) ∧ T'.heap = h' ∧ Ext h h' ∧ Jar Z h' h.size ty n f ∧ Exa Z h' h.size ad ∧
      ∀ target, Steps p.tables e below (T'.setTop { g with pc := g.pc + 3, stack := .ref h.size :: rest }) target → Steps p.tables e below (T.setTop g) target := by
  obtain ⟨cl, A, s1, s2⟩ := F
  have FC : FitC Z cl := fitC_of A fun i hi v hv => by rw [s2 i (s1 ▸ hi)] at hv; cases hv; exact hft i (s1 ▸ hi)
  obtain ⟨T', h', X', e', ex, A', E', st⟩ := cloneA X hx hZ hown w1 w2 w3 w4 w5 w6 eT A E FC hg hsize hs hd hf hW hl (by rw [s1]; exact hcap) hc hsl
  exact ⟨T', h', X', e', ex, ⟨cloneOf cl, A', s1, s2⟩, E', st⟩
theorem catR {v : Value} (h : v.isRef = true) : v.category = 1 := by cases v <;> first | rfl | (simp [Value.isRef] at h)
theorem narO {C : String} (v : Value) : narrow (.object C) v = v := by cases v <;> rfl
theorem fitO {C : String} {v : Value} (h : v.isRef = true) : fits (.object C) v = true := by cases v <;> first | rfl | (simp [Value.isRef] at h)
theorem own_len {s : State} {args : Array Value} {t : Term} {n : Int32} {ca : Addr} {c : Cell} (ev : t.eval args s none [] s = some (.ref ca)) (ha : s.arrayAt? ca = some c) (w : (Jvm.Cond.eq (.length t) (.int n)).value args s none s [] = some true) : c.slots.size < 2 ^ 31 ∧ c.slots.size.toInt32 = n := by
  by_cases h : c.slots.size < 2 ^ 31
  · refine ⟨h, ?_⟩
    simpa [Cond.value, Term.eval, ev, ha, h] using w
  · simp [Cond.value, Term.eval, ev, ha, h] at w
theorem own_nat {k : Nat} {n : Int32} {K : Nat} (h : k < 2 ^ 31) (e : k.toInt32 = n) (hn : n.toInt = K) : k = K := by
  have := len_toInt h
  rw [e, hn] at this
  omega
theorem own_elem {s : State} {args : Array Value} {C D E : String} {K : String} {ca : Addr} {c : Cell} {i : Nat} (ev : (Term.static C D E).eval args s none [] s = some (.ref ca)) (hc : s.heap[ca]? = some c) (hi : i < 2 ^ 31) (w : (Jvm.Cond.exactly ((Term.static C D E).elem (.index 0)) K).value args s none s [i] = some true) :
    ∃ b, c.slots[i]? = some (.ref b) ∧ Exa s s.heap b K := by
  obtain ⟨b, eb⟩ := exa_v w
  have ev' : (Term.static C D E).eval args s none [i] s = some (.ref ca) := ev
  have ei : (Term.index 0).eval args s none [i] s = some (.int i.toInt32) := Term.index_eval _
  have q := (elem_in eb ev' ei hc).2
  have en : i.toInt32.toNatClampNeg = i := by
    have := len_toInt hi
    have e : i.toInt32.toNatClampNeg = i.toInt32.toInt.toNat := rfl
    omega
  rw [en] at q
  exact ⟨b, q, exa_at eb w⟩
theorem own_eqI {s : State} {args : Array Value} {t : Term} {n : Int32} (w : (Jvm.Cond.eq t (.int n)).value args s none s [] = some true) : t.eval args s none [] s = some (.int n) := by
  cases ht : t.eval args s none [] s with
  | none => simp [Cond.value, ht] at w
  | some x => cases x <;> simp [Cond.value, Term.eval, ht] at w ⊢; exact w
/-- what a body that writes nothing and makes nothing leaves -/
def PQ (r : Option Value) (h0 : Heap) : Option Value → Heap → List Loc → Prop := fun v h L => v = r ∧ L = [] ∧ h = h0
/-- what the law leaves -/
def LQ (n0 : Nat) : Option Value → Heap → List Loc → Prop := fun v _ L => v = some (.int 1) ∧ Fr n0 L
end OwnKit
theorem pn_0 : plainName "com/example/broker_bench/brokerbench/driver/DurabilityEqualsPinLaw" = true := by first | (simp [plainName, overriddenIn]; done) | decide +kernel
theorem d1_0 : decode method_2_code 0 = .ok (.iload_n 0, 1) := by decide +kernel
theorem d1_1 : decode method_2_code 1 = .ok (.iconst 3, 1) := by decide +kernel
theorem d1_2 : decode method_2_code 2 = .ok (.iand, 1) := by decide +kernel
theorem d1_3 : decode method_2_code 3 = .ok (.istore_n 1, 1) := by decide +kernel
theorem d1_4 : decode method_2_code 4 = .ok (.iload_n 1, 1) := by decide +kernel
theorem d1_5 : decode method_2_code 5 = .ok (.ifCond .ne 7, 3) := by decide +kernel
theorem d1_8 : decode method_2_code 8 = .ok (.getstatic 7, 3) := by decide +kernel
theorem d1_11 : decode method_2_code 11 = .ok (.areturn, 1) := by decide +kernel
theorem d1_12 : decode method_2_code 12 = .ok (.iload_n 1, 1) := by decide +kernel
theorem d1_13 : decode method_2_code 13 = .ok (.iconst 1, 1) := by decide +kernel
theorem d1_14 : decode method_2_code 14 = .ok (.if_icmp .ne 7, 3) := by decide +kernel
theorem d1_17 : decode method_2_code 17 = .ok (.getstatic 13, 3) := by decide +kernel
theorem d1_20 : decode method_2_code 20 = .ok (.areturn, 1) := by decide +kernel
theorem d1_21 : decode method_2_code 21 = .ok (.iload_n 1, 1) := by decide +kernel
theorem d1_22 : decode method_2_code 22 = .ok (.iconst 2, 1) := by decide +kernel
theorem d1_23 : decode method_2_code 23 = .ok (.if_icmp .ne 7, 3) := by decide +kernel
theorem d1_26 : decode method_2_code 26 = .ok (.getstatic 16, 3) := by decide +kernel
theorem d1_29 : decode method_2_code 29 = .ok (.areturn, 1) := by decide +kernel
theorem d1_30 : decode method_2_code 30 = .ok (.aconst_null, 1) := by decide +kernel
theorem d1_31 : decode method_2_code 31 = .ok (.areturn, 1) := by decide +kernel
theorem pn_1 : plainName "com/example/broker_bench/brokerbench/driver/Durability" = true := by first | (simp [plainName, overriddenIn]; done) | decide +kernel
theorem d2_0 : decode prog_10_method_1_code 0 = .ok (.aload_n 0, 1) := by decide +kernel
theorem d2_1 : decode prog_10_method_1_code 1 = .ok (.invokespecial 1, 3) := by decide +kernel
theorem d2_4 : decode prog_10_method_1_code 4 = .ok (.aload_n 0, 1) := by decide +kernel
theorem d2_5 : decode prog_10_method_1_code 5 = .ok (.aload_n 1, 1) := by decide +kernel
theorem d2_6 : decode prog_10_method_1_code 6 = .ok (.putfield 7, 3) := by decide +kernel
theorem d2_9 : decode prog_10_method_1_code 9 = .ok (.aload_n 0, 1) := by decide +kernel
theorem d2_10 : decode prog_10_method_1_code 10 = .ok (.aload_n 2, 1) := by decide +kernel
theorem d2_11 : decode prog_10_method_1_code 11 = .ok (.putfield 13, 3) := by decide +kernel
theorem d2_14 : decode prog_10_method_1_code 14 = .ok (.return_, 1) := by decide +kernel
theorem d4_0 : decode prog_10_method_4_code 0 = .ok (.aload_n 1, 1) := by decide +kernel
theorem d4_1 : decode prog_10_method_4_code 1 = .ok (.instanceof 8, 3) := by decide +kernel
theorem d4_4 : decode prog_10_method_4_code 4 = .ok (.ifCond .eq 34, 3) := by decide +kernel
theorem d4_7 : decode prog_10_method_4_code 7 = .ok (.aload_n 1, 1) := by decide +kernel
theorem d4_8 : decode prog_10_method_4_code 8 = .ok (.checkcast 8, 3) := by decide +kernel
theorem d4_11 : decode prog_10_method_4_code 11 = .ok (.astore_n 2, 1) := by decide +kernel
theorem d4_12 : decode prog_10_method_4_code 12 = .ok (.aload_n 0, 1) := by decide +kernel
theorem d4_13 : decode prog_10_method_4_code 13 = .ok (.getfield 7, 3) := by decide +kernel
theorem d4_16 : decode prog_10_method_4_code 16 = .ok (.aload_n 2, 1) := by decide +kernel
theorem d4_17 : decode prog_10_method_4_code 17 = .ok (.getfield 7, 3) := by decide +kernel
theorem d4_20 : decode prog_10_method_4_code 20 = .ok (.if_acmp .ne 18, 3) := by decide +kernel
theorem d4_38 : decode prog_10_method_4_code 38 = .ok (.iconst 0, 1) := by decide +kernel
theorem d4_39 : decode prog_10_method_4_code 39 = .ok (.ireturn, 1) := by decide +kernel
theorem d4_23 : decode prog_10_method_4_code 23 = .ok (.aload_n 0, 1) := by decide +kernel
theorem d4_24 : decode prog_10_method_4_code 24 = .ok (.getfield 13, 3) := by decide +kernel
theorem d4_27 : decode prog_10_method_4_code 27 = .ok (.aload_n 2, 1) := by decide +kernel
theorem d4_28 : decode prog_10_method_4_code 28 = .ok (.getfield 13, 3) := by decide +kernel
theorem d4_31 : decode prog_10_method_4_code 31 = .ok (.if_acmp .ne 7, 3) := by decide +kernel
theorem d4_34 : decode prog_10_method_4_code 34 = .ok (.iconst 1, 1) := by decide +kernel
theorem d4_35 : decode prog_10_method_4_code 35 = .ok (.goto 4, 3) := by decide +kernel
theorem pn_2 : plainName "java/lang/Number" = true := by first | (simp [plainName, overriddenIn]; done) | decide +kernel
theorem d7_0 : decode jdk_18_method_1_code 0 = .ok (.aload_n 0, 1) := by decide +kernel
theorem d7_1 : decode jdk_18_method_1_code 1 = .ok (.invokespecial 1, 3) := by decide +kernel
theorem d7_4 : decode jdk_18_method_1_code 4 = .ok (.return_, 1) := by decide +kernel
theorem pn_3 : plainName "java/lang/Integer" = true := by first | (simp [plainName, overriddenIn]; done) | decide +kernel
theorem d6_0 : decode jdk_33_method_23_code 0 = .ok (.aload_n 0, 1) := by decide +kernel
theorem pd_0 : parseMethodDescriptor "()V" = some ⟨[], none⟩ := by decide +kernel
theorem d6_1 : decode jdk_33_method_23_code 1 = .ok (.invokespecial 202, 3) := by decide +kernel
theorem d6_4 : decode jdk_33_method_23_code 4 = .ok (.aload_n 0, 1) := by decide +kernel
theorem d6_5 : decode jdk_33_method_23_code 5 = .ok (.iload_n 1, 1) := by decide +kernel
theorem d6_6 : decode jdk_33_method_23_code 6 = .ok (.putfield 205, 3) := by decide +kernel
theorem d6_9 : decode jdk_33_method_23_code 9 = .ok (.return_, 1) := by decide +kernel
theorem d5_0 : decode jdk_33_method_22_code 0 = .ok (.iload_n 0, 1) := by decide +kernel
theorem d5_1 : decode jdk_33_method_22_code 1 = .ok (.bipush (-128), 2) := by decide +kernel
theorem d5_3 : decode jdk_33_method_22_code 3 = .ok (.if_icmp .lt 20, 3) := by decide +kernel
theorem d5_23 : decode jdk_33_method_22_code 23 = .ok (.new 1, 3) := by decide +kernel
theorem d5_26 : decode jdk_33_method_22_code 26 = .ok (.dup, 1) := by decide +kernel
theorem d5_27 : decode jdk_33_method_22_code 27 = .ok (.iload_n 0, 1) := by decide +kernel
theorem pd_1 : parseMethodDescriptor "(I)V" = some ⟨[.int], none⟩ := by decide +kernel
theorem d5_28 : decode jdk_33_method_22_code 28 = .ok (.invokespecial 199, 3) := by decide +kernel
theorem d5_31 : decode jdk_33_method_22_code 31 = .ok (.areturn, 1) := by decide +kernel
theorem d5_6 : decode jdk_33_method_22_code 6 = .ok (.iload_n 0, 1) := by decide +kernel
theorem d5_7 : decode jdk_33_method_22_code 7 = .ok (.getstatic 191, 3) := by decide +kernel
theorem d5_10 : decode jdk_33_method_22_code 10 = .ok (.if_icmp .gt 13, 3) := by decide +kernel
theorem d5_13 : decode jdk_33_method_22_code 13 = .ok (.getstatic 195, 3) := by decide +kernel
theorem d5_16 : decode jdk_33_method_22_code 16 = .ok (.iload_n 0, 1) := by decide +kernel
theorem d5_17 : decode jdk_33_method_22_code 17 = .ok (.sipush 128, 3) := by decide +kernel
theorem d5_20 : decode jdk_33_method_22_code 20 = .ok (.iadd, 1) := by decide +kernel
theorem d5_21 : decode jdk_33_method_22_code 21 = .ok (.aaload, 1) := by decide +kernel
theorem d5_22 : decode jdk_33_method_22_code 22 = .ok (.areturn, 1) := by decide +kernel
theorem pd_2 : parseMethodDescriptor "(I)Lcom/example/broker_bench/brokerbench/driver/Durability$Level;" = some ⟨[.int], some (.object "com/example/broker_bench/brokerbench/driver/Durability$Level")⟩ := by decide +kernel
theorem pd_3 : parseMethodDescriptor "(Lcom/example/broker_bench/brokerbench/driver/Durability$Level;Lcom/example/broker_bench/brokerbench/driver/Durability$Level;)V" = some ⟨[(.object "com/example/broker_bench/brokerbench/driver/Durability$Level"), (.object "com/example/broker_bench/brokerbench/driver/Durability$Level")], none⟩ := by decide +kernel
theorem pd_4 : parseMethodDescriptor "(Ljava/lang/Object;)Z" = some ⟨[(.object "java/lang/Object")], some .boolean⟩ := by decide +kernel
theorem pd_5 : parseMethodDescriptor "(I)Ljava/lang/Integer;" = some ⟨[.int], some (.object "java/lang/Integer")⟩ := by decide +kernel
def lvl (s0 s1 s2 : Addr) (k : Int32) : Value := if k = 0 then .ref s0 else if k = 1 then .ref s1 else if k = 2 then .ref s2 else .null
theorem lvl_ref (s0 s1 s2 : Addr) (k : Int32) : (lvl s0 s1 s2 k).isRef = true := by
  unfold lvl; repeat' split
  all_goals rfl
def Lev (Z : State) (s0 s1 s2 : Addr) : Prop := Sta Z Z.heap "com/example/broker_bench/brokerbench/driver/Durability$Level" "SYNC" "Lcom/example/broker_bench/brokerbench/driver/Durability$Level;" (.ref s0) ∧ Sta Z Z.heap "com/example/broker_bench/brokerbench/driver/Durability$Level" "ASYNC" "Lcom/example/broker_bench/brokerbench/driver/Durability$Level;" (.ref s1) ∧ Sta Z Z.heap "com/example/broker_bench/brokerbench/driver/Durability$Level" "NONE" "Lcom/example/broker_bench/brokerbench/driver/Durability$Level;" (.ref s2) ∧ s0 ≠ s1 ∧ s0 ≠ s2 ∧ s1 ≠ s2
theorem lvl_inj {s0 s1 s2 : Addr} (h1 : s0 ≠ s1) (h2 : s0 ≠ s2) (h3 : s1 ≠ s2) {a b : Int32} (ha : 0 ≤ a.toInt ∧ a.toInt ≤ 3) (hb : 0 ≤ b.toInt ∧ b.toInt ≤ 3) : lvl s0 s1 s2 a = lvl s0 s1 s2 b ↔ a = b := by
  have d : ∀ x : Int32, 0 ≤ x.toInt ∧ x.toInt ≤ 3 → x = 0 ∨ x = 1 ∨ x = 2 ∨ x = 3 := fun x hx => by
    simp only [← Int32.toInt_inj, Int32.reduceToInt]; omega
  rcases d a ha with rfl | rfl | rfl | rfl <;> rcases d b hb with rfl | rfl | rfl | rfl <;> simp [lvl, h1, h2, h3, Ne.symm h1, Ne.symm h2, Ne.symm h3]
theorem and3 (q : Int32) : 0 ≤ (q &&& (3 : Int32)).toInt ∧ (q &&& (3 : Int32)).toInt ≤ 3 := by
  have hm : (q &&& (3 : Int32)).toInt = q.toInt % 4 := c_mask q 3 2 (by decide) (by decide)
  omega
theorem ef_c_lev (m : MethodId) (x0 : Int32) : entryFrame m #[(.int x0)] 2 = mkF m 0 #[.val (.int x0), .unset] [] := by first | (simp [entryFrame, mkF, argsToLocals, Value.category]; done) | rfl
set_option maxRecDepth 65536 in
set_option maxHeartbeats 40000000 in
theorem c_lev (l : Launch) (Z : State) (a0 : Array Value) (hw : ∀ d ∈ tables_1, d.before a0 Z = true) (q : Int32) (s0 s1 s2 : Addr) (h0 : Heap) (n0 : Nat) (O : Old Z n0 h0) (LE : Lev Z s0 s1 s2) :
    Con l Z (⟨"com/example/broker_bench/brokerbench/driver/DurabilityEqualsPinLaw", "level", "(I)Lcom/example/broker_bench/brokerbench/driver/Durability$Level;"⟩ : MethodName) method_2_code 2 (some (.object "com/example/broker_bench/brokerbench/driver/Durability$Level")) ({ frames := 0, cells := 0, slots := 0, locals := 0 } : Room) #[(.int q)] h0 (PQ (some (lvl s0 s1 s2 (q &&& (3 : Int32)))) h0) := by
  refine Con.intro (plainFor_of_name pn_0) ?_
  intro p e s m below meth c s₁ hx hby hml hrt hlk hZ hown hnm X0 e0
  replace hown : s.vm.findClass "com/example/broker_bench/brokerbench/driver/DurabilityEqualsPinLaw" = some m.cls := hown
  refine GoOn.cast (ef_c_lev m q) ?_
  show GoOn p e below _ (s₁.setTop (mkF m 0 #[.val (.int q), .unset] []))
  obtain ⟨S0, S1, S2, -⟩ := LE
  replace S0 := S0.ext O.2
  replace S1 := S1.ext O.2
  replace S2 := S2.ext O.2
  refine GoOn.step (fun t₀ k₀ => XS.iloadN X0.here hx rfl (hb hby d1_0) rfl k₀) ?_
  show GoOn p e below _ (s₁.setTop (mkF m 1 #[.val (.int q), .unset] [(.int q)]))
  refine GoOn.step (fun t₀ k₀ => XS.iconst X0.here hx rfl (hb hby d1_1) k₀) ?_
  show GoOn p e below _ (s₁.setTop (mkF m 2 #[.val (.int q), .unset] [(.int (3 : Int32)), (.int q)]))
  refine GoOn.step (fun t₀ k₀ => XS.iand X0.here hx rfl (hb hby d1_2) rfl k₀) ?_
  show GoOn p e below _ (s₁.setTop (mkF m 3 #[.val (.int q), .unset] [(.int (q &&& (3 : Int32)))]))
  generalize hk : (q &&& (3 : Int32)) = k
  have hkI := congrArg Int32.toInt hk
  refine GoOn.step (fun t₀ k₀ => XS.istoreN X0.here hx rfl (hb hby d1_3) rfl (l' := #[.val (.int q), .val (.int k)]) rfl k₀) ?_
  show GoOn p e below _ (s₁.setTop (mkF m 4 #[.val (.int q), .val (.int k)] []))
  refine GoOn.step (fun t₀ k₀ => XS.iloadN X0.here hx rfl (hb hby d1_4) rfl k₀) ?_
  show GoOn p e below _ (s₁.setTop (mkF m 5 #[.val (.int q), .val (.int k)] [(.int k)]))
  by_cases c0 : k = (0 : Int32)
  · refine GoOn.step (fun t₀ k₀ => XS.ifNo X0.here hx rfl (hb hby d1_5) rfl ((if0 _ _).trans (teq c0).2) k₀) ?_
    show GoOn p e below _ (s₁.setTop (mkF m 8 #[.val (.int q), .val (.int k)] []))
    obtain ⟨T1, X1, e1, st1⟩ := getS2 X0 hx hZ hown (host := "") (Or.inl (hw _ (List.mem_of_getElem? (i := 7) rfl))) Via.refl e0 S0 (g := (mkF m 8 #[.val (.int q), .val (.int k)] [])) rfl (hb hby d1_8)
    refine GoOn.step st1 ?_
    show GoOn p e below _ (T1.setTop (mkF m 11 #[.val (.int q), .val (.int k)] [(.ref s0)]))
    exact GoOn.retR X1 hx hrt rfl hlk rfl (hb hby d1_11) (by decide) (by decide) (by first | exact ⟨by rw [lvl, if_pos c0], rfl, rfl⟩ | (rw [e1]; exact ⟨by rw [lvl, if_pos c0], rfl, rfl⟩))
  · refine GoOn.step (fun t₀ k₀ => XS.ifYes X0.here hx rfl (pc0 := 5) (pc' := 12) rfl (hb hby d1_5) rfl ((if0 _ _).trans (feq c0).2) (by decide) (by decide) k₀) ?_
    show GoOn p e below _ (s₁.setTop (mkF m 12 #[.val (.int q), .val (.int k)] []))
    refine GoOn.step (fun t₀ k₀ => XS.iloadN X0.here hx rfl (hb hby d1_12) rfl k₀) ?_
    show GoOn p e below _ (s₁.setTop (mkF m 13 #[.val (.int q), .val (.int k)] [(.int k)]))
    refine GoOn.step (fun t₀ k₀ => XS.iconst X0.here hx rfl (hb hby d1_13) k₀) ?_
    show GoOn p e below _ (s₁.setTop (mkF m 14 #[.val (.int q), .val (.int k)] [(.int (1 : Int32)), (.int k)]))
    by_cases c1 : k = (1 : Int32)
    · refine GoOn.step (fun t₀ k₀ => XS.icmpNo X0.here hx rfl (hb hby d1_14) rfl (teq c1).2 k₀) ?_
      show GoOn p e below _ (s₁.setTop (mkF m 17 #[.val (.int q), .val (.int k)] []))
      obtain ⟨T2, X2, e2, st2⟩ := getS2 X0 hx hZ hown (host := "") (Or.inl (hw _ (List.mem_of_getElem? (i := 22) rfl))) Via.refl e0 S1 (g := (mkF m 17 #[.val (.int q), .val (.int k)] [])) rfl (hb hby d1_17)
      refine GoOn.step st2 ?_
      show GoOn p e below _ (T2.setTop (mkF m 20 #[.val (.int q), .val (.int k)] [(.ref s1)]))
      exact GoOn.retR X2 hx hrt rfl hlk rfl (hb hby d1_20) (by decide) (by decide) (by first | exact ⟨by rw [lvl, if_neg c0, if_pos c1], rfl, rfl⟩ | (rw [e2]; exact ⟨by rw [lvl, if_neg c0, if_pos c1], rfl, rfl⟩))
    · refine GoOn.step (fun t₀ k₀ => XS.icmpYes X0.here hx rfl (pc0 := 14) (pc' := 21) rfl (hb hby d1_14) rfl (feq c1).2 (by decide) (by decide) k₀) ?_
      show GoOn p e below _ (s₁.setTop (mkF m 21 #[.val (.int q), .val (.int k)] []))
      refine GoOn.step (fun t₀ k₀ => XS.iloadN X0.here hx rfl (hb hby d1_21) rfl k₀) ?_
      show GoOn p e below _ (s₁.setTop (mkF m 22 #[.val (.int q), .val (.int k)] [(.int k)]))
      refine GoOn.step (fun t₀ k₀ => XS.iconst X0.here hx rfl (hb hby d1_22) k₀) ?_
      show GoOn p e below _ (s₁.setTop (mkF m 23 #[.val (.int q), .val (.int k)] [(.int (2 : Int32)), (.int k)]))
      by_cases c2 : k = (2 : Int32)
      · refine GoOn.step (fun t₀ k₀ => XS.icmpNo X0.here hx rfl (hb hby d1_23) rfl (teq c2).2 k₀) ?_
        show GoOn p e below _ (s₁.setTop (mkF m 26 #[.val (.int q), .val (.int k)] []))
        obtain ⟨T3, X3, e3, st3⟩ := getS2 X0 hx hZ hown (host := "") (Or.inl (hw _ (List.mem_of_getElem? (i := 20) rfl))) Via.refl e0 S2 (g := (mkF m 26 #[.val (.int q), .val (.int k)] [])) rfl (hb hby d1_26)
        refine GoOn.step st3 ?_
        show GoOn p e below _ (T3.setTop (mkF m 29 #[.val (.int q), .val (.int k)] [(.ref s2)]))
        exact GoOn.retR X3 hx hrt rfl hlk rfl (hb hby d1_29) (by decide) (by decide) (by first | exact ⟨by rw [lvl, if_neg c0, if_neg c1, if_pos c2], rfl, rfl⟩ | (rw [e3]; exact ⟨by rw [lvl, if_neg c0, if_neg c1, if_pos c2], rfl, rfl⟩))
      · refine GoOn.step (fun t₀ k₀ => XS.icmpYes X0.here hx rfl (pc0 := 23) (pc' := 30) rfl (hb hby d1_23) rfl (feq c2).2 (by decide) (by decide) k₀) ?_
        show GoOn p e below _ (s₁.setTop (mkF m 30 #[.val (.int q), .val (.int k)] []))
        refine GoOn.step (fun t₀ k₀ => XS.aconstNull X0.here hx rfl (hb hby d1_30) k₀) ?_
        show GoOn p e below _ (s₁.setTop (mkF m 31 #[.val (.int q), .val (.int k)] [.null]))
        exact GoOn.retR X0 hx hrt rfl hlk rfl (hb hby d1_31) (by decide) (by decide) (by first | exact ⟨by rw [lvl, if_neg c0, if_neg c1, if_neg c2], rfl, rfl⟩ | (rw [e0]; exact ⟨by rw [lvl, if_neg c0, if_neg c1, if_neg c2], rfl, rfl⟩))
def DuQ (Z : State) (a : Addr) (v1 v2 : Value) (h0 : Heap) (n0 : Nat) : Option Value → Heap → List Loc → Prop := fun r h L => r = none ∧ Fr n0 L ∧ Keep h0 h [a] ∧ Fld Z h a "com/example/broker_bench/brokerbench/driver/Durability" "replication" "Lcom/example/broker_bench/brokerbench/driver/Durability$Level;" v1 ∧ Fld Z h a "com/example/broker_bench/brokerbench/driver/Durability" "localFlush" "Lcom/example/broker_bench/brokerbench/driver/Durability$Level;" v2
theorem ef_c_ini (m : MethodId) (x0 : Addr) (x1 : Value) (hx1 : x1.isRef = true) (x2 : Value) (hx2 : x2.isRef = true) : entryFrame m #[(.ref x0), x1, x2] 3 = mkF m 0 #[.val (.ref x0), .val x1, .val x2] [] := by (rcases ref_cases hx1 with rfl | ⟨_, rfl⟩) <;> (rcases ref_cases hx2 with rfl | ⟨_, rfl⟩) <;> first | (simp [entryFrame, mkF, argsToLocals, Value.category]; done) | rfl
set_option maxRecDepth 65536 in
set_option maxHeartbeats 40000000 in
theorem c_ini (l : Launch) (Z : State) (a0 : Array Value) (hw : ∀ d ∈ tables_1, d.before a0 Z = true) (a : Addr) (v1 v2 : Value) (h0 : Heap) (n0 : Nat) (Z0 : n0 ≤ h0.size) (r1 : v1.isRef = true) (r2 : v2.isRef = true) (Ex : Exa Z h0 a "com/example/broker_bench/brokerbench/driver/Durability") (Fr_ : Fld Z h0 a "com/example/broker_bench/brokerbench/driver/Durability" "replication" "Lcom/example/broker_bench/brokerbench/driver/Durability$Level;" .null) (Fl_ : Fld Z h0 a "com/example/broker_bench/brokerbench/driver/Durability" "localFlush" "Lcom/example/broker_bench/brokerbench/driver/Durability$Level;" .null) (ga : n0 ≤ a) :
    Con l Z (⟨"com/example/broker_bench/brokerbench/driver/Durability", "<init>", "(Lcom/example/broker_bench/brokerbench/driver/Durability$Level;Lcom/example/broker_bench/brokerbench/driver/Durability$Level;)V"⟩ : MethodName) prog_10_method_1_code 3 none ({ frames := 1, cells := 0, slots := 0, locals := 12 } : Room) #[(.ref a), v1, v2] h0 (DuQ Z a v1 v2 h0 n0) := by
  refine Con.intro (plainFor_of_name pn_1) ?_
  intro p e s m below meth c s₁ hx hby hml hrt hlk hZ hown hnm X0 e0
  replace hown : s.vm.findClass "com/example/broker_bench/brokerbench/driver/Durability" = some m.cls := hown
  have N0 := Fr.nil n0
  refine GoOn.cast (ef_c_ini m a v1 r1 v2 r2) ?_
  show GoOn p e below _ (s₁.setTop (mkF m 0 #[.val (.ref a), .val v1, .val v2] []))
  have K0 : Keep h0 h0 [a] := Keep.refl _ _
  refine GoOn.step (fun t₀ k₀ => XS.aloadN X0.here hx rfl (hb hby d2_0) rfl rfl k₀) ?_
  show GoOn p e below _ (s₁.setTop (mkF m 1 #[.val (.ref a), .val v1, .val v2] [(.ref a)]))
  obtain ⟨T4, X4, e4, st4⟩ := initO X0 hx hZ hown (hw _ (List.mem_of_getElem? (i := 13) rfl)) (hw _ (List.mem_of_getElem? (i := 14) rfl)) (hw _ (List.mem_of_getElem? (i := 15) rfl)) e0 (g := (mkF m 1 #[.val (.ref a), .val v1, .val v2] [(.ref a)])) rfl (by rw [hml]; rfl) rfl (hb hby d2_1) (by decide) (W := 0) (by show 2 * 0 + _ ≤ _; exact Nat.le_of_eq rfl) (by decide)
  refine GoOn.step st4 ?_
  show GoOn p e below _ (T4.setTop (mkF m 4 #[.val (.ref a), .val v1, .val v2] []))
  refine GoOn.step (fun t₀ k₀ => XS.aloadN X4.here hx rfl (hb hby d2_4) rfl rfl k₀) ?_
  show GoOn p e below _ (T4.setTop (mkF m 5 #[.val (.ref a), .val v1, .val v2] [(.ref a)]))
  refine GoOn.step (fun t₀ k₀ => XS.aloadN X4.here hx rfl (hb hby d2_5) rfl r1 k₀) ?_
  show GoOn p e below _ (T4.setTop (mkF m 6 #[.val (.ref a), .val v1, .val v2] [v1, (.ref a)]))
  obtain ⟨T5, h5, X5, e5, W5, st5⟩ := putF X4 hx hZ hown (host := "") (Or.inl (hw _ (List.mem_of_getElem? (i := 16) rfl))) Via.refl e4 Fr_ Ex (Or.inr ⟨(hw _ (List.mem_of_getElem? (i := 17) rfl)), rfl, hnm⟩) (hw _ (List.mem_of_getElem? (i := 1) rfl)) (ty := (.object "com/example/broker_bench/brokerbench/driver/Durability$Level")) (by decide) (narO _) (fitO r1) (g := (mkF m 6 #[.val (.ref a), .val v1, .val v2] [v1, (.ref a)])) rfl rfl (hb hby d2_6)
  replace N0 := Fr.snoc X5 N0 ga
  replace Ex := Ex.wr W5
  replace Fr_ := Fld.same W5 Fr_
  replace Fl_ := Fl_.other W5 (Or.inr (slot_ne (Or.inr (hw _ (List.mem_of_getElem? (i := 19) rfl))) (Or.inr (hw _ (List.mem_of_getElem? (i := 17) rfl))) (by decide) (t := (.object "com/example/broker_bench/brokerbench/driver/Durability$Level")) (t' := (.object "com/example/broker_bench/brokerbench/driver/Durability$Level")) (by decide) (by decide)))
  replace Z0 := Nat.le_trans Z0 (Nat.le_of_eq W5.size.symm)
  replace K0 := K0.wr W5 (Or.inl (by simp))
  refine GoOn.step st5 ?_
  show GoOn p e below _ (T5.setTop (mkF m 9 #[.val (.ref a), .val v1, .val v2] []))
  refine GoOn.step (fun t₀ k₀ => XS.aloadN X5.here hx rfl (hb hby d2_9) rfl rfl k₀) ?_
  show GoOn p e below _ (T5.setTop (mkF m 10 #[.val (.ref a), .val v1, .val v2] [(.ref a)]))
  refine GoOn.step (fun t₀ k₀ => XS.aloadN X5.here hx rfl (hb hby d2_10) rfl r2 k₀) ?_
  show GoOn p e below _ (T5.setTop (mkF m 11 #[.val (.ref a), .val v1, .val v2] [v2, (.ref a)]))
  obtain ⟨T6, h6, X6, e6, W6, st6⟩ := putF X5 hx hZ hown (host := "") (Or.inl (hw _ (List.mem_of_getElem? (i := 18) rfl))) Via.refl e5 Fl_ Ex (Or.inr ⟨(hw _ (List.mem_of_getElem? (i := 19) rfl)), rfl, hnm⟩) (hw _ (List.mem_of_getElem? (i := 1) rfl)) (ty := (.object "com/example/broker_bench/brokerbench/driver/Durability$Level")) (by decide) (narO _) (fitO r2) (g := (mkF m 11 #[.val (.ref a), .val v1, .val v2] [v2, (.ref a)])) rfl rfl (hb hby d2_11)
  replace N0 := Fr.snoc X6 N0 ga
  replace Ex := Ex.wr W6
  replace Fr_ := Fr_.other W6 (Or.inr (slot_ne (Or.inr (hw _ (List.mem_of_getElem? (i := 17) rfl))) (Or.inr (hw _ (List.mem_of_getElem? (i := 19) rfl))) (by decide) (t := (.object "com/example/broker_bench/brokerbench/driver/Durability$Level")) (t' := (.object "com/example/broker_bench/brokerbench/driver/Durability$Level")) (by decide) (by decide)))
  replace Fl_ := Fld.same W6 Fl_
  replace Z0 := Nat.le_trans Z0 (Nat.le_of_eq W6.size.symm)
  replace K0 := K0.wr W6 (Or.inl (by simp))
  refine GoOn.step st6 ?_
  show GoOn p e below _ (T6.setTop (mkF m 14 #[.val (.ref a), .val v1, .val v2] []))
  exact GoOn.ret0 X6 hx hrt hlk (hb hby d2_14) (by decide) (by decide) (by first | exact ⟨rfl, N0, K0, Fr_, Fl_⟩ | (rw [e6]; exact ⟨rfl, N0, K0, Fr_, Fl_⟩))
theorem ef_c_eqs (m : MethodId) (x0 : Addr) (x1 : Addr) : entryFrame m #[(.ref x0), (.ref x1)] 3 = mkF m 0 #[.val (.ref x0), .val (.ref x1), .unset] [] := by first | (simp [entryFrame, mkF, argsToLocals, Value.category]; done) | rfl
set_option maxRecDepth 65536 in
set_option maxHeartbeats 40000000 in
theorem c_eqs (l : Launch) (Z : State) (a0 : Array Value) (hw : ∀ d ∈ tables_1, d.before a0 Z = true) (a b : Addr) (v1 v2 w1 w2 : Value) (h0 : Heap) (r_v1 : v1.isRef = true) (r_v2 : v2.isRef = true) (r_w1 : w1.isRef = true) (r_w2 : w2.isRef = true) (Ea : Exa Z h0 a "com/example/broker_bench/brokerbench/driver/Durability") (Eb : Exa Z h0 b "com/example/broker_bench/brokerbench/driver/Durability") (F1 : Fld Z h0 a "com/example/broker_bench/brokerbench/driver/Durability" "replication" "Lcom/example/broker_bench/brokerbench/driver/Durability$Level;" v1) (F2 : Fld Z h0 a "com/example/broker_bench/brokerbench/driver/Durability" "localFlush" "Lcom/example/broker_bench/brokerbench/driver/Durability$Level;" v2) (G1 : Fld Z h0 b "com/example/broker_bench/brokerbench/driver/Durability" "replication" "Lcom/example/broker_bench/brokerbench/driver/Durability$Level;" w1) (G2 : Fld Z h0 b "com/example/broker_bench/brokerbench/driver/Durability" "localFlush" "Lcom/example/broker_bench/brokerbench/driver/Durability$Level;" w2) :
    Con l Z (⟨"com/example/broker_bench/brokerbench/driver/Durability", "equals", "(Ljava/lang/Object;)Z"⟩ : MethodName) prog_10_method_4_code 3 (some .boolean) ({ frames := 0, cells := 0, slots := 0, locals := 0 } : Room) #[(.ref a), (.ref b)] h0 (PQ (some (.int (if v1 = w1 then (if v2 = w2 then (1 : Int32) else 0) else 0))) h0) := by
  refine Con.intro (plainFor_of_name pn_1) ?_
  intro p e s m below meth c s₁ hx hby hml hrt hlk hZ hown hnm X0 e0
  replace hown : s.vm.findClass "com/example/broker_bench/brokerbench/driver/Durability" = some m.cls := hown
  refine GoOn.cast (ef_c_eqs m a b) ?_
  show GoOn p e below _ (s₁.setTop (mkF m 0 #[.val (.ref a), .val (.ref b), .unset] []))
  refine GoOn.step (fun t₀ k₀ => XS.aloadN X0.here hx rfl (hb hby d4_0) rfl rfl k₀) ?_
  show GoOn p e below _ (s₁.setTop (mkF m 1 #[.val (.ref a), .val (.ref b), .unset] [(.ref b)]))
  obtain ⟨T7, X7, e7, st7⟩ := instY X0 hx hZ hown (hw _ (List.mem_of_getElem? (i := 29) rfl)) e0 (Ins.self Eb) (g := (mkF m 1 #[.val (.ref a), .val (.ref b), .unset] [(.ref b)])) rfl rfl (hb hby d4_1)
  refine GoOn.step st7 ?_
  show GoOn p e below _ (T7.setTop (mkF m 4 #[.val (.ref a), .val (.ref b), .unset] [(.int (1 : Int32))]))
  have hf8 : ¬ ((1 : Int32) = (0 : Int32)) := (by decide)
  refine GoOn.step (fun t₀ k₀ => XS.ifNo X7.here hx rfl (hb hby d4_4) rfl ((if0 _ _).trans (feq hf8).1) k₀) ?_
  show GoOn p e below _ (T7.setTop (mkF m 7 #[.val (.ref a), .val (.ref b), .unset] []))
  refine GoOn.step (fun t₀ k₀ => XS.aloadN X7.here hx rfl (hb hby d4_7) rfl rfl k₀) ?_
  show GoOn p e below _ (T7.setTop (mkF m 8 #[.val (.ref a), .val (.ref b), .unset] [(.ref b)]))
  obtain ⟨T9, X9, e9, st9⟩ := castY X7 hx hZ hown (hw _ (List.mem_of_getElem? (i := 29) rfl)) e7 (Ins.self Eb) (g := (mkF m 8 #[.val (.ref a), .val (.ref b), .unset] [(.ref b)])) rfl rfl (hb hby d4_8)
  refine GoOn.step st9 ?_
  show GoOn p e below _ (T9.setTop (mkF m 11 #[.val (.ref a), .val (.ref b), .unset] [(.ref b)]))
  refine GoOn.step (fun t₀ k₀ => XS.astoreN X9.here hx rfl (hb hby d4_11) rfl rfl (l' := #[.val (.ref a), .val (.ref b), .val (.ref b)]) rfl k₀) ?_
  show GoOn p e below _ (T9.setTop (mkF m 12 #[.val (.ref a), .val (.ref b), .val (.ref b)] []))
  refine GoOn.step (fun t₀ k₀ => XS.aloadN X9.here hx rfl (hb hby d4_12) rfl rfl k₀) ?_
  show GoOn p e below _ (T9.setTop (mkF m 13 #[.val (.ref a), .val (.ref b), .val (.ref b)] [(.ref a)]))
  obtain ⟨T10, X10, e10, st10⟩ := getF X9 hx hZ hown (host := "") (Or.inl (hw _ (List.mem_of_getElem? (i := 16) rfl))) Via.refl e9 F1 (g := (mkF m 13 #[.val (.ref a), .val (.ref b), .val (.ref b)] [(.ref a)])) rfl rfl (hb hby d4_13)
  refine GoOn.step st10 ?_
  show GoOn p e below _ (T10.setTop (mkF m 16 #[.val (.ref a), .val (.ref b), .val (.ref b)] [v1]))
  refine GoOn.step (fun t₀ k₀ => XS.aloadN X10.here hx rfl (hb hby d4_16) rfl rfl k₀) ?_
  show GoOn p e below _ (T10.setTop (mkF m 17 #[.val (.ref a), .val (.ref b), .val (.ref b)] [(.ref b), v1]))
  obtain ⟨T11, X11, e11, st11⟩ := getF X10 hx hZ hown (host := "") (Or.inl (hw _ (List.mem_of_getElem? (i := 16) rfl))) Via.refl e10 G1 (g := (mkF m 17 #[.val (.ref a), .val (.ref b), .val (.ref b)] [(.ref b), v1])) rfl rfl (hb hby d4_17)
  refine GoOn.step st11 ?_
  show GoOn p e below _ (T11.setTop (mkF m 20 #[.val (.ref a), .val (.ref b), .val (.ref b)] [w1, v1]))
  by_cases c0 : v1 = w1
  · refine GoOn.step (fun t₀ k₀ => Jvm.RoadKit.acmp (g := (mkF m 20 #[.val (.ref a), .val (.ref b), .val (.ref b)] [w1, v1])) X11 hx rfl r_v1 r_w1 (pc0 := 20) (pc' := 23) (same := true) rfl (hb hby d4_20) rfl (decide_eq_true c0) (by decide) (by decide) k₀) ?_
    show GoOn p e below _ (T11.setTop (mkF m 23 #[.val (.ref a), .val (.ref b), .val (.ref b)] []))
    refine GoOn.step (fun t₀ k₀ => XS.aloadN X11.here hx rfl (hb hby d4_23) rfl rfl k₀) ?_
    show GoOn p e below _ (T11.setTop (mkF m 24 #[.val (.ref a), .val (.ref b), .val (.ref b)] [(.ref a)]))
    obtain ⟨T12, X12, e12, st12⟩ := getF X11 hx hZ hown (host := "") (Or.inl (hw _ (List.mem_of_getElem? (i := 18) rfl))) Via.refl e11 F2 (g := (mkF m 24 #[.val (.ref a), .val (.ref b), .val (.ref b)] [(.ref a)])) rfl rfl (hb hby d4_24)
    refine GoOn.step st12 ?_
    show GoOn p e below _ (T12.setTop (mkF m 27 #[.val (.ref a), .val (.ref b), .val (.ref b)] [v2]))
    refine GoOn.step (fun t₀ k₀ => XS.aloadN X12.here hx rfl (hb hby d4_27) rfl rfl k₀) ?_
    show GoOn p e below _ (T12.setTop (mkF m 28 #[.val (.ref a), .val (.ref b), .val (.ref b)] [(.ref b), v2]))
    obtain ⟨T13, X13, e13, st13⟩ := getF X12 hx hZ hown (host := "") (Or.inl (hw _ (List.mem_of_getElem? (i := 18) rfl))) Via.refl e12 G2 (g := (mkF m 28 #[.val (.ref a), .val (.ref b), .val (.ref b)] [(.ref b), v2])) rfl rfl (hb hby d4_28)
    refine GoOn.step st13 ?_
    show GoOn p e below _ (T13.setTop (mkF m 31 #[.val (.ref a), .val (.ref b), .val (.ref b)] [w2, v2]))
    by_cases c1 : v2 = w2
    · refine GoOn.step (fun t₀ k₀ => Jvm.RoadKit.acmp (g := (mkF m 31 #[.val (.ref a), .val (.ref b), .val (.ref b)] [w2, v2])) X13 hx rfl r_v2 r_w2 (pc0 := 31) (pc' := 34) (same := true) rfl (hb hby d4_31) rfl (decide_eq_true c1) (by decide) (by decide) k₀) ?_
      show GoOn p e below _ (T13.setTop (mkF m 34 #[.val (.ref a), .val (.ref b), .val (.ref b)] []))
      refine GoOn.step (fun t₀ k₀ => XS.iconst X13.here hx rfl (hb hby d4_34) k₀) ?_
      show GoOn p e below _ (T13.setTop (mkF m 35 #[.val (.ref a), .val (.ref b), .val (.ref b)] [(.int (1 : Int32))]))
      refine GoOn.step (fun t₀ k₀ => XS.goto X13.here hx rfl (pc0 := 35) (pc' := 39) rfl (hb hby d4_35) (by decide) (by decide) k₀) ?_
      show GoOn p e below _ (T13.setTop (mkF m 39 #[.val (.ref a), .val (.ref b), .val (.ref b)] [(.int (1 : Int32))]))
      exact GoOn.retN X13 hx hrt hlk (by simp) (hb hby d4_39) (by decide) (by decide) (by first | exact ⟨by rw [if_pos c0, if_pos c1]; rfl, rfl, rfl⟩ | (rw [e13]; exact ⟨by rw [if_pos c0, if_pos c1]; rfl, rfl, rfl⟩))
    · refine GoOn.step (fun t₀ k₀ => Jvm.RoadKit.acmp (g := (mkF m 31 #[.val (.ref a), .val (.ref b), .val (.ref b)] [w2, v2])) X13 hx rfl r_v2 r_w2 (pc0 := 31) (pc' := 38) (same := false) rfl (hb hby d4_31) rfl (decide_eq_false c1) (by decide) (by decide) k₀) ?_
      show GoOn p e below _ (T13.setTop (mkF m 38 #[.val (.ref a), .val (.ref b), .val (.ref b)] []))
      refine GoOn.step (fun t₀ k₀ => XS.iconst X13.here hx rfl (hb hby d4_38) k₀) ?_
      show GoOn p e below _ (T13.setTop (mkF m 39 #[.val (.ref a), .val (.ref b), .val (.ref b)] [(.int (0 : Int32))]))
      exact GoOn.retN X13 hx hrt hlk (by simp) (hb hby d4_39) (by decide) (by decide) (by first | exact ⟨by rw [if_pos c0, if_neg c1]; rfl, rfl, rfl⟩ | (rw [e13]; exact ⟨by rw [if_pos c0, if_neg c1]; rfl, rfl, rfl⟩))
  · refine GoOn.step (fun t₀ k₀ => Jvm.RoadKit.acmp (g := (mkF m 20 #[.val (.ref a), .val (.ref b), .val (.ref b)] [w1, v1])) X11 hx rfl r_v1 r_w1 (pc0 := 20) (pc' := 38) (same := false) rfl (hb hby d4_20) rfl (decide_eq_false c0) (by decide) (by decide) k₀) ?_
    show GoOn p e below _ (T11.setTop (mkF m 38 #[.val (.ref a), .val (.ref b), .val (.ref b)] []))
    refine GoOn.step (fun t₀ k₀ => XS.iconst X11.here hx rfl (hb hby d4_38) k₀) ?_
    show GoOn p e below _ (T11.setTop (mkF m 39 #[.val (.ref a), .val (.ref b), .val (.ref b)] [(.int (0 : Int32))]))
    exact GoOn.retN X11 hx hrt hlk (by simp) (hb hby d4_39) (by decide) (by decide) (by first | exact ⟨by rw [if_neg c0]; rfl, rfl, rfl⟩ | (rw [e11]; exact ⟨by rw [if_neg c0]; rfl, rfl, rfl⟩))
theorem ef_c_eqn (m : MethodId) (x0 : Addr) : entryFrame m #[(.ref x0), .null] 3 = mkF m 0 #[.val (.ref x0), .val .null, .unset] [] := by first | (simp [entryFrame, mkF, argsToLocals, Value.category]; done) | rfl
set_option maxRecDepth 65536 in
set_option maxHeartbeats 40000000 in
theorem c_eqn (l : Launch) (Z : State) (a0 : Array Value) (hw : ∀ d ∈ tables_1, d.before a0 Z = true) (a : Addr) (h0 : Heap)  :
    Con l Z (⟨"com/example/broker_bench/brokerbench/driver/Durability", "equals", "(Ljava/lang/Object;)Z"⟩ : MethodName) prog_10_method_4_code 3 (some .boolean) ({ frames := 0, cells := 0, slots := 0, locals := 0 } : Room) #[(.ref a), .null] h0 (PQ (some (.int 0)) h0) := by
  refine Con.intro (plainFor_of_name pn_1) ?_
  intro p e s m below meth c s₁ hx hby hml hrt hlk hZ hown hnm X0 e0
  replace hown : s.vm.findClass "com/example/broker_bench/brokerbench/driver/Durability" = some m.cls := hown
  refine GoOn.cast (ef_c_eqn m a) ?_
  show GoOn p e below _ (s₁.setTop (mkF m 0 #[.val (.ref a), .val .null, .unset] []))
  refine GoOn.step (fun t₀ k₀ => XS.aloadN X0.here hx rfl (hb hby d4_0) rfl rfl k₀) ?_
  show GoOn p e below _ (s₁.setTop (mkF m 1 #[.val (.ref a), .val .null, .unset] [.null]))
  refine GoOn.step (fun t₀ k₀ => X0.instanceofNull hx (g := (mkF m 1 #[.val (.ref a), .val .null, .unset] [.null])) rfl rfl (hb hby d4_1) t₀ k₀) ?_
  show GoOn p e below _ (s₁.setTop (mkF m 4 #[.val (.ref a), .val .null, .unset] [(.int (0 : Int32))]))
  have hf14 : (0 : Int32) = (0 : Int32) := rfl
  refine GoOn.step (fun t₀ k₀ => XS.ifYes X0.here hx rfl (pc0 := 4) (pc' := 38) rfl (hb hby d4_4) rfl ((if0 _ _).trans (teq hf14).1) (by decide) (by decide) k₀) ?_
  show GoOn p e below _ (s₁.setTop (mkF m 38 #[.val (.ref a), .val .null, .unset] []))
  refine GoOn.step (fun t₀ k₀ => XS.iconst X0.here hx rfl (hb hby d4_38) k₀) ?_
  show GoOn p e below _ (s₁.setTop (mkF m 39 #[.val (.ref a), .val .null, .unset] [(.int (0 : Int32))]))
  exact GoOn.retN X0 hx hrt hlk (by simp) (hb hby d4_39) (by decide) (by decide) (by first | exact ⟨rfl, rfl, rfl⟩ | (rw [e0]; exact ⟨rfl, rfl, rfl⟩))
theorem noInt {Z : State} {a0 : Array Value} (hw : ∀ d ∈ tables_1, d.before a0 Z = true) : ∃ c t, Z.vm.findClass "java/lang/Integer" = some c ∧ Z.vm.findClass "com/example/broker_bench/brokerbench/driver/Durability" = some t ∧ Z.vm.assignable c t = false := by
  have w1 : (Jvm.Cond.superclass "java/lang/Integer" "java/lang/Number").before a0 Z = true := (hw _ (List.mem_of_getElem? (i := 38) rfl))
  have w2 : (Jvm.Cond.superclass "java/lang/Number" "java/lang/Object").before a0 Z = true := (hw _ (List.mem_of_getElem? (i := 39) rfl))
  have w3 : (Jvm.Cond.noSuperclass "java/lang/Object").before a0 Z = true := (hw _ (List.mem_of_getElem? (i := 40) rfl))
  have w4 := (hw _ (List.mem_of_getElem? (i := 1) rfl))
  obtain ⟨t, kt, g1, g2, g3, -⟩ := Cond.instantiable_spec w4
  have nf := notFace_of_selects (args := a0) (hw _ (List.mem_of_getElem? (i := 27) rfl))
  obtain ⟨mk, -, hm, -⟩ := Cond.instanceMethod_spec (hw _ (List.mem_of_getElem? (i := 26) rfl))
  obtain ⟨kr, r1, r2⟩ := nf mk hm
  cases (findClass_of_methodNamed hm).symm.trans g1
  cases r1.symm.trans g2
  have root : NS Z "java/lang/Object" "com/example/broker_bench/brokerbench/driver/Durability" := by
    obtain ⟨c, k, h1, h2, h3, -, -⟩ := Cond.noSuperclass_spec w3
    have ne := ids_ne h1 g1 (by decide)
    refine ⟨c, _, h1, g1, fun fuel => ?_⟩
    cases fuel with
    | zero => rfl
    | succ f => simp [Vm.isSubclassAux, ne, h2, h3]
  obtain ⟨c, t, h0, g0, n3⟩ := NS.step w1 (NS.step w2 root (by decide)) (by decide)
  cases g0.symm.trans g1
  obtain ⟨p, k, kp, h1, h2, h3, h4, h5, -, h7⟩ := Cond.superclass_spec h0 w1
  have ne := ids_ne h0 g0 (by decide)
  refine ⟨c, _, h0, g0, ?_⟩
  show Z.vm.assignableAux (255 + 1) c _ = false
  simp [Vm.assignableAux, ne, h2, g2, h5, g3, r2, Vm.isSubclass, n3]
theorem ef_c_eql (m : MethodId) (x0 : Addr) (x1 : Addr) : entryFrame m #[(.ref x0), (.ref x1)] 3 = mkF m 0 #[.val (.ref x0), .val (.ref x1), .unset] [] := by first | (simp [entryFrame, mkF, argsToLocals, Value.category]; done) | rfl
set_option maxRecDepth 65536 in
set_option maxHeartbeats 40000000 in
theorem c_eql (l : Launch) (Z : State) (a0 : Array Value) (hw : ∀ d ∈ tables_1, d.before a0 Z = true) (a b : Addr) (h0 : Heap) (Eb : Exa Z h0 b "java/lang/Integer") :
    Con l Z (⟨"com/example/broker_bench/brokerbench/driver/Durability", "equals", "(Ljava/lang/Object;)Z"⟩ : MethodName) prog_10_method_4_code 3 (some .boolean) ({ frames := 0, cells := 0, slots := 0, locals := 0 } : Room) #[(.ref a), (.ref b)] h0 (PQ (some (.int 0)) h0) := by
  refine Con.intro (plainFor_of_name pn_1) ?_
  intro p e s m below meth c s₁ hx hby hml hrt hlk hZ hown hnm X0 e0
  replace hown : s.vm.findClass "com/example/broker_bench/brokerbench/driver/Durability" = some m.cls := hown
  refine GoOn.cast (ef_c_eql m a b) ?_
  show GoOn p e below _ (s₁.setTop (mkF m 0 #[.val (.ref a), .val (.ref b), .unset] []))
  refine GoOn.step (fun t₀ k₀ => XS.aloadN X0.here hx rfl (hb hby d4_0) rfl rfl k₀) ?_
  show GoOn p e below _ (s₁.setTop (mkF m 1 #[.val (.ref a), .val (.ref b), .unset] [(.ref b)]))
  obtain ⟨T15, X15, e15, st15⟩ := instNo X0 hx hZ hown (hw _ (List.mem_of_getElem? (i := 29) rfl)) e0 Eb (noInt hw) (g := (mkF m 1 #[.val (.ref a), .val (.ref b), .unset] [(.ref b)])) rfl rfl (hb hby d4_1)
  refine GoOn.step st15 ?_
  show GoOn p e below _ (T15.setTop (mkF m 4 #[.val (.ref a), .val (.ref b), .unset] [(.int (0 : Int32))]))
  have hf16 : (0 : Int32) = (0 : Int32) := rfl
  refine GoOn.step (fun t₀ k₀ => XS.ifYes X15.here hx rfl (pc0 := 4) (pc' := 38) rfl (hb hby d4_4) rfl ((if0 _ _).trans (teq hf16).1) (by decide) (by decide) k₀) ?_
  show GoOn p e below _ (T15.setTop (mkF m 38 #[.val (.ref a), .val (.ref b), .unset] []))
  refine GoOn.step (fun t₀ k₀ => XS.iconst X15.here hx rfl (hb hby d4_38) k₀) ?_
  show GoOn p e below _ (T15.setTop (mkF m 39 #[.val (.ref a), .val (.ref b), .unset] [(.int (0 : Int32))]))
  exact GoOn.retN X15 hx hrt hlk (by simp) (hb hby d4_39) (by decide) (by decide) (by first | exact ⟨rfl, rfl, rfl⟩ | (rw [e15]; exact ⟨rfl, rfl, rfl⟩))
theorem ef_c_num (m : MethodId) (x0 : Addr) : entryFrame m #[(.ref x0)] 1 = mkF m 0 #[.val (.ref x0)] [] := by first | (simp [entryFrame, mkF, argsToLocals, Value.category]; done) | rfl
set_option maxRecDepth 65536 in
set_option maxHeartbeats 40000000 in
theorem c_num (l : Launch) (Z : State) (a0 : Array Value) (hw : ∀ d ∈ tables_1, d.before a0 Z = true) (a : Addr) (h0 : Heap)  :
    Con l Z (⟨"java/lang/Number", "<init>", "()V"⟩ : MethodName) jdk_18_method_1_code 1 none ({ frames := 1, cells := 0, slots := 0, locals := 12 } : Room) #[(.ref a)] h0 (PQ none h0) := by
  refine Con.intro (plainFor_of_name pn_2) ?_
  intro p e s m below meth c s₁ hx hby hml hrt hlk hZ hown hnm X0 e0
  replace hown : s.vm.findClass "java/lang/Number" = some m.cls := hown
  refine GoOn.cast (ef_c_num m a) ?_
  show GoOn p e below _ (s₁.setTop (mkF m 0 #[.val (.ref a)] []))
  refine GoOn.step (fun t₀ k₀ => XS.aloadN X0.here hx rfl (hb hby d7_0) rfl rfl k₀) ?_
  show GoOn p e below _ (s₁.setTop (mkF m 1 #[.val (.ref a)] [(.ref a)]))
  obtain ⟨T17, X17, e17, st17⟩ := initO X0 hx hZ hown (hw _ (List.mem_of_getElem? (i := 53) rfl)) (hw _ (List.mem_of_getElem? (i := 14) rfl)) (hw _ (List.mem_of_getElem? (i := 15) rfl)) e0 (g := (mkF m 1 #[.val (.ref a)] [(.ref a)])) rfl (by rw [hml]; rfl) rfl (hb hby d7_1) (by decide) (W := 0) (by show 2 * 0 + _ ≤ _; exact Nat.le_of_eq rfl) (by decide)
  refine GoOn.step st17 ?_
  show GoOn p e below _ (T17.setTop (mkF m 4 #[.val (.ref a)] []))
  exact GoOn.ret0 X17 hx hrt hlk (hb hby d7_4) (by decide) (by decide) (by first | exact ⟨rfl, rfl, rfl⟩ | (rw [e17]; exact ⟨rfl, rfl, rfl⟩))
def LgQ (a : Addr) (h0 : Heap) (n0 : Nat) : Option Value → Heap → List Loc → Prop := fun r h L => r = none ∧ Fr n0 L ∧ Keep h0 h [a]
theorem ef_c_lini (m : MethodId) (x0 : Addr) (x1 : Int32) : entryFrame m #[(.ref x0), (.int x1)] 2 = mkF m 0 #[.val (.ref x0), .val (.int x1)] [] := by first | (simp [entryFrame, mkF, argsToLocals, Value.category]; done) | rfl
set_option maxRecDepth 65536 in
set_option maxHeartbeats 40000000 in
theorem c_lini (l : Launch) (Z : State) (a0 : Array Value) (hw : ∀ d ∈ tables_1, d.before a0 Z = true) (a : Addr) (u : Int32) (h0 : Heap) (n0 : Nat) (Z0 : n0 ≤ h0.size) (Ex : Exa Z h0 a "java/lang/Integer") (Fv : Fld Z h0 a "java/lang/Integer" "value" "I" (.int (0 : Int32))) (ga : n0 ≤ a) :
    Con l Z (⟨"java/lang/Integer", "<init>", "(I)V"⟩ : MethodName) jdk_33_method_23_code 2 none ({ frames := 2, cells := 0, slots := 0, locals := 24 } : Room) #[(.ref a), (.int u)] h0 (LgQ a h0 n0) := by
  refine Con.intro (plainFor_of_name pn_3) ?_
  intro p e s m below meth c s₁ hx hby hml hrt hlk hZ hown hnm X0 e0
  replace hown : s.vm.findClass "java/lang/Integer" = some m.cls := hown
  have N0 := Fr.nil n0
  refine GoOn.cast (ef_c_lini m a u) ?_
  show GoOn p e below _ (s₁.setTop (mkF m 0 #[.val (.ref a), .val (.int u)] []))
  have K0 : Keep h0 h0 [a] := Keep.refl _ _
  refine GoOn.step (fun t₀ k₀ => XS.aloadN X0.here hx rfl (hb hby d6_0) rfl rfl k₀) ?_
  show GoOn p e below _ (s₁.setTop (mkF m 1 #[.val (.ref a), .val (.int u)] [(.ref a)]))
  obtain ⟨_, T18, L18, X18, hQ18, st18⟩ := kCallI X0 hx hZ (a := a) (argsL := []) (rest := []) (c_num l Z a0 hw a h0) rfl hown (hw _ (List.mem_of_getElem? (i := 47) rfl)) (hw _ (List.mem_of_getElem? (i := 48) rfl)) (hw _ (List.mem_of_getElem? (i := 51) rfl)) (hw _ (List.mem_of_getElem? (i := 52) rfl)) (by decide) e0 (g := (mkF m 1 #[.val (.ref a), .val (.int u)] [(.ref a)])) rfl (by rw [hml]; rfl) (lenOf pd_0 rfl) rfl (W := 0) (by show 2 * 0 + _ ≤ _; exact Nat.le_of_eq rfl) (hb hby d6_1) (by decide) (by decide) (by decide) (by decide)
  obtain ⟨rfl, rfl, e18⟩ := hQ18
  rw [List.append_nil] at X18
  refine GoOn.step st18 ?_
  show GoOn p e below _ (T18.setTop (mkF m 4 #[.val (.ref a), .val (.int u)] []))
  refine GoOn.step (fun t₀ k₀ => XS.aloadN X18.here hx rfl (hb hby d6_4) rfl rfl k₀) ?_
  show GoOn p e below _ (T18.setTop (mkF m 5 #[.val (.ref a), .val (.int u)] [(.ref a)]))
  refine GoOn.step (fun t₀ k₀ => XS.iloadN X18.here hx rfl (hb hby d6_5) rfl k₀) ?_
  show GoOn p e below _ (T18.setTop (mkF m 6 #[.val (.ref a), .val (.int u)] [(.int u), (.ref a)]))
  obtain ⟨T19, h19, X19, e19, W19, st19⟩ := putF X18 hx hZ hown (host := "") (Or.inl (hw _ (List.mem_of_getElem? (i := 54) rfl))) Via.refl e18 Fv Ex (Or.inr ⟨(hw _ (List.mem_of_getElem? (i := 55) rfl)), rfl, hnm⟩) (hw _ (List.mem_of_getElem? (i := 42) rfl)) (ty := .int) (by decide) rfl rfl (g := (mkF m 6 #[.val (.ref a), .val (.int u)] [(.int u), (.ref a)])) rfl rfl (hb hby d6_6)
  replace N0 := Fr.snoc X19 N0 ga
  replace Ex := Ex.wr W19
  replace Fv := Fld.same W19 Fv
  replace Z0 := Nat.le_trans Z0 (Nat.le_of_eq W19.size.symm)
  replace K0 := K0.wr W19 (Or.inl (by simp))
  refine GoOn.step st19 ?_
  show GoOn p e below _ (T19.setTop (mkF m 9 #[.val (.ref a), .val (.int u)] []))
  exact GoOn.ret0 X19 hx hrt hlk (hb hby d6_9) (by decide) (by decide) (by first | exact ⟨rfl, N0, K0⟩ | (rw [e19]; exact ⟨rfl, N0, K0⟩))
/-- the cache as the run's past left it -/
def CaI (Z : State) : Prop := ∃ (ca : Addr) (bs : Nat → Addr), Sta Z Z.heap "java/lang/Integer$IntegerCache" "high" "I" (.int (127 : Int32)) ∧ Sta Z Z.heap "java/lang/Integer$IntegerCache" "cache" "[Ljava/lang/Integer;" (.ref ca) ∧ Jar Z Z.heap ca (.object "java/lang/Integer") 256 (fun i => .ref (bs i)) ∧ ∀ i, i < 256 → Exa Z Z.heap (bs i) "java/lang/Integer"
def VoQ (Z : State) (h0 : Heap) (n0 : Nat) : Option Value → Heap → List Loc → Prop := fun r h L => ∃ b, r = some (.ref b) ∧ Fr n0 L ∧ Keep h0 h [] ∧ Exa Z h b "java/lang/Integer"
theorem ef_c_vo (m : MethodId) (x0 : Int32) : entryFrame m #[(.int x0)] 1 = mkF m 0 #[.val (.int x0)] [] := by first | (simp [entryFrame, mkF, argsToLocals, Value.category]; done) | rfl
set_option maxRecDepth 65536 in
set_option maxHeartbeats 40000000 in
theorem c_vo (l : Launch) (Z : State) (a0 : Array Value) (hw : ∀ d ∈ tables_1, d.before a0 Z = true) (u : Int32) (h0 : Heap) (n0 : Nat) (Z0 : n0 ≤ h0.size) (O : Old Z n0 h0) (CL : CaI Z) :
    Con l Z (⟨"java/lang/Integer", "valueOf", "(I)Ljava/lang/Integer;"⟩ : MethodName) jdk_33_method_22_code 1 (some (.object "java/lang/Integer")) ({ frames := 3, cells := 1, slots := 1, locals := 48 } : Room) #[(.int u)] h0 (VoQ Z h0 n0) := by
  refine Con.intro (plainFor_of_name pn_3) ?_
  intro p e s m below meth c s₁ hx hby hml hrt hlk hZ hown hnm X0 e0
  replace hown : s.vm.findClass "java/lang/Integer" = some m.cls := hown
  have N0 := Fr.nil n0
  refine GoOn.cast (ef_c_vo m u) ?_
  show GoOn p e below _ (s₁.setTop (mkF m 0 #[.val (.int u)] []))
  obtain ⟨ca, bs, Sh, St, Jc, Ec⟩ := CL
  replace Sh := Sh.ext O.2
  replace St := St.ext O.2
  replace Jc := Jc.ext O.2
  refine GoOn.step (fun t₀ k₀ => XS.iloadN X0.here hx rfl (hb hby d5_0) rfl k₀) ?_
  show GoOn p e below _ (s₁.setTop (mkF m 1 #[.val (.int u)] [(.int u)]))
  refine GoOn.step (fun t₀ k₀ => XS.bipush X0.here hx rfl (hb hby d5_1) k₀) ?_
  show GoOn p e below _ (s₁.setTop (mkF m 3 #[.val (.int u)] [(.int (-128 : Int32)), (.int u)]))
  by_cases h0c : u < (-128 : Int32)
  · refine GoOn.step (fun t₀ k₀ => XS.icmpYes X0.here hx rfl (pc0 := 3) (pc' := 23) rfl (hb hby d5_3) rfl (tlt h0c).1 (by decide) (by decide) k₀) ?_
    show GoOn p e below _ (s₁.setTop (mkF m 23 #[.val (.int u)] []))
    have K0 : Keep h0 h0 [] := Keep.refl _ _
    obtain ⟨T20, h20, X20, e20, E20, A20, D20, -, st20⟩ := newO X0 hx hZ hown (hw _ (List.mem_of_getElem? (i := 41) rfl)) (hw _ (List.mem_of_getElem? (i := 42) rfl)) (hw _ (List.mem_of_getElem? (i := 33) rfl)) e0 (g := (mkF m 23 #[.val (.int u)] [])) rfl (hb hby d5_23) (by decide) (by decide)
    obtain ⟨b, g20⟩ : ∃ z, z = h0.size := ⟨_, rfl⟩
    rw [← g20] at A20 D20 st20
    have lt_ca_b : ca < b := by rw [g20]; exact Jc.lt
    have ne_ca_b : ca ≠ b := Nat.ne_of_lt lt_ca_b
    have le_b : n0 ≤ b := by rw [g20]; exact Z0
    have sz_b : h0.size ≤ b := by rw [g20]; exact K0.1
    replace Sh := Sh.ext E20
    replace St := St.ext E20
    replace Jc := Jc.ext E20
    replace O := O.ext E20
    replace Z0 := Nat.le_trans Z0 E20.1
    replace K0 := K0.ext E20
    have Ex_b : Exa Z h20 b "java/lang/Integer" := A20
    have F_value_b : Fld Z h20 b "java/lang/Integer" "value" "I" (.int (0 : Int32)) := D20 (Or.inr (hw _ (List.mem_of_getElem? (i := 55) rfl))) (ty := .int) (by decide)
    refine GoOn.step st20 ?_
    show GoOn p e below _ (T20.setTop (mkF m 26 #[.val (.int u)] [(.ref b)]))
    refine GoOn.step (fun t₀ k₀ => XS.dup X20.here hx rfl (hb hby d5_26) rfl rfl k₀) ?_
    show GoOn p e below _ (T20.setTop (mkF m 27 #[.val (.int u)] [(.ref b), (.ref b)]))
    refine GoOn.step (fun t₀ k₀ => XS.iloadN X20.here hx rfl (hb hby d5_27) rfl k₀) ?_
    show GoOn p e below _ (T20.setTop (mkF m 28 #[.val (.int u)] [(.int u), (.ref b), (.ref b)]))
    obtain ⟨_, T21, L21, X21, hQ21, st21⟩ := kCallI X20 hx hZ (a := b) (argsL := [(.int u)]) (rest := [(.ref b)]) (c_lini l Z a0 hw b u h20 n0 Z0 Ex_b F_value_b le_b) rfl hown (hw _ (List.mem_of_getElem? (i := 43) rfl)) (hw _ (List.mem_of_getElem? (i := 44) rfl)) (hw _ (List.mem_of_getElem? (i := 33) rfl)) (hw _ (List.mem_of_getElem? (i := 46) rfl)) (by decide) e20 (g := (mkF m 28 #[.val (.int u)] [(.int u), (.ref b), (.ref b)])) rfl (by rw [hml]; rfl) (lenOf pd_1 rfl) rfl (W := 1) (by show 2 * 0 + _ ≤ _; exact Nat.le_of_eq rfl) (hb hby d5_28) (by decide) (by decide) (by decide) (by decide)
    obtain ⟨rfl, N21, K21⟩ := hQ21
    replace N0 := Fr.app N0 N21
    replace K0 := K0.trans K21 (allS (Or.inr sz_b) all0)
    clear Sh
    clear St
    replace Jc := Jc.keep K21 (ninS ne_ca_b nin0)
    replace Ex_b := Ex_b.keep K21
    clear F_value_b
    replace O := O.keep K21 (allS le_b all0)
    replace Z0 := Nat.le_trans Z0 K21.1
    refine GoOn.step st21 ?_
    show GoOn p e below _ (T21.setTop (mkF m 31 #[.val (.int u)] [(.ref b)]))
    exact GoOn.retR X21 hx hrt rfl hlk rfl (hb hby d5_31) (by decide) (by decide) ⟨b, rfl, N0, K0, Ex_b⟩
  · refine GoOn.step (fun t₀ k₀ => XS.icmpNo X0.here hx rfl (hb hby d5_3) rfl (flt h0c).1 k₀) ?_
    show GoOn p e below _ (s₁.setTop (mkF m 6 #[.val (.int u)] []))
    refine GoOn.step (fun t₀ k₀ => XS.iloadN X0.here hx rfl (hb hby d5_6) rfl k₀) ?_
    show GoOn p e below _ (s₁.setTop (mkF m 7 #[.val (.int u)] [(.int u)]))
    obtain ⟨T22, X22, e22, st22⟩ := getS2 X0 hx hZ hown (host := "") (Or.inl (hw _ (List.mem_of_getElem? (i := 35) rfl))) Via.refl e0 Sh (g := (mkF m 7 #[.val (.int u)] [(.int u)])) rfl (hb hby d5_7)
    refine GoOn.step st22 ?_
    show GoOn p e below _ (T22.setTop (mkF m 10 #[.val (.int u)] [(.int (127 : Int32)), (.int u)]))
    by_cases hc : (127 : Int32) < u
    · refine GoOn.step (fun t₀ k₀ => XS.icmpYes X22.here hx rfl (pc0 := 10) (pc' := 23) rfl (hb hby d5_10) rfl (tlt hc).2.2.1 (by decide) (by decide) k₀) ?_
      show GoOn p e below _ (T22.setTop (mkF m 23 #[.val (.int u)] []))
      have K0 : Keep h0 h0 [] := Keep.refl _ _
      obtain ⟨T23, h23, X23, e23, E23, A23, D23, -, st23⟩ := newO X22 hx hZ hown (hw _ (List.mem_of_getElem? (i := 41) rfl)) (hw _ (List.mem_of_getElem? (i := 42) rfl)) (hw _ (List.mem_of_getElem? (i := 33) rfl)) e22 (g := (mkF m 23 #[.val (.int u)] [])) rfl (hb hby d5_23) (by decide) (by decide)
      obtain ⟨b, g23⟩ : ∃ z, z = h0.size := ⟨_, rfl⟩
      rw [← g23] at A23 D23 st23
      have lt_ca_b : ca < b := by rw [g23]; exact Jc.lt
      have ne_ca_b : ca ≠ b := Nat.ne_of_lt lt_ca_b
      have le_b : n0 ≤ b := by rw [g23]; exact Z0
      have sz_b : h0.size ≤ b := by rw [g23]; exact K0.1
      replace Sh := Sh.ext E23
      replace St := St.ext E23
      replace Jc := Jc.ext E23
      replace O := O.ext E23
      replace Z0 := Nat.le_trans Z0 E23.1
      replace K0 := K0.ext E23
      have Ex_b : Exa Z h23 b "java/lang/Integer" := A23
      have F_value_b : Fld Z h23 b "java/lang/Integer" "value" "I" (.int (0 : Int32)) := D23 (Or.inr (hw _ (List.mem_of_getElem? (i := 55) rfl))) (ty := .int) (by decide)
      refine GoOn.step st23 ?_
      show GoOn p e below _ (T23.setTop (mkF m 26 #[.val (.int u)] [(.ref b)]))
      refine GoOn.step (fun t₀ k₀ => XS.dup X23.here hx rfl (hb hby d5_26) rfl rfl k₀) ?_
      show GoOn p e below _ (T23.setTop (mkF m 27 #[.val (.int u)] [(.ref b), (.ref b)]))
      refine GoOn.step (fun t₀ k₀ => XS.iloadN X23.here hx rfl (hb hby d5_27) rfl k₀) ?_
      show GoOn p e below _ (T23.setTop (mkF m 28 #[.val (.int u)] [(.int u), (.ref b), (.ref b)]))
      obtain ⟨_, T24, L24, X24, hQ24, st24⟩ := kCallI X23 hx hZ (a := b) (argsL := [(.int u)]) (rest := [(.ref b)]) (c_lini l Z a0 hw b u h23 n0 Z0 Ex_b F_value_b le_b) rfl hown (hw _ (List.mem_of_getElem? (i := 43) rfl)) (hw _ (List.mem_of_getElem? (i := 44) rfl)) (hw _ (List.mem_of_getElem? (i := 33) rfl)) (hw _ (List.mem_of_getElem? (i := 46) rfl)) (by decide) e23 (g := (mkF m 28 #[.val (.int u)] [(.int u), (.ref b), (.ref b)])) rfl (by rw [hml]; rfl) (lenOf pd_1 rfl) rfl (W := 1) (by show 2 * 0 + _ ≤ _; exact Nat.le_of_eq rfl) (hb hby d5_28) (by decide) (by decide) (by decide) (by decide)
      obtain ⟨rfl, N24, K24⟩ := hQ24
      replace N0 := Fr.app N0 N24
      replace K0 := K0.trans K24 (allS (Or.inr sz_b) all0)
      clear Sh
      clear St
      replace Jc := Jc.keep K24 (ninS ne_ca_b nin0)
      replace Ex_b := Ex_b.keep K24
      clear F_value_b
      replace O := O.keep K24 (allS le_b all0)
      replace Z0 := Nat.le_trans Z0 K24.1
      refine GoOn.step st24 ?_
      show GoOn p e below _ (T24.setTop (mkF m 31 #[.val (.int u)] [(.ref b)]))
      exact GoOn.retR X24 hx hrt rfl hlk rfl (hb hby d5_31) (by decide) (by decide) ⟨b, rfl, N0, K0, Ex_b⟩
    · refine GoOn.step (fun t₀ k₀ => XS.icmpNo X22.here hx rfl (hb hby d5_10) rfl (flt hc).2.2.1 k₀) ?_
      show GoOn p e below _ (T22.setTop (mkF m 13 #[.val (.int u)] []))
      obtain ⟨T25, X25, e25, st25⟩ := getS2 X22 hx hZ hown (host := "") (Or.inl (hw _ (List.mem_of_getElem? (i := 37) rfl))) Via.refl e22 St (g := (mkF m 13 #[.val (.int u)] [])) rfl (hb hby d5_13)
      refine GoOn.step st25 ?_
      show GoOn p e below _ (T25.setTop (mkF m 16 #[.val (.int u)] [(.ref ca)]))
      refine GoOn.step (fun t₀ k₀ => XS.iloadN X25.here hx rfl (hb hby d5_16) rfl k₀) ?_
      show GoOn p e below _ (T25.setTop (mkF m 17 #[.val (.int u)] [(.int u), (.ref ca)]))
      refine GoOn.step (fun t₀ k₀ => XS.sipush X25.here hx rfl (hb hby d5_17) k₀) ?_
      show GoOn p e below _ (T25.setTop (mkF m 20 #[.val (.int u)] [(.int (128 : Int32)), (.int u), (.ref ca)]))
      refine GoOn.step (fun t₀ k₀ => XS.iadd X25.here hx rfl (hb hby d5_20) rfl k₀) ?_
      show GoOn p e below _ (T25.setTop (mkF m 21 #[.val (.int u)] [(.int (u + (128 : Int32))), (.ref ca)]))
      have i0 : u.toInt ≤ 127 := by rw [Int32.lt_iff_toInt_lt, show (127 : Int32).toInt = 127 from by decide] at hc; omega
      have i1 : -128 ≤ u.toInt := by rw [Int32.lt_iff_toInt_lt, show (-128 : Int32).toInt = -128 from by decide] at h0c; omega
      have i3 := c_iadd u 128
      have i4 := rng32 (u + 128)
      have i5 : (128 : Int32).toInt = 128 := by decide
      have i6 : 0 ≤ (u + (128 : Int32)).toInt ∧ (u + (128 : Int32)).toInt < (256 : Nat) := by omega
      refine GoOn.step (fun t₀ k₀ => kLdA X25 hx hZ e25 Jc rfl (j := (u + (128 : Int32))) (v := (.ref (bs (u + (128 : Int32)).toNatClampNeg))) i6 rfl (g := (mkF m 21 #[.val (.int u)] [(.int (u + (128 : Int32))), (.ref ca)])) rfl rfl (hb hby d5_21) t₀ k₀) ?_
      show GoOn p e below _ (T25.setTop (mkF m 22 #[.val (.int u)] [(.ref (bs (u + (128 : Int32)).toNatClampNeg))]))
      exact GoOn.retR X25 hx hrt rfl hlk rfl (hb hby d5_22) (by decide) (by decide) (by first | exact ⟨_, rfl, N0, Keep.refl _ _, (Ec _ (natJ i6)).ext O.2⟩ | (rw [e25]; exact ⟨_, rfl, N0, Keep.refl _ _, (Ec _ (natJ i6)).ext O.2⟩))
theorem ef_law_ok (m : MethodId) (x0 : Int32) (x1 : Int32) (x2 : Int32) (x3 : Int32) (x4 : Int32) : entryFrame m #[(.int x0), (.int x1), (.int x2), (.int x3), (.int x4)] maxLocals = mkF m 0 #[.val (.int x0), .val (.int x1), .val (.int x2), .val (.int x3), .val (.int x4), .unset, .unset, .unset, .unset] [] := by first | (simp [entryFrame, mkF, argsToLocals, Value.category, maxLocals]; done) | rfl
set_option maxRecDepth 65536 in
set_option maxHeartbeats 40000000 in
theorem law_ok (l : Launch) (Z : State) (a0 : Array Value) (hw : ∀ d ∈ tables_1, d.before a0 Z = true) (q0 q1 q2 q3 q4 : Int32) (s0 s1 s2 : Addr) (h0 : Heap) (n0 : Nat) (Z0 : n0 ≤ h0.size) (O : Old Z n0 h0) (CL : CaI Z) (LE : Lev Z s0 s1 s2) :
    Con l Z x code maxLocals ret room_1 #[(.int q0), (.int q1), (.int q2), (.int q3), (.int q4)] h0 (LQ n0) := by
  refine Con.intro (plainFor_of_name pn_0) ?_
  intro p e s m below meth c s₁ hx hby hml hrt hlk hZ hown hnm X0 e0
  replace hown : s.vm.findClass "com/example/broker_bench/brokerbench/driver/DurabilityEqualsPinLaw" = some m.cls := hown
  have N0 := Fr.nil n0
  refine GoOn.cast (ef_law_ok m q0 q1 q2 q3 q4) ?_
  show GoOn p e below _ (s₁.setTop (mkF m 0 #[.val (.int q0), .val (.int q1), .val (.int q2), .val (.int q3), .val (.int q4), .unset, .unset, .unset, .unset] []))
  obtain ⟨T26, h26, X26, e26, E26, A26, D26, -, st26⟩ := newO X0 hx hZ hown (hw _ (List.mem_of_getElem? (i := 0) rfl)) (hw _ (List.mem_of_getElem? (i := 1) rfl)) (hw _ (List.mem_of_getElem? (i := 2) rfl)) e0 (g := (mkF m 0 #[.val (.int q0), .val (.int q1), .val (.int q2), .val (.int q3), .val (.int q4), .unset, .unset, .unset, .unset] [])) rfl (hb hby at_0) (by decide) (by decide)
  obtain ⟨a, g26⟩ : ∃ z, z = h0.size := ⟨_, rfl⟩
  rw [← g26] at A26 D26 st26
  have le_a : n0 ≤ a := by rw [g26]; exact Z0
  replace O := O.ext E26
  replace Z0 := Nat.le_trans Z0 E26.1
  have Ex_a : Exa Z h26 a "com/example/broker_bench/brokerbench/driver/Durability" := A26
  have F_replication_a : Fld Z h26 a "com/example/broker_bench/brokerbench/driver/Durability" "replication" "Lcom/example/broker_bench/brokerbench/driver/Durability$Level;" .null := D26 (Or.inr (hw _ (List.mem_of_getElem? (i := 17) rfl))) (ty := (.object "com/example/broker_bench/brokerbench/driver/Durability$Level")) (by decide)
  have F_localFlush_a : Fld Z h26 a "com/example/broker_bench/brokerbench/driver/Durability" "localFlush" "Lcom/example/broker_bench/brokerbench/driver/Durability$Level;" .null := D26 (Or.inr (hw _ (List.mem_of_getElem? (i := 19) rfl))) (ty := (.object "com/example/broker_bench/brokerbench/driver/Durability$Level")) (by decide)
  refine GoOn.step st26 ?_
  show GoOn p e below _ (T26.setTop (mkF m 3 #[.val (.int q0), .val (.int q1), .val (.int q2), .val (.int q3), .val (.int q4), .unset, .unset, .unset, .unset] [(.ref a)]))
  refine GoOn.step (fun t₀ k₀ => XS.dup X26.here hx rfl (hb hby at_3) rfl rfl k₀) ?_
  show GoOn p e below _ (T26.setTop (mkF m 4 #[.val (.int q0), .val (.int q1), .val (.int q2), .val (.int q3), .val (.int q4), .unset, .unset, .unset, .unset] [(.ref a), (.ref a)]))
  refine GoOn.step (fun t₀ k₀ => XS.iloadN X26.here hx rfl (hb hby at_4) rfl k₀) ?_
  show GoOn p e below _ (T26.setTop (mkF m 5 #[.val (.int q0), .val (.int q1), .val (.int q2), .val (.int q3), .val (.int q4), .unset, .unset, .unset, .unset] [(.int q0), (.ref a), (.ref a)]))
  obtain ⟨_, T27, L27, X27, hQ27, st27⟩ := kCallS X26 hx hZ (argsL := [(.int q0)]) (rest := [(.ref a), (.ref a)]) (c_lev l Z a0 hw q0 s0 s1 s2 _ n0 O LE) hown (hw _ (List.mem_of_getElem? (i := 3) rfl)) (hw _ (List.mem_of_getElem? (i := 4) rfl)) (hw _ (List.mem_of_getElem? (i := 5) rfl)) (hw _ (List.mem_of_getElem? (i := 6) rfl)) (by decide) e26 (g := (mkF m 5 #[.val (.int q0), .val (.int q1), .val (.int q2), .val (.int q3), .val (.int q4), .unset, .unset, .unset, .unset] [(.int q0), (.ref a), (.ref a)])) rfl (by rw [hml]; rfl) (lenOf pd_2 rfl) rfl (W := 2) (by show 2 * 0 + _ ≤ _; exact Nat.le_of_eq rfl) (hb hby at_5) (by decide) (by decide) (by decide) (by decide)
  obtain ⟨rfl, rfl, e27⟩ := hQ27
  rw [List.append_nil] at X27
  refine GoOn.step st27 ?_
  show GoOn p e below _ (T27.setTop (mkF m 8 #[.val (.int q0), .val (.int q1), .val (.int q2), .val (.int q3), .val (.int q4), .unset, .unset, .unset, .unset] [(lvl s0 s1 s2 (q0 &&& (3 : Int32))), (.ref a), (.ref a)]))
  refine GoOn.step (fun t₀ k₀ => XS.iloadN X27.here hx rfl (hb hby at_8) rfl k₀) ?_
  show GoOn p e below _ (T27.setTop (mkF m 9 #[.val (.int q0), .val (.int q1), .val (.int q2), .val (.int q3), .val (.int q4), .unset, .unset, .unset, .unset] [(.int q1), (lvl s0 s1 s2 (q0 &&& (3 : Int32))), (.ref a), (.ref a)]))
  obtain ⟨_, T28, L28, X28, hQ28, st28⟩ := kCallS X27 hx hZ (argsL := [(.int q1)]) (rest := [(lvl s0 s1 s2 (q0 &&& (3 : Int32))), (.ref a), (.ref a)]) (c_lev l Z a0 hw q1 s0 s1 s2 _ n0 O LE) hown (hw _ (List.mem_of_getElem? (i := 3) rfl)) (hw _ (List.mem_of_getElem? (i := 4) rfl)) (hw _ (List.mem_of_getElem? (i := 5) rfl)) (hw _ (List.mem_of_getElem? (i := 6) rfl)) (by decide) e27 (g := (mkF m 9 #[.val (.int q0), .val (.int q1), .val (.int q2), .val (.int q3), .val (.int q4), .unset, .unset, .unset, .unset] [(.int q1), (lvl s0 s1 s2 (q0 &&& (3 : Int32))), (.ref a), (.ref a)])) rfl (by rw [hml]; rfl) (lenOf pd_2 rfl) rfl (W := 3) (by show 2 * 0 + _ ≤ _; simp only [List.map_cons, List.map_nil, catR (lvl_ref s0 s1 s2 (q0 &&& (3 : Int32)))]; exact Nat.le_of_eq rfl) (hb hby at_9) (by decide) (by decide) (by decide) (by decide)
  obtain ⟨rfl, rfl, e28⟩ := hQ28
  rw [List.append_nil] at X28
  refine GoOn.step st28 ?_
  show GoOn p e below _ (T28.setTop (mkF m 12 #[.val (.int q0), .val (.int q1), .val (.int q2), .val (.int q3), .val (.int q4), .unset, .unset, .unset, .unset] [(lvl s0 s1 s2 (q1 &&& (3 : Int32))), (lvl s0 s1 s2 (q0 &&& (3 : Int32))), (.ref a), (.ref a)]))
  obtain ⟨_, T29, L29, X29, hQ29, st29⟩ := kCallI X28 hx hZ (a := a) (argsL := [(lvl s0 s1 s2 (q0 &&& (3 : Int32))), (lvl s0 s1 s2 (q1 &&& (3 : Int32)))]) (rest := [(.ref a)]) (c_ini l Z a0 hw a (lvl s0 s1 s2 (q0 &&& (3 : Int32))) (lvl s0 s1 s2 (q1 &&& (3 : Int32))) h26 n0 Z0 (lvl_ref s0 s1 s2 (q0 &&& (3 : Int32))) (lvl_ref s0 s1 s2 (q1 &&& (3 : Int32))) Ex_a F_replication_a F_localFlush_a le_a) rfl hown (hw _ (List.mem_of_getElem? (i := 10) rfl)) (hw _ (List.mem_of_getElem? (i := 11) rfl)) (hw _ (List.mem_of_getElem? (i := 2) rfl)) (hw _ (List.mem_of_getElem? (i := 12) rfl)) (by decide) e28 (g := (mkF m 12 #[.val (.int q0), .val (.int q1), .val (.int q2), .val (.int q3), .val (.int q4), .unset, .unset, .unset, .unset] [(lvl s0 s1 s2 (q1 &&& (3 : Int32))), (lvl s0 s1 s2 (q0 &&& (3 : Int32))), (.ref a), (.ref a)])) rfl (by rw [hml]; rfl) (lenOf pd_3 rfl) rfl (W := 1) (by show 2 * 0 + _ ≤ _; exact Nat.le_of_eq rfl) (hb hby at_12) (by decide) (by decide) (by decide) (by decide)
  obtain ⟨rfl, N29, K29, F1_a, F2_a⟩ := hQ29
  replace N0 := Fr.app N0 N29
  replace Ex_a := Ex_a.keep K29
  clear F_replication_a
  clear F_localFlush_a
  replace O := O.keep K29 (allS le_a all0)
  replace Z0 := Nat.le_trans Z0 K29.1
  refine GoOn.step st29 ?_
  show GoOn p e below _ (T29.setTop (mkF m 15 #[.val (.int q0), .val (.int q1), .val (.int q2), .val (.int q3), .val (.int q4), .unset, .unset, .unset, .unset] [(.ref a)]))
  refine GoOn.step (fun t₀ k₀ => XS.astore X29.here hx rfl (hb hby at_15) rfl rfl (l' := #[.val (.int q0), .val (.int q1), .val (.int q2), .val (.int q3), .val (.int q4), .val (.ref a), .unset, .unset, .unset]) rfl k₀) ?_
  show GoOn p e below _ (T29.setTop (mkF m 17 #[.val (.int q0), .val (.int q1), .val (.int q2), .val (.int q3), .val (.int q4), .val (.ref a), .unset, .unset, .unset] []))
  obtain ⟨T30, h30, X30, e30, E30, A30, D30, -, st30⟩ := newO X29 hx hZ hown (hw _ (List.mem_of_getElem? (i := 0) rfl)) (hw _ (List.mem_of_getElem? (i := 1) rfl)) (hw _ (List.mem_of_getElem? (i := 2) rfl)) rfl (g := (mkF m 17 #[.val (.int q0), .val (.int q1), .val (.int q2), .val (.int q3), .val (.int q4), .val (.ref a), .unset, .unset, .unset] [])) rfl (hb hby at_17) (by decide) (by decide)
  obtain ⟨b, g30⟩ : ∃ z, z = T29.heap.size := ⟨_, rfl⟩
  rw [← g30] at A30 D30 st30
  have lt_a_b : a < b := by rw [g30]; exact Ex_a.lt
  have ne_a_b : a ≠ b := Nat.ne_of_lt lt_a_b
  have le_b : n0 ≤ b := by rw [g30]; exact Z0
  replace Ex_a := Ex_a.ext E30
  replace F1_a := F1_a.ext E30
  replace F2_a := F2_a.ext E30
  replace O := O.ext E30
  replace Z0 := Nat.le_trans Z0 E30.1
  have Ex_b : Exa Z h30 b "com/example/broker_bench/brokerbench/driver/Durability" := A30
  have F_replication_b : Fld Z h30 b "com/example/broker_bench/brokerbench/driver/Durability" "replication" "Lcom/example/broker_bench/brokerbench/driver/Durability$Level;" .null := D30 (Or.inr (hw _ (List.mem_of_getElem? (i := 17) rfl))) (ty := (.object "com/example/broker_bench/brokerbench/driver/Durability$Level")) (by decide)
  have F_localFlush_b : Fld Z h30 b "com/example/broker_bench/brokerbench/driver/Durability" "localFlush" "Lcom/example/broker_bench/brokerbench/driver/Durability$Level;" .null := D30 (Or.inr (hw _ (List.mem_of_getElem? (i := 19) rfl))) (ty := (.object "com/example/broker_bench/brokerbench/driver/Durability$Level")) (by decide)
  refine GoOn.step st30 ?_
  show GoOn p e below _ (T30.setTop (mkF m 20 #[.val (.int q0), .val (.int q1), .val (.int q2), .val (.int q3), .val (.int q4), .val (.ref a), .unset, .unset, .unset] [(.ref b)]))
  refine GoOn.step (fun t₀ k₀ => XS.dup X30.here hx rfl (hb hby at_20) rfl rfl k₀) ?_
  show GoOn p e below _ (T30.setTop (mkF m 21 #[.val (.int q0), .val (.int q1), .val (.int q2), .val (.int q3), .val (.int q4), .val (.ref a), .unset, .unset, .unset] [(.ref b), (.ref b)]))
  refine GoOn.step (fun t₀ k₀ => XS.iloadN X30.here hx rfl (hb hby at_21) rfl k₀) ?_
  show GoOn p e below _ (T30.setTop (mkF m 22 #[.val (.int q0), .val (.int q1), .val (.int q2), .val (.int q3), .val (.int q4), .val (.ref a), .unset, .unset, .unset] [(.int q2), (.ref b), (.ref b)]))
  obtain ⟨_, T31, L31, X31, hQ31, st31⟩ := kCallS X30 hx hZ (argsL := [(.int q2)]) (rest := [(.ref b), (.ref b)]) (c_lev l Z a0 hw q2 s0 s1 s2 _ n0 O LE) hown (hw _ (List.mem_of_getElem? (i := 3) rfl)) (hw _ (List.mem_of_getElem? (i := 4) rfl)) (hw _ (List.mem_of_getElem? (i := 5) rfl)) (hw _ (List.mem_of_getElem? (i := 6) rfl)) (by decide) e30 (g := (mkF m 22 #[.val (.int q0), .val (.int q1), .val (.int q2), .val (.int q3), .val (.int q4), .val (.ref a), .unset, .unset, .unset] [(.int q2), (.ref b), (.ref b)])) rfl (by rw [hml]; rfl) (lenOf pd_2 rfl) rfl (W := 2) (by show 2 * 0 + _ ≤ _; exact Nat.le_of_eq rfl) (hb hby at_22) (by decide) (by decide) (by decide) (by decide)
  obtain ⟨rfl, rfl, e31⟩ := hQ31
  rw [List.append_nil] at X31
  refine GoOn.step st31 ?_
  show GoOn p e below _ (T31.setTop (mkF m 25 #[.val (.int q0), .val (.int q1), .val (.int q2), .val (.int q3), .val (.int q4), .val (.ref a), .unset, .unset, .unset] [(lvl s0 s1 s2 (q2 &&& (3 : Int32))), (.ref b), (.ref b)]))
  refine GoOn.step (fun t₀ k₀ => XS.iloadN X31.here hx rfl (hb hby at_25) rfl k₀) ?_
  show GoOn p e below _ (T31.setTop (mkF m 26 #[.val (.int q0), .val (.int q1), .val (.int q2), .val (.int q3), .val (.int q4), .val (.ref a), .unset, .unset, .unset] [(.int q3), (lvl s0 s1 s2 (q2 &&& (3 : Int32))), (.ref b), (.ref b)]))
  obtain ⟨_, T32, L32, X32, hQ32, st32⟩ := kCallS X31 hx hZ (argsL := [(.int q3)]) (rest := [(lvl s0 s1 s2 (q2 &&& (3 : Int32))), (.ref b), (.ref b)]) (c_lev l Z a0 hw q3 s0 s1 s2 _ n0 O LE) hown (hw _ (List.mem_of_getElem? (i := 3) rfl)) (hw _ (List.mem_of_getElem? (i := 4) rfl)) (hw _ (List.mem_of_getElem? (i := 5) rfl)) (hw _ (List.mem_of_getElem? (i := 6) rfl)) (by decide) e31 (g := (mkF m 26 #[.val (.int q0), .val (.int q1), .val (.int q2), .val (.int q3), .val (.int q4), .val (.ref a), .unset, .unset, .unset] [(.int q3), (lvl s0 s1 s2 (q2 &&& (3 : Int32))), (.ref b), (.ref b)])) rfl (by rw [hml]; rfl) (lenOf pd_2 rfl) rfl (W := 3) (by show 2 * 0 + _ ≤ _; simp only [List.map_cons, List.map_nil, catR (lvl_ref s0 s1 s2 (q2 &&& (3 : Int32)))]; exact Nat.le_of_eq rfl) (hb hby at_26) (by decide) (by decide) (by decide) (by decide)
  obtain ⟨rfl, rfl, e32⟩ := hQ32
  rw [List.append_nil] at X32
  refine GoOn.step st32 ?_
  show GoOn p e below _ (T32.setTop (mkF m 29 #[.val (.int q0), .val (.int q1), .val (.int q2), .val (.int q3), .val (.int q4), .val (.ref a), .unset, .unset, .unset] [(lvl s0 s1 s2 (q3 &&& (3 : Int32))), (lvl s0 s1 s2 (q2 &&& (3 : Int32))), (.ref b), (.ref b)]))
  obtain ⟨_, T33, L33, X33, hQ33, st33⟩ := kCallI X32 hx hZ (a := b) (argsL := [(lvl s0 s1 s2 (q2 &&& (3 : Int32))), (lvl s0 s1 s2 (q3 &&& (3 : Int32)))]) (rest := [(.ref b)]) (c_ini l Z a0 hw b (lvl s0 s1 s2 (q2 &&& (3 : Int32))) (lvl s0 s1 s2 (q3 &&& (3 : Int32))) h30 n0 Z0 (lvl_ref s0 s1 s2 (q2 &&& (3 : Int32))) (lvl_ref s0 s1 s2 (q3 &&& (3 : Int32))) Ex_b F_replication_b F_localFlush_b le_b) rfl hown (hw _ (List.mem_of_getElem? (i := 10) rfl)) (hw _ (List.mem_of_getElem? (i := 11) rfl)) (hw _ (List.mem_of_getElem? (i := 2) rfl)) (hw _ (List.mem_of_getElem? (i := 12) rfl)) (by decide) e32 (g := (mkF m 29 #[.val (.int q0), .val (.int q1), .val (.int q2), .val (.int q3), .val (.int q4), .val (.ref a), .unset, .unset, .unset] [(lvl s0 s1 s2 (q3 &&& (3 : Int32))), (lvl s0 s1 s2 (q2 &&& (3 : Int32))), (.ref b), (.ref b)])) rfl (by rw [hml]; rfl) (lenOf pd_3 rfl) rfl (W := 1) (by show 2 * 0 + _ ≤ _; exact Nat.le_of_eq rfl) (hb hby at_29) (by decide) (by decide) (by decide) (by decide)
  obtain ⟨rfl, N33, K33, F1_b, F2_b⟩ := hQ33
  replace N0 := Fr.app N0 N33
  replace Ex_a := Ex_a.keep K33
  replace F1_a := F1_a.keep K33 (ninS ne_a_b nin0)
  replace F2_a := F2_a.keep K33 (ninS ne_a_b nin0)
  replace Ex_b := Ex_b.keep K33
  clear F_replication_b
  clear F_localFlush_b
  replace O := O.keep K33 (allS le_b all0)
  replace Z0 := Nat.le_trans Z0 K33.1
  refine GoOn.step st33 ?_
  show GoOn p e below _ (T33.setTop (mkF m 32 #[.val (.int q0), .val (.int q1), .val (.int q2), .val (.int q3), .val (.int q4), .val (.ref a), .unset, .unset, .unset] [(.ref b)]))
  refine GoOn.step (fun t₀ k₀ => XS.astore X33.here hx rfl (hb hby at_32) rfl rfl (l' := #[.val (.int q0), .val (.int q1), .val (.int q2), .val (.int q3), .val (.int q4), .val (.ref a), .val (.ref b), .unset, .unset]) rfl k₀) ?_
  show GoOn p e below _ (T33.setTop (mkF m 34 #[.val (.int q0), .val (.int q1), .val (.int q2), .val (.int q3), .val (.int q4), .val (.ref a), .val (.ref b), .unset, .unset] []))
  refine GoOn.step (fun t₀ k₀ => XS.iload X33.here hx rfl (hb hby at_34) rfl k₀) ?_
  show GoOn p e below _ (T33.setTop (mkF m 36 #[.val (.int q0), .val (.int q1), .val (.int q2), .val (.int q3), .val (.int q4), .val (.ref a), .val (.ref b), .unset, .unset] [(.int q4)]))
  refine GoOn.step (fun t₀ k₀ => XS.iconst X33.here hx rfl (hb hby at_36) k₀) ?_
  show GoOn p e below _ (T33.setTop (mkF m 37 #[.val (.int q0), .val (.int q1), .val (.int q2), .val (.int q3), .val (.int q4), .val (.ref a), .val (.ref b), .unset, .unset] [(.int (3 : Int32)), (.int q4)]))
  refine GoOn.step (fun t₀ k₀ => XS.iand X33.here hx rfl (hb hby at_37) rfl k₀) ?_
  show GoOn p e below _ (T33.setTop (mkF m 38 #[.val (.int q0), .val (.int q1), .val (.int q2), .val (.int q3), .val (.int q4), .val (.ref a), .val (.ref b), .unset, .unset] [(.int (q4 &&& (3 : Int32)))]))
  refine GoOn.step (fun t₀ k₀ => XS.istore X33.here hx rfl (hb hby at_38) rfl (l' := #[.val (.int q0), .val (.int q1), .val (.int q2), .val (.int q3), .val (.int q4), .val (.ref a), .val (.ref b), .val (.int (q4 &&& (3 : Int32))), .unset]) rfl k₀) ?_
  show GoOn p e below _ (T33.setTop (mkF m 40 #[.val (.int q0), .val (.int q1), .val (.int q2), .val (.int q3), .val (.int q4), .val (.ref a), .val (.ref b), .val (.int (q4 &&& (3 : Int32))), .unset] []))
  refine GoOn.step (fun t₀ k₀ => XS.iload X33.here hx rfl (hb hby at_40) rfl k₀) ?_
  show GoOn p e below _ (T33.setTop (mkF m 42 #[.val (.int q0), .val (.int q1), .val (.int q2), .val (.int q3), .val (.int q4), .val (.ref a), .val (.ref b), .val (.int (q4 &&& (3 : Int32))), .unset] [(.int (q4 &&& (3 : Int32)))]))
  generalize hmm : (q4 &&& (3 : Int32)) = mm
  have hmmI := congrArg Int32.toInt hmm
  by_cases m0 : mm = (0 : Int32)
  · refine GoOn.step (fun t₀ k₀ => XS.ifNo X33.here hx rfl (hb hby at_42) rfl ((if0 _ _).trans (teq m0).2) k₀) ?_
    show GoOn p e below _ (T33.setTop (mkF m 45 #[.val (.int q0), .val (.int q1), .val (.int q2), .val (.int q3), .val (.int q4), .val (.ref a), .val (.ref b), .val (.int mm), .unset] []))
    obtain ⟨-, -, -, d1, d2, d3⟩ := id LE
    have x1 := lvl_inj d1 d2 d3 (and3 q0) (and3 q2)
    have x2 := lvl_inj d1 d2 d3 (and3 q1) (and3 q3)
    refine GoOn.step (fun t₀ k₀ => XS.iloadN X33.here hx rfl (hb hby at_45) rfl k₀) ?_
    show GoOn p e below _ (T33.setTop (mkF m 46 #[.val (.int q0), .val (.int q1), .val (.int q2), .val (.int q3), .val (.int q4), .val (.ref a), .val (.ref b), .val (.int mm), .unset] [(.int q0)]))
    refine GoOn.step (fun t₀ k₀ => XS.iconst X33.here hx rfl (hb hby at_46) k₀) ?_
    show GoOn p e below _ (T33.setTop (mkF m 47 #[.val (.int q0), .val (.int q1), .val (.int q2), .val (.int q3), .val (.int q4), .val (.ref a), .val (.ref b), .val (.int mm), .unset] [(.int (3 : Int32)), (.int q0)]))
    refine GoOn.step (fun t₀ k₀ => XS.iand X33.here hx rfl (hb hby at_47) rfl k₀) ?_
    show GoOn p e below _ (T33.setTop (mkF m 48 #[.val (.int q0), .val (.int q1), .val (.int q2), .val (.int q3), .val (.int q4), .val (.ref a), .val (.ref b), .val (.int mm), .unset] [(.int (q0 &&& (3 : Int32)))]))
    refine GoOn.step (fun t₀ k₀ => XS.iloadN X33.here hx rfl (hb hby at_48) rfl k₀) ?_
    show GoOn p e below _ (T33.setTop (mkF m 49 #[.val (.int q0), .val (.int q1), .val (.int q2), .val (.int q3), .val (.int q4), .val (.ref a), .val (.ref b), .val (.int mm), .unset] [(.int q2), (.int (q0 &&& (3 : Int32)))]))
    refine GoOn.step (fun t₀ k₀ => XS.iconst X33.here hx rfl (hb hby at_49) k₀) ?_
    show GoOn p e below _ (T33.setTop (mkF m 50 #[.val (.int q0), .val (.int q1), .val (.int q2), .val (.int q3), .val (.int q4), .val (.ref a), .val (.ref b), .val (.int mm), .unset] [(.int (3 : Int32)), (.int q2), (.int (q0 &&& (3 : Int32)))]))
    refine GoOn.step (fun t₀ k₀ => XS.iand X33.here hx rfl (hb hby at_50) rfl k₀) ?_
    show GoOn p e below _ (T33.setTop (mkF m 51 #[.val (.int q0), .val (.int q1), .val (.int q2), .val (.int q3), .val (.int q4), .val (.ref a), .val (.ref b), .val (.int mm), .unset] [(.int (q2 &&& (3 : Int32))), (.int (q0 &&& (3 : Int32)))]))
    have J : ∀ (ee : Int32) (_ : ee = (if (q0 &&& (3 : Int32)) = (q2 &&& (3 : Int32)) then (if (q1 &&& (3 : Int32)) = (q3 &&& (3 : Int32)) then (1 : Int32) else 0) else 0)), GoOn p e below (EndQ s room_1 (LQ n0)) (T33.setTop (mkF m 68 #[.val (.int q0), .val (.int q1), .val (.int q2), .val (.int q3), .val (.int q4), .val (.ref a), .val (.ref b), .val (.int mm), .unset] [(.int ee)])) := by
      intro ee he
      refine GoOn.step (fun t₀ k₀ => XS.istore X33.here hx rfl (hb hby at_68) rfl (l' := #[.val (.int q0), .val (.int q1), .val (.int q2), .val (.int q3), .val (.int q4), .val (.ref a), .val (.ref b), .val (.int mm), .val (.int ee)]) rfl k₀) ?_
      show GoOn p e below _ (T33.setTop (mkF m 70 #[.val (.int q0), .val (.int q1), .val (.int q2), .val (.int q3), .val (.int q4), .val (.ref a), .val (.ref b), .val (.int mm), .val (.int ee)] []))
      refine GoOn.step (fun t₀ k₀ => XS.aload X33.here hx rfl (hb hby at_70) rfl rfl k₀) ?_
      show GoOn p e below _ (T33.setTop (mkF m 72 #[.val (.int q0), .val (.int q1), .val (.int q2), .val (.int q3), .val (.int q4), .val (.ref a), .val (.ref b), .val (.int mm), .val (.int ee)] [(.ref a)]))
      refine GoOn.step (fun t₀ k₀ => XS.aload X33.here hx rfl (hb hby at_72) rfl rfl k₀) ?_
      show GoOn p e below _ (T33.setTop (mkF m 74 #[.val (.int q0), .val (.int q1), .val (.int q2), .val (.int q3), .val (.int q4), .val (.ref a), .val (.ref b), .val (.int mm), .val (.int ee)] [(.ref b), (.ref a)]))
      obtain ⟨_, T34, L34, X34, hQ34, st34⟩ := kCallV X33 hx hZ (a := a) (argsL := [(.ref b)]) (rest := []) (c_eqs l Z a0 hw a b (lvl s0 s1 s2 (q0 &&& (3 : Int32))) (lvl s0 s1 s2 (q1 &&& (3 : Int32))) (lvl s0 s1 s2 (q2 &&& (3 : Int32))) (lvl s0 s1 s2 (q3 &&& (3 : Int32))) _ (lvl_ref s0 s1 s2 (q0 &&& (3 : Int32))) (lvl_ref s0 s1 s2 (q1 &&& (3 : Int32))) (lvl_ref s0 s1 s2 (q2 &&& (3 : Int32))) (lvl_ref s0 s1 s2 (q3 &&& (3 : Int32))) Ex_a Ex_b F1_a F2_a F1_b F2_b) hown (hw _ (List.mem_of_getElem? (i := 24) rfl)) (hw _ (List.mem_of_getElem? (i := 25) rfl)) (notFace_of_selects (args := #[]) (mvT hZ (hw _ (List.mem_of_getElem? (i := 27) rfl)))) (hw _ (List.mem_of_getElem? (i := 27) rfl)) (hw _ (List.mem_of_getElem? (i := 26) rfl)) (hw _ (List.mem_of_getElem? (i := 2) rfl)) (hw _ (List.mem_of_getElem? (i := 28) rfl)) (by decide) rfl Ex_a (g := (mkF m 74 #[.val (.int q0), .val (.int q1), .val (.int q2), .val (.int q3), .val (.int q4), .val (.ref a), .val (.ref b), .val (.int mm), .val (.int ee)] [(.ref b), (.ref a)])) rfl (by rw [hml]; rfl) (lenOf pd_4 rfl) rfl (W := 0) (by show 2 * 0 + _ ≤ _; exact Nat.le_of_eq rfl) (hb hby at_74) (by decide) (by decide) (by decide) (by decide)
      obtain ⟨rfl, rfl, e34⟩ := hQ34
      rw [List.append_nil] at X34
      refine GoOn.step st34 ?_
      show GoOn p e below _ (T34.setTop (mkF m 77 #[.val (.int q0), .val (.int q1), .val (.int q2), .val (.int q3), .val (.int q4), .val (.ref a), .val (.ref b), .val (.int mm), .val (.int ee)] [(.int (if (lvl s0 s1 s2 (q0 &&& (3 : Int32))) = (lvl s0 s1 s2 (q2 &&& (3 : Int32))) then (if (lvl s0 s1 s2 (q1 &&& (3 : Int32))) = (lvl s0 s1 s2 (q3 &&& (3 : Int32))) then (1 : Int32) else 0) else 0))]))
      refine GoOn.step (fun t₀ k₀ => XS.iload X34.here hx rfl (hb hby at_77) rfl k₀) ?_
      show GoOn p e below _ (T34.setTop (mkF m 79 #[.val (.int q0), .val (.int q1), .val (.int q2), .val (.int q3), .val (.int q4), .val (.ref a), .val (.ref b), .val (.int mm), .val (.int ee)] [(.int ee), (.int (if (lvl s0 s1 s2 (q0 &&& (3 : Int32))) = (lvl s0 s1 s2 (q2 &&& (3 : Int32))) then (if (lvl s0 s1 s2 (q1 &&& (3 : Int32))) = (lvl s0 s1 s2 (q3 &&& (3 : Int32))) then (1 : Int32) else 0) else 0))]))
      have hf35 : (if (lvl s0 s1 s2 (q0 &&& (3 : Int32))) = (lvl s0 s1 s2 (q2 &&& (3 : Int32))) then (if (lvl s0 s1 s2 (q1 &&& (3 : Int32))) = (lvl s0 s1 s2 (q3 &&& (3 : Int32))) then (1 : Int32) else 0) else 0) = ee := (by rw [he]; simp only [x1, x2])
      refine GoOn.step (fun t₀ k₀ => XS.icmpNo X34.here hx rfl (hb hby at_79) rfl (teq hf35).2 k₀) ?_
      show GoOn p e below _ (T34.setTop (mkF m 82 #[.val (.int q0), .val (.int q1), .val (.int q2), .val (.int q3), .val (.int q4), .val (.ref a), .val (.ref b), .val (.int mm), .val (.int ee)] []))
      refine GoOn.step (fun t₀ k₀ => XS.aload X34.here hx rfl (hb hby at_82) rfl rfl k₀) ?_
      show GoOn p e below _ (T34.setTop (mkF m 84 #[.val (.int q0), .val (.int q1), .val (.int q2), .val (.int q3), .val (.int q4), .val (.ref a), .val (.ref b), .val (.int mm), .val (.int ee)] [(.ref b)]))
      refine GoOn.step (fun t₀ k₀ => XS.aload X34.here hx rfl (hb hby at_84) rfl rfl k₀) ?_
      show GoOn p e below _ (T34.setTop (mkF m 86 #[.val (.int q0), .val (.int q1), .val (.int q2), .val (.int q3), .val (.int q4), .val (.ref a), .val (.ref b), .val (.int mm), .val (.int ee)] [(.ref a), (.ref b)]))
      obtain ⟨_, T36, L36, X36, hQ36, st36⟩ := kCallV X34 hx hZ (a := b) (argsL := [(.ref a)]) (rest := []) (c_eqs l Z a0 hw b a (lvl s0 s1 s2 (q2 &&& (3 : Int32))) (lvl s0 s1 s2 (q3 &&& (3 : Int32))) (lvl s0 s1 s2 (q0 &&& (3 : Int32))) (lvl s0 s1 s2 (q1 &&& (3 : Int32))) _ (lvl_ref s0 s1 s2 (q2 &&& (3 : Int32))) (lvl_ref s0 s1 s2 (q3 &&& (3 : Int32))) (lvl_ref s0 s1 s2 (q0 &&& (3 : Int32))) (lvl_ref s0 s1 s2 (q1 &&& (3 : Int32))) Ex_b Ex_a F1_b F2_b F1_a F2_a) hown (hw _ (List.mem_of_getElem? (i := 24) rfl)) (hw _ (List.mem_of_getElem? (i := 25) rfl)) (notFace_of_selects (args := #[]) (mvT hZ (hw _ (List.mem_of_getElem? (i := 27) rfl)))) (hw _ (List.mem_of_getElem? (i := 27) rfl)) (hw _ (List.mem_of_getElem? (i := 26) rfl)) (hw _ (List.mem_of_getElem? (i := 2) rfl)) (hw _ (List.mem_of_getElem? (i := 28) rfl)) (by decide) e34 Ex_b (g := (mkF m 86 #[.val (.int q0), .val (.int q1), .val (.int q2), .val (.int q3), .val (.int q4), .val (.ref a), .val (.ref b), .val (.int mm), .val (.int ee)] [(.ref a), (.ref b)])) rfl (by rw [hml]; rfl) (lenOf pd_4 rfl) rfl (W := 0) (by show 2 * 0 + _ ≤ _; exact Nat.le_of_eq rfl) (hb hby at_86) (by decide) (by decide) (by decide) (by decide)
      obtain ⟨rfl, rfl, e36⟩ := hQ36
      rw [List.append_nil] at X36
      refine GoOn.step st36 ?_
      show GoOn p e below _ (T36.setTop (mkF m 89 #[.val (.int q0), .val (.int q1), .val (.int q2), .val (.int q3), .val (.int q4), .val (.ref a), .val (.ref b), .val (.int mm), .val (.int ee)] [(.int (if (lvl s0 s1 s2 (q2 &&& (3 : Int32))) = (lvl s0 s1 s2 (q0 &&& (3 : Int32))) then (if (lvl s0 s1 s2 (q3 &&& (3 : Int32))) = (lvl s0 s1 s2 (q1 &&& (3 : Int32))) then (1 : Int32) else 0) else 0))]))
      refine GoOn.step (fun t₀ k₀ => XS.iload X36.here hx rfl (hb hby at_89) rfl k₀) ?_
      show GoOn p e below _ (T36.setTop (mkF m 91 #[.val (.int q0), .val (.int q1), .val (.int q2), .val (.int q3), .val (.int q4), .val (.ref a), .val (.ref b), .val (.int mm), .val (.int ee)] [(.int ee), (.int (if (lvl s0 s1 s2 (q2 &&& (3 : Int32))) = (lvl s0 s1 s2 (q0 &&& (3 : Int32))) then (if (lvl s0 s1 s2 (q3 &&& (3 : Int32))) = (lvl s0 s1 s2 (q1 &&& (3 : Int32))) then (1 : Int32) else 0) else 0))]))
      have hf37 : (if (lvl s0 s1 s2 (q2 &&& (3 : Int32))) = (lvl s0 s1 s2 (q0 &&& (3 : Int32))) then (if (lvl s0 s1 s2 (q3 &&& (3 : Int32))) = (lvl s0 s1 s2 (q1 &&& (3 : Int32))) then (1 : Int32) else 0) else 0) = ee := (by rw [he]; simp only [eq_comm (a := lvl s0 s1 s2 (q2 &&& (3 : Int32))), eq_comm (a := lvl s0 s1 s2 (q3 &&& (3 : Int32))), x1, x2])
      refine GoOn.step (fun t₀ k₀ => XS.icmpNo X36.here hx rfl (hb hby at_91) rfl (teq hf37).2 k₀) ?_
      show GoOn p e below _ (T36.setTop (mkF m 94 #[.val (.int q0), .val (.int q1), .val (.int q2), .val (.int q3), .val (.int q4), .val (.ref a), .val (.ref b), .val (.int mm), .val (.int ee)] []))
      refine GoOn.step (fun t₀ k₀ => XS.iconst X36.here hx rfl (hb hby at_94) k₀) ?_
      show GoOn p e below _ (T36.setTop (mkF m 95 #[.val (.int q0), .val (.int q1), .val (.int q2), .val (.int q3), .val (.int q4), .val (.ref a), .val (.ref b), .val (.int mm), .val (.int ee)] [(.int (1 : Int32))]))
      refine GoOn.step (fun t₀ k₀ => XS.goto X36.here hx rfl (pc0 := 95) (pc' := 99) rfl (hb hby at_95) (by decide) (by decide) k₀) ?_
      show GoOn p e below _ (T36.setTop (mkF m 99 #[.val (.int q0), .val (.int q1), .val (.int q2), .val (.int q3), .val (.int q4), .val (.ref a), .val (.ref b), .val (.int mm), .val (.int ee)] [(.int (1 : Int32))]))
      exact GoOn.retN X36 hx hrt hlk (by simp) (hb hby at_99) (by decide) (by decide) (by first | exact ⟨rfl, N0⟩ | (rw [e36]; exact ⟨rfl, N0⟩))
    by_cases c0 : (q0 &&& (3 : Int32)) = (q2 &&& (3 : Int32))
    · refine GoOn.step (fun t₀ k₀ => XS.icmpNo X33.here hx rfl (hb hby at_51) rfl (teq c0).2 k₀) ?_
      show GoOn p e below _ (T33.setTop (mkF m 54 #[.val (.int q0), .val (.int q1), .val (.int q2), .val (.int q3), .val (.int q4), .val (.ref a), .val (.ref b), .val (.int mm), .unset] []))
      refine GoOn.step (fun t₀ k₀ => XS.iloadN X33.here hx rfl (hb hby at_54) rfl k₀) ?_
      show GoOn p e below _ (T33.setTop (mkF m 55 #[.val (.int q0), .val (.int q1), .val (.int q2), .val (.int q3), .val (.int q4), .val (.ref a), .val (.ref b), .val (.int mm), .unset] [(.int q1)]))
      refine GoOn.step (fun t₀ k₀ => XS.iconst X33.here hx rfl (hb hby at_55) k₀) ?_
      show GoOn p e below _ (T33.setTop (mkF m 56 #[.val (.int q0), .val (.int q1), .val (.int q2), .val (.int q3), .val (.int q4), .val (.ref a), .val (.ref b), .val (.int mm), .unset] [(.int (3 : Int32)), (.int q1)]))
      refine GoOn.step (fun t₀ k₀ => XS.iand X33.here hx rfl (hb hby at_56) rfl k₀) ?_
      show GoOn p e below _ (T33.setTop (mkF m 57 #[.val (.int q0), .val (.int q1), .val (.int q2), .val (.int q3), .val (.int q4), .val (.ref a), .val (.ref b), .val (.int mm), .unset] [(.int (q1 &&& (3 : Int32)))]))
      refine GoOn.step (fun t₀ k₀ => XS.iloadN X33.here hx rfl (hb hby at_57) rfl k₀) ?_
      show GoOn p e below _ (T33.setTop (mkF m 58 #[.val (.int q0), .val (.int q1), .val (.int q2), .val (.int q3), .val (.int q4), .val (.ref a), .val (.ref b), .val (.int mm), .unset] [(.int q3), (.int (q1 &&& (3 : Int32)))]))
      refine GoOn.step (fun t₀ k₀ => XS.iconst X33.here hx rfl (hb hby at_58) k₀) ?_
      show GoOn p e below _ (T33.setTop (mkF m 59 #[.val (.int q0), .val (.int q1), .val (.int q2), .val (.int q3), .val (.int q4), .val (.ref a), .val (.ref b), .val (.int mm), .unset] [(.int (3 : Int32)), (.int q3), (.int (q1 &&& (3 : Int32)))]))
      refine GoOn.step (fun t₀ k₀ => XS.iand X33.here hx rfl (hb hby at_59) rfl k₀) ?_
      show GoOn p e below _ (T33.setTop (mkF m 60 #[.val (.int q0), .val (.int q1), .val (.int q2), .val (.int q3), .val (.int q4), .val (.ref a), .val (.ref b), .val (.int mm), .unset] [(.int (q3 &&& (3 : Int32))), (.int (q1 &&& (3 : Int32)))]))
      by_cases c1 : (q1 &&& (3 : Int32)) = (q3 &&& (3 : Int32))
      · refine GoOn.step (fun t₀ k₀ => XS.icmpNo X33.here hx rfl (hb hby at_60) rfl (teq c1).2 k₀) ?_
        show GoOn p e below _ (T33.setTop (mkF m 63 #[.val (.int q0), .val (.int q1), .val (.int q2), .val (.int q3), .val (.int q4), .val (.ref a), .val (.ref b), .val (.int mm), .unset] []))
        refine GoOn.step (fun t₀ k₀ => XS.iconst X33.here hx rfl (hb hby at_63) k₀) ?_
        show GoOn p e below _ (T33.setTop (mkF m 64 #[.val (.int q0), .val (.int q1), .val (.int q2), .val (.int q3), .val (.int q4), .val (.ref a), .val (.ref b), .val (.int mm), .unset] [(.int (1 : Int32))]))
        refine GoOn.step (fun t₀ k₀ => XS.goto X33.here hx rfl (pc0 := 64) (pc' := 68) rfl (hb hby at_64) (by decide) (by decide) k₀) ?_
        show GoOn p e below _ (T33.setTop (mkF m 68 #[.val (.int q0), .val (.int q1), .val (.int q2), .val (.int q3), .val (.int q4), .val (.ref a), .val (.ref b), .val (.int mm), .unset] [(.int (1 : Int32))]))
        exact J _ (by rw [if_pos c0, if_pos c1])
      · refine GoOn.step (fun t₀ k₀ => XS.icmpYes X33.here hx rfl (pc0 := 60) (pc' := 67) rfl (hb hby at_60) rfl (feq c1).2 (by decide) (by decide) k₀) ?_
        show GoOn p e below _ (T33.setTop (mkF m 67 #[.val (.int q0), .val (.int q1), .val (.int q2), .val (.int q3), .val (.int q4), .val (.ref a), .val (.ref b), .val (.int mm), .unset] []))
        refine GoOn.step (fun t₀ k₀ => XS.iconst X33.here hx rfl (hb hby at_67) k₀) ?_
        show GoOn p e below _ (T33.setTop (mkF m 68 #[.val (.int q0), .val (.int q1), .val (.int q2), .val (.int q3), .val (.int q4), .val (.ref a), .val (.ref b), .val (.int mm), .unset] [(.int (0 : Int32))]))
        exact J _ (by rw [if_pos c0, if_neg c1])
    · refine GoOn.step (fun t₀ k₀ => XS.icmpYes X33.here hx rfl (pc0 := 51) (pc' := 67) rfl (hb hby at_51) rfl (feq c0).2 (by decide) (by decide) k₀) ?_
      show GoOn p e below _ (T33.setTop (mkF m 67 #[.val (.int q0), .val (.int q1), .val (.int q2), .val (.int q3), .val (.int q4), .val (.ref a), .val (.ref b), .val (.int mm), .unset] []))
      refine GoOn.step (fun t₀ k₀ => XS.iconst X33.here hx rfl (hb hby at_67) k₀) ?_
      show GoOn p e below _ (T33.setTop (mkF m 68 #[.val (.int q0), .val (.int q1), .val (.int q2), .val (.int q3), .val (.int q4), .val (.ref a), .val (.ref b), .val (.int mm), .unset] [(.int (0 : Int32))]))
      exact J _ (by rw [if_neg c0])
  · refine GoOn.step (fun t₀ k₀ => XS.ifYes X33.here hx rfl (pc0 := 42) (pc' := 100) rfl (hb hby at_42) rfl ((if0 _ _).trans (feq m0).2) (by decide) (by decide) k₀) ?_
    show GoOn p e below _ (T33.setTop (mkF m 100 #[.val (.int q0), .val (.int q1), .val (.int q2), .val (.int q3), .val (.int q4), .val (.ref a), .val (.ref b), .val (.int mm), .unset] []))
    refine GoOn.step (fun t₀ k₀ => XS.iload X33.here hx rfl (hb hby at_100) rfl k₀) ?_
    show GoOn p e below _ (T33.setTop (mkF m 102 #[.val (.int q0), .val (.int q1), .val (.int q2), .val (.int q3), .val (.int q4), .val (.ref a), .val (.ref b), .val (.int mm), .unset] [(.int mm)]))
    refine GoOn.step (fun t₀ k₀ => XS.iconst X33.here hx rfl (hb hby at_102) k₀) ?_
    show GoOn p e below _ (T33.setTop (mkF m 103 #[.val (.int q0), .val (.int q1), .val (.int q2), .val (.int q3), .val (.int q4), .val (.ref a), .val (.ref b), .val (.int mm), .unset] [(.int (1 : Int32)), (.int mm)]))
    by_cases m1 : mm = (1 : Int32)
    · refine GoOn.step (fun t₀ k₀ => XS.icmpNo X33.here hx rfl (hb hby at_103) rfl (teq m1).2 k₀) ?_
      show GoOn p e below _ (T33.setTop (mkF m 106 #[.val (.int q0), .val (.int q1), .val (.int q2), .val (.int q3), .val (.int q4), .val (.ref a), .val (.ref b), .val (.int mm), .unset] []))
      refine GoOn.step (fun t₀ k₀ => XS.aconstNull X33.here hx rfl (hb hby at_106) k₀) ?_
      show GoOn p e below _ (T33.setTop (mkF m 107 #[.val (.int q0), .val (.int q1), .val (.int q2), .val (.int q3), .val (.int q4), .val (.ref a), .val (.ref b), .val (.int mm), .unset] [.null]))
      refine GoOn.step (fun t₀ k₀ => XS.astore X33.here hx rfl (hb hby at_107) rfl rfl (l' := #[.val (.int q0), .val (.int q1), .val (.int q2), .val (.int q3), .val (.int q4), .val (.ref a), .val (.ref b), .val (.int mm), .val .null]) rfl k₀) ?_
      show GoOn p e below _ (T33.setTop (mkF m 109 #[.val (.int q0), .val (.int q1), .val (.int q2), .val (.int q3), .val (.int q4), .val (.ref a), .val (.ref b), .val (.int mm), .val .null] []))
      refine GoOn.step (fun t₀ k₀ => XS.aload X33.here hx rfl (hb hby at_109) rfl rfl k₀) ?_
      show GoOn p e below _ (T33.setTop (mkF m 111 #[.val (.int q0), .val (.int q1), .val (.int q2), .val (.int q3), .val (.int q4), .val (.ref a), .val (.ref b), .val (.int mm), .val .null] [(.ref a)]))
      refine GoOn.step (fun t₀ k₀ => XS.aload X33.here hx rfl (hb hby at_111) rfl rfl k₀) ?_
      show GoOn p e below _ (T33.setTop (mkF m 113 #[.val (.int q0), .val (.int q1), .val (.int q2), .val (.int q3), .val (.int q4), .val (.ref a), .val (.ref b), .val (.int mm), .val .null] [.null, (.ref a)]))
      obtain ⟨_, T38, L38, X38, hQ38, st38⟩ := kCallV X33 hx hZ (a := a) (argsL := [.null]) (rest := []) (c_eqn l Z a0 hw a _) hown (hw _ (List.mem_of_getElem? (i := 24) rfl)) (hw _ (List.mem_of_getElem? (i := 25) rfl)) (notFace_of_selects (args := #[]) (mvT hZ (hw _ (List.mem_of_getElem? (i := 27) rfl)))) (hw _ (List.mem_of_getElem? (i := 27) rfl)) (hw _ (List.mem_of_getElem? (i := 26) rfl)) (hw _ (List.mem_of_getElem? (i := 2) rfl)) (hw _ (List.mem_of_getElem? (i := 28) rfl)) (by decide) rfl Ex_a (g := (mkF m 113 #[.val (.int q0), .val (.int q1), .val (.int q2), .val (.int q3), .val (.int q4), .val (.ref a), .val (.ref b), .val (.int mm), .val .null] [.null, (.ref a)])) rfl (by rw [hml]; rfl) (lenOf pd_4 rfl) rfl (W := 0) (by show 2 * 0 + _ ≤ _; exact Nat.le_of_eq rfl) (hb hby at_113) (by decide) (by decide) (by decide) (by decide)
      obtain ⟨rfl, rfl, e38⟩ := hQ38
      rw [List.append_nil] at X38
      refine GoOn.step st38 ?_
      show GoOn p e below _ (T38.setTop (mkF m 116 #[.val (.int q0), .val (.int q1), .val (.int q2), .val (.int q3), .val (.int q4), .val (.ref a), .val (.ref b), .val (.int mm), .val .null] [(.int (0 : Int32))]))
      have hf39 : (0 : Int32) = (0 : Int32) := rfl
      refine GoOn.step (fun t₀ k₀ => XS.ifNo X38.here hx rfl (hb hby at_116) rfl ((if0 _ _).trans (teq hf39).2) k₀) ?_
      show GoOn p e below _ (T38.setTop (mkF m 119 #[.val (.int q0), .val (.int q1), .val (.int q2), .val (.int q3), .val (.int q4), .val (.ref a), .val (.ref b), .val (.int mm), .val .null] []))
      refine GoOn.step (fun t₀ k₀ => XS.iconst X38.here hx rfl (hb hby at_119) k₀) ?_
      show GoOn p e below _ (T38.setTop (mkF m 120 #[.val (.int q0), .val (.int q1), .val (.int q2), .val (.int q3), .val (.int q4), .val (.ref a), .val (.ref b), .val (.int mm), .val .null] [(.int (1 : Int32))]))
      refine GoOn.step (fun t₀ k₀ => XS.goto X38.here hx rfl (pc0 := 120) (pc' := 124) rfl (hb hby at_120) (by decide) (by decide) k₀) ?_
      show GoOn p e below _ (T38.setTop (mkF m 124 #[.val (.int q0), .val (.int q1), .val (.int q2), .val (.int q3), .val (.int q4), .val (.ref a), .val (.ref b), .val (.int mm), .val .null] [(.int (1 : Int32))]))
      exact GoOn.retN X38 hx hrt hlk (by simp) (hb hby at_124) (by decide) (by decide) (by first | exact ⟨rfl, N0⟩ | (rw [e38]; exact ⟨rfl, N0⟩))
    · refine GoOn.step (fun t₀ k₀ => XS.icmpYes X33.here hx rfl (pc0 := 103) (pc' := 125) rfl (hb hby at_103) rfl (feq m1).2 (by decide) (by decide) k₀) ?_
      show GoOn p e below _ (T33.setTop (mkF m 125 #[.val (.int q0), .val (.int q1), .val (.int q2), .val (.int q3), .val (.int q4), .val (.ref a), .val (.ref b), .val (.int mm), .unset] []))
      refine GoOn.step (fun t₀ k₀ => XS.iload X33.here hx rfl (hb hby at_125) rfl k₀) ?_
      show GoOn p e below _ (T33.setTop (mkF m 127 #[.val (.int q0), .val (.int q1), .val (.int q2), .val (.int q3), .val (.int q4), .val (.ref a), .val (.ref b), .val (.int mm), .unset] [(.int mm)]))
      refine GoOn.step (fun t₀ k₀ => XS.iconst X33.here hx rfl (hb hby at_127) k₀) ?_
      show GoOn p e below _ (T33.setTop (mkF m 128 #[.val (.int q0), .val (.int q1), .val (.int q2), .val (.int q3), .val (.int q4), .val (.ref a), .val (.ref b), .val (.int mm), .unset] [(.int (2 : Int32)), (.int mm)]))
      by_cases m2 : mm = (2 : Int32)
      · refine GoOn.step (fun t₀ k₀ => XS.icmpNo X33.here hx rfl (hb hby at_128) rfl (teq m2).2 k₀) ?_
        show GoOn p e below _ (T33.setTop (mkF m 131 #[.val (.int q0), .val (.int q1), .val (.int q2), .val (.int q3), .val (.int q4), .val (.ref a), .val (.ref b), .val (.int mm), .unset] []))
        refine GoOn.step (fun t₀ k₀ => XS.iload X33.here hx rfl (hb hby at_131) rfl k₀) ?_
        show GoOn p e below _ (T33.setTop (mkF m 133 #[.val (.int q0), .val (.int q1), .val (.int q2), .val (.int q3), .val (.int q4), .val (.ref a), .val (.ref b), .val (.int mm), .unset] [(.int q4)]))
        obtain ⟨_, T40, L40, X40, hQ40, st40⟩ := kCallS X33 hx hZ (argsL := [(.int q4)]) (rest := []) (c_vo l Z a0 hw q4 T33.heap n0 Z0 O CL) hown (hw _ (List.mem_of_getElem? (i := 31) rfl)) (hw _ (List.mem_of_getElem? (i := 32) rfl)) (hw _ (List.mem_of_getElem? (i := 33) rfl)) (hw _ (List.mem_of_getElem? (i := 34) rfl)) (by decide) rfl (g := (mkF m 133 #[.val (.int q0), .val (.int q1), .val (.int q2), .val (.int q3), .val (.int q4), .val (.ref a), .val (.ref b), .val (.int mm), .unset] [(.int q4)])) rfl (by rw [hml]; rfl) (lenOf pd_5 rfl) rfl (W := 0) (by show 2 * 0 + _ ≤ _; exact Nat.le_of_eq rfl) (hb hby at_133) (by decide) (by decide) (by decide) (by decide)
        obtain ⟨f, rfl, N40, K40, Ef⟩ := hQ40
        replace N0 := Fr.app N0 N40
        replace Ex_a := Ex_a.keep K40
        replace F1_a := F1_a.keep K40 nin0
        replace F2_a := F2_a.keep K40 nin0
        replace Ex_b := Ex_b.keep K40
        replace F1_b := F1_b.keep K40 nin0
        replace F2_b := F2_b.keep K40 nin0
        replace O := O.keep K40 all0
        replace Z0 := Nat.le_trans Z0 K40.1
        refine GoOn.step st40 ?_
        show GoOn p e below _ (T40.setTop (mkF m 136 #[.val (.int q0), .val (.int q1), .val (.int q2), .val (.int q3), .val (.int q4), .val (.ref a), .val (.ref b), .val (.int mm), .unset] [(.ref f)]))
        refine GoOn.step (fun t₀ k₀ => XS.astore X40.here hx rfl (hb hby at_136) rfl rfl (l' := #[.val (.int q0), .val (.int q1), .val (.int q2), .val (.int q3), .val (.int q4), .val (.ref a), .val (.ref b), .val (.int mm), .val (.ref f)]) rfl k₀) ?_
        show GoOn p e below _ (T40.setTop (mkF m 138 #[.val (.int q0), .val (.int q1), .val (.int q2), .val (.int q3), .val (.int q4), .val (.ref a), .val (.ref b), .val (.int mm), .val (.ref f)] []))
        refine GoOn.step (fun t₀ k₀ => XS.aload X40.here hx rfl (hb hby at_138) rfl rfl k₀) ?_
        show GoOn p e below _ (T40.setTop (mkF m 140 #[.val (.int q0), .val (.int q1), .val (.int q2), .val (.int q3), .val (.int q4), .val (.ref a), .val (.ref b), .val (.int mm), .val (.ref f)] [(.ref a)]))
        refine GoOn.step (fun t₀ k₀ => XS.aload X40.here hx rfl (hb hby at_140) rfl rfl k₀) ?_
        show GoOn p e below _ (T40.setTop (mkF m 142 #[.val (.int q0), .val (.int q1), .val (.int q2), .val (.int q3), .val (.int q4), .val (.ref a), .val (.ref b), .val (.int mm), .val (.ref f)] [(.ref f), (.ref a)]))
        obtain ⟨_, T41, L41, X41, hQ41, st41⟩ := kCallV X40 hx hZ (a := a) (argsL := [(.ref f)]) (rest := []) (c_eql l Z a0 hw a f _ Ef) hown (hw _ (List.mem_of_getElem? (i := 24) rfl)) (hw _ (List.mem_of_getElem? (i := 25) rfl)) (notFace_of_selects (args := #[]) (mvT hZ (hw _ (List.mem_of_getElem? (i := 27) rfl)))) (hw _ (List.mem_of_getElem? (i := 27) rfl)) (hw _ (List.mem_of_getElem? (i := 26) rfl)) (hw _ (List.mem_of_getElem? (i := 2) rfl)) (hw _ (List.mem_of_getElem? (i := 28) rfl)) (by decide) rfl Ex_a (g := (mkF m 142 #[.val (.int q0), .val (.int q1), .val (.int q2), .val (.int q3), .val (.int q4), .val (.ref a), .val (.ref b), .val (.int mm), .val (.ref f)] [(.ref f), (.ref a)])) rfl (by rw [hml]; rfl) (lenOf pd_4 rfl) rfl (W := 0) (by show 2 * 0 + _ ≤ _; exact Nat.le_of_eq rfl) (hb hby at_142) (by decide) (by decide) (by decide) (by decide)
        obtain ⟨rfl, rfl, e41⟩ := hQ41
        rw [List.append_nil] at X41
        refine GoOn.step st41 ?_
        show GoOn p e below _ (T41.setTop (mkF m 145 #[.val (.int q0), .val (.int q1), .val (.int q2), .val (.int q3), .val (.int q4), .val (.ref a), .val (.ref b), .val (.int mm), .val (.ref f)] [(.int (0 : Int32))]))
        have hf42 : (0 : Int32) = (0 : Int32) := rfl
        refine GoOn.step (fun t₀ k₀ => XS.ifNo X41.here hx rfl (hb hby at_145) rfl ((if0 _ _).trans (teq hf42).2) k₀) ?_
        show GoOn p e below _ (T41.setTop (mkF m 148 #[.val (.int q0), .val (.int q1), .val (.int q2), .val (.int q3), .val (.int q4), .val (.ref a), .val (.ref b), .val (.int mm), .val (.ref f)] []))
        refine GoOn.step (fun t₀ k₀ => XS.iconst X41.here hx rfl (hb hby at_148) k₀) ?_
        show GoOn p e below _ (T41.setTop (mkF m 149 #[.val (.int q0), .val (.int q1), .val (.int q2), .val (.int q3), .val (.int q4), .val (.ref a), .val (.ref b), .val (.int mm), .val (.ref f)] [(.int (1 : Int32))]))
        refine GoOn.step (fun t₀ k₀ => XS.goto X41.here hx rfl (pc0 := 149) (pc' := 153) rfl (hb hby at_149) (by decide) (by decide) k₀) ?_
        show GoOn p e below _ (T41.setTop (mkF m 153 #[.val (.int q0), .val (.int q1), .val (.int q2), .val (.int q3), .val (.int q4), .val (.ref a), .val (.ref b), .val (.int mm), .val (.ref f)] [(.int (1 : Int32))]))
        exact GoOn.retN X41 hx hrt hlk (by simp) (hb hby at_153) (by decide) (by decide) (by first | exact ⟨rfl, N0⟩ | (rw [e41]; exact ⟨rfl, N0⟩))
      · refine GoOn.step (fun t₀ k₀ => XS.icmpYes X33.here hx rfl (pc0 := 128) (pc' := 154) rfl (hb hby at_128) rfl (feq m2).2 (by decide) (by decide) k₀) ?_
        show GoOn p e below _ (T33.setTop (mkF m 154 #[.val (.int q0), .val (.int q1), .val (.int q2), .val (.int q3), .val (.int q4), .val (.ref a), .val (.ref b), .val (.int mm), .unset] []))
        refine GoOn.step (fun t₀ k₀ => XS.aload X33.here hx rfl (hb hby at_154) rfl rfl k₀) ?_
        show GoOn p e below _ (T33.setTop (mkF m 156 #[.val (.int q0), .val (.int q1), .val (.int q2), .val (.int q3), .val (.int q4), .val (.ref a), .val (.ref b), .val (.int mm), .unset] [(.ref a)]))
        refine GoOn.step (fun t₀ k₀ => XS.aload X33.here hx rfl (hb hby at_156) rfl rfl k₀) ?_
        show GoOn p e below _ (T33.setTop (mkF m 158 #[.val (.int q0), .val (.int q1), .val (.int q2), .val (.int q3), .val (.int q4), .val (.ref a), .val (.ref b), .val (.int mm), .unset] [(.ref a), (.ref a)]))
        obtain ⟨_, T43, L43, X43, hQ43, st43⟩ := kCallV X33 hx hZ (a := a) (argsL := [(.ref a)]) (rest := []) (c_eqs l Z a0 hw a a (lvl s0 s1 s2 (q0 &&& (3 : Int32))) (lvl s0 s1 s2 (q1 &&& (3 : Int32))) (lvl s0 s1 s2 (q0 &&& (3 : Int32))) (lvl s0 s1 s2 (q1 &&& (3 : Int32))) _ (lvl_ref s0 s1 s2 (q0 &&& (3 : Int32))) (lvl_ref s0 s1 s2 (q1 &&& (3 : Int32))) (lvl_ref s0 s1 s2 (q0 &&& (3 : Int32))) (lvl_ref s0 s1 s2 (q1 &&& (3 : Int32))) Ex_a Ex_a F1_a F2_a F1_a F2_a) hown (hw _ (List.mem_of_getElem? (i := 24) rfl)) (hw _ (List.mem_of_getElem? (i := 25) rfl)) (notFace_of_selects (args := #[]) (mvT hZ (hw _ (List.mem_of_getElem? (i := 27) rfl)))) (hw _ (List.mem_of_getElem? (i := 27) rfl)) (hw _ (List.mem_of_getElem? (i := 26) rfl)) (hw _ (List.mem_of_getElem? (i := 2) rfl)) (hw _ (List.mem_of_getElem? (i := 28) rfl)) (by decide) rfl Ex_a (g := (mkF m 158 #[.val (.int q0), .val (.int q1), .val (.int q2), .val (.int q3), .val (.int q4), .val (.ref a), .val (.ref b), .val (.int mm), .unset] [(.ref a), (.ref a)])) rfl (by rw [hml]; rfl) (lenOf pd_4 rfl) rfl (W := 0) (by show 2 * 0 + _ ≤ _; exact Nat.le_of_eq rfl) (hb hby at_158) (by decide) (by decide) (by decide) (by decide)
        obtain ⟨rfl, rfl, e43⟩ := hQ43
        rw [List.append_nil] at X43
        refine GoOn.step st43 ?_
        show GoOn p e below _ (T43.setTop (mkF m 161 #[.val (.int q0), .val (.int q1), .val (.int q2), .val (.int q3), .val (.int q4), .val (.ref a), .val (.ref b), .val (.int mm), .unset] [(.int (if (lvl s0 s1 s2 (q0 &&& (3 : Int32))) = (lvl s0 s1 s2 (q0 &&& (3 : Int32))) then (if (lvl s0 s1 s2 (q1 &&& (3 : Int32))) = (lvl s0 s1 s2 (q1 &&& (3 : Int32))) then (1 : Int32) else 0) else 0))]))
        rw [show (if (lvl s0 s1 s2 (q0 &&& (3 : Int32))) = (lvl s0 s1 s2 (q0 &&& (3 : Int32))) then (if (lvl s0 s1 s2 (q1 &&& (3 : Int32))) = (lvl s0 s1 s2 (q1 &&& (3 : Int32))) then (1 : Int32) else 0) else 0) = (1 : Int32) from (by rw [if_pos rfl, if_pos rfl])]
        exact GoOn.retN X43 hx hrt hlk (by simp) (hb hby at_161) (by decide) (by decide) (by first | exact ⟨rfl, N0⟩ | (rw [e43]; exact ⟨rfl, N0⟩))
theorem cai_of {s : State} {args : Array Value} (hsets : ∀ d ∈ jdkStatics_1, d.before args s = true) (wi : (Jvm.Cond.initialized "java/lang/Integer$IntegerCache").before args s = true) : CaI s := by
  have w3 := own_eqI (Cond.before_iff.mp (hsets _ (List.mem_of_getElem? (i := 3) rfl)))
  have w2 := Cond.before_iff.mp (hsets _ (List.mem_of_getElem? (i := 4) rfl))
  obtain ⟨ca, ev⟩ := arr_v w2
  obtain ⟨c, A⟩ := Arr.start ev w2
  have ha := A.fin (Vm.Alike.refl _)
  have w4 := own_len ev ha (Cond.before_iff.mp (hsets _ (List.mem_of_getElem? (i := 6) rfl)))
  have hl : c.slots.size = 256 := own_nat w4.1 w4.2 (by decide)
  have w5 := Cond.all_elim ev ha (Cond.before_iff.mp (hsets _ (List.mem_of_getElem? (i := 7) rfl)))
  have hb : ∀ i, i < 256 → ∃ b, c.slots[i]? = some (.ref b) ∧ Exa s s.heap b "java/lang/Integer" := fun i hi => own_elem ev A.1 (by omega) (and_e (w5 i (by rw [hl]; exact hi))).1
  refine ⟨ca, fun i => if q : i < 256 then Classical.choose (hb i q) else 0, Sta.start w3 (Or.inl (hsets _ (List.mem_of_getElem? (i := 1) rfl))), Sta.start ev (Or.inr ⟨wi, hsets _ (List.mem_of_getElem? (i := 2) rfl)⟩), ⟨c, A, hl, fun i hi => ?_⟩, fun i hi => ?_⟩
  · dsimp only; rw [dif_pos hi]; exact (Classical.choose_spec (hb i hi)).1
  · dsimp only; rw [dif_pos hi]; exact (Classical.choose_spec (hb i hi)).2
theorem lev_of {s : State} {args : Array Value} (hw : ∀ d ∈ tables_1, d.before args s = true) (hn : narrow_1.value args s none s [] = some true) : ∃ s0 s1 s2, Lev s s0 s1 s2 := by
  obtain ⟨n1, hn⟩ := and_e hn
  obtain ⟨n2, hn⟩ := and_e hn
  obtain ⟨n3, hn⟩ := and_e hn
  obtain ⟨n4, hn⟩ := and_e hn
  obtain ⟨n5, n6⟩ := and_e hn
  obtain ⟨s0, e0⟩ := exa_v n1
  obtain ⟨s2, e2⟩ := exa_v n2
  obtain ⟨s1, e1⟩ := exa_v n3
  have f0 := Fld.start ((fld_at e0).symm.trans (own_eqI n4))
  have f2 := Fld.start ((fld_at e2).symm.trans (own_eqI n5))
  have f1 := Fld.start ((fld_at e1).symm.trans (own_eqI n6))
  have wi := (hw _ (List.mem_of_getElem? (i := 8) rfl))
  exact ⟨s0, s1, s2, Sta.start e0 (Or.inr ⟨wi, (hw _ (List.mem_of_getElem? (i := 9) rfl))⟩), Sta.start e1 (Or.inr ⟨wi, (hw _ (List.mem_of_getElem? (i := 23) rfl))⟩), Sta.start e2 (Or.inr ⟨wi, (hw _ (List.mem_of_getElem? (i := 21) rfl))⟩), f0.ne f1 (by decide), f0.ne f2 (by decide), f1.ne f2 (by decide)⟩
set_option maxRecDepth 65536 in
set_option maxHeartbeats 40000000 in
theorem comes_1 {Post : Tables → Env → Array Value → State → Outcome → State → Prop} (hpost : ∀ tb e args s v u, (limb_1_1.after args s (.returned v) u = true ∧ limb_1_2.after args s (.returned v) u = true ∧ True) → FrameEnd s (.returned v) u (Jvm.fieldLocs frame_1_writes args s ++ Jvm.arrayLocs frame_1_arrays args s ++ Jvm.staticLocs frame_1_statics s) 16 128 → Post tb e args s (.returned v) u) :
    ArmFor flags0 classFile x code maxLocals ret World_1 tables_1 room_1 Calls_1 rest_1 Pre_1 Post := by
  intro l hfl _ _ p e ha hc hk s m args below hf hA hF happ hP
  obtain ⟨hcalls, hrest, hpre⟩ := hP
  obtain ⟨-, -, -, hnamed, -, -, -, hat⟩ := (Spec.applies_iff hf).mp happ
  obtain ⟨hg, hn⟩ := and_e (Cond.before_iff.mp (show (Jvm.Cond.and given_1 narrow_1).before args s = true from hpre))
  obtain ⟨g0, r0⟩ := and_e hg
  obtain ⟨g1, r1⟩ := and_e r0
  obtain ⟨g2, r2⟩ := and_e r1
  obtain ⟨g3, r3⟩ := and_e r2
  obtain ⟨g4, r4⟩ := and_e r3
  obtain ⟨w0, w1, w2, w3, w4, rfl⟩ : ∃ w0 w1 w2 w3 w4 : Value, args = #[w0, w1, w2, w3, w4] := by
    have hs : args.size = 5 := by simpa [Cond.value, given_1] using g0
    obtain ⟨L⟩ := args
    match L, hs with
    | [w0, w1, w2, w3, w4], _ => exact ⟨w0, w1, w2, w3, w4, rfl⟩
  have hw := fun d (hd : d ∈ tables_1) => atoms_spec (ws := Jvm.Cond.code x code maxLocals ret :: tables_1) hat d (List.mem_cons_of_mem _ hd)
  have hfit : Fit s := fun {y c} hc i hi => by
    obtain ⟨ha, rfl⟩ := Array.getElem?_eq_some_iff.mp hc
    have q := List.all_eq_true.mp ((Array.all_eq_true_iff_forall_mem.mp hF) _ (Array.getElem_mem ha)) i (List.mem_range.mpr hi)
    simpa [Array.getElem?_eq_getElem hi] using q
  obtain ⟨hsets, hown0⟩ := atoms_of _ (rest_1_c_eq ▸ (show rest_1_c.before _ s = true from hrest))
  have hr0 := Cond.before_iff.mp hown0
  obtain ⟨i0, ei0⟩ := is_v g1
  obtain rfl : w0 = (.int i0) := Option.some.inj ei0
  obtain ⟨i1, ei1⟩ := is_v g2
  obtain rfl : w1 = (.int i1) := Option.some.inj ei1
  obtain ⟨i2, ei2⟩ := is_v g3
  obtain rfl : w2 = (.int i2) := Option.some.inj ei2
  obtain ⟨i3, ei3⟩ := is_v g4
  obtain rfl : w3 = (.int i3) := Option.some.inj ei3
  obtain ⟨i4, ei4⟩ := is_v r4
  obtain rfl : w4 = (.int i4) := Option.some.inj ei4
  obtain ⟨s0, s1, s2, LE⟩ := lev_of hw hn
  obtain ⟨n, o, h1, h2, h3, _, L, rfl, ⟨rfl, N⟩, hq⟩ := law_ok l s _ hw i0 i1 i2 i3 i4 s0 s1 s2 s.heap s.heap.size (Nat.le_refl _) (Old.start s) (cai_of hsets (hw _ (List.mem_of_getElem? (i := 36) rfl))) LE tables_1 p e ha hc hk s m _ below hf ((Spec.applies_iff_loose hf).mp happ).1 ⟨rfl, State.Warmed39.refl s, rfl⟩ trivial
  refine ⟨n, _, h1, h2, h3, hpost _ _ _ _ _ _ ⟨Cond.after_iff.mpr rfl, Cond.after_iff.mpr (eq_i res_at (Term.int_eval (1)) rfl), trivial⟩ ⟨hq.1, hq.2.1, (hq.2.2.sift fun y hy => Or.inr (N y hy)).mono (by decide) (by decide)⟩⟩
theorem main_1_1 : Claimed_1_1 := comes_1 fun _ _ _ _ _ _ h hF => ⟨h.1, hF⟩
theorem main_1_2 : Claimed_1_2 := comes_1 fun _ _ _ _ _ _ h hF => ⟨h.2.1, hF⟩
end Jvm.Pilot.@@N@@
namespace Jvm.Pilot.@@N@@
open Jvm Jvm.ClassFile Sem Op Lib Jvm.Free Jvm.Stand Jvm.Pilot.@@N@@.Jvm.D
/-! MADE BY PROGRAM (witnessworld.py) out of the Statement's table words and the real class files: 16 classes; the members and pool entries that the words name. The judged class is class 1, her method 2. -/
namespace start1
open Jvm.ClassFile
def u (s : String) : CpInfo := .utf8 (stringToUtf16 s)
/-- a pool by its gaps: so many unusable entries, then the entry; so many at the end -/
def gap : Nat → List CpInfo → List CpInfo
  | 0, r => r
  | n + 1, r => .unusable :: gap n r
def poolList (es : List (Nat × CpInfo)) (last : Nat) : List CpInfo := es.foldr (fun e r => gap e.1 (e.2 :: r)) (gap last [])
def pool (es : List (Nat × CpInfo)) (last : Nat) : Array CpInfo := ⟨poolList es last⟩
def fileOf (pool : Array CpInfo) (this : Nat) (attrs : Array Attribute := #[]) (ms : Array MethodInfo := #[]) (fl : Nat := 33) (sup : Nat := 0) (ifs : Array Nat := #[]) (fds : Array FieldInfo := #[]) : ClassFile where
  minorVersion := 0
  majorVersion := 65
  constantPool := pool
  accessFlags := fl
  thisClass := this
  superClass := sup
  interfaces := ifs
  fields := fds
  methods := ms
  attributes := attrs
def plain (name : String) (sup : Option ClassId) : Class where
  name := name
  kind := .ordinary
  loader := none
  accessFlags := 33
  super := sup
  interfaces := #[]
  cf := none
  fields := #[]
  methods := #[]
  instanceTypes := #[]
  staticTypes := #[]
  resolved := #[]
  callSites := []
  init := .initialized
  statics := none
  mirror := none

def pool0 : Array CpInfo := pool [(5, u "<init>"), (0, u "()V"), (1, .class_ 10), (1, u "java/lang/Object")] 113

def k0c0 : Code := { maxStack := 0, maxLocals := 1, code := object_method_1_code, exceptionTable := #[], attributes := #[] }
def k0m0 : Method := { name := "<init>", desc := "()V", sig := { parameters := [], returnType := none }, accessFlags := 1, code := some k0c0 }
/-- java/lang/Object -/
def k0 : Class := { plain "java/lang/Object" none with
  accessFlags := 33
  interfaces := #[]
  cf := some (fileOf pool0 8 #[] #[{ accessFlags := 1, nameIndex := 5, descriptorIndex := 6, attributes := #[] }] 33 0 #[] #[])
  fields := #[]
  methods := #[k0m0]
  instanceTypes := #[]
  staticTypes := #[]
  resolved := Array.replicate 124 none
  statics := none }

def pool1 : Array CpInfo := pool [(2, .class_ 4), (1, u "java/lang/Object"), (0, u "<init>"), (0, u "()V"), (0, .fieldref 8 9), (0, .class_ 10), (0, .nameAndType 11 12), (0, u "com/example/broker_bench/brokerbench/driver/Durability$Level"), (0, u "SYNC"), (0, u "Lcom/example/broker_bench/brokerbench/driver/Durability$Level;"), (0, .fieldref 8 14), (0, .nameAndType 15 12), (0, u "ASYNC"), (0, .fieldref 8 17), (0, .nameAndType 18 12), (0, u "NONE"), (0, .class_ 20), (0, u "com/example/broker_bench/brokerbench/driver/Durability"), (0, .methodref 22 23), (0, .class_ 24), (0, .nameAndType 25 26), (0, u "com/example/broker_bench/brokerbench/driver/DurabilityEqualsPinLaw"), (0, u "level"), (0, u "(I)Lcom/example/broker_bench/brokerbench/driver/Durability$Level;"), (0, .methodref 19 28), (0, .nameAndType 5 29), (0, u "(Lcom/example/broker_bench/brokerbench/driver/Durability$Level;Lcom/example/broker_bench/brokerbench/driver/Durability$Level;)V"), (0, .methodref 19 31), (0, .nameAndType 32 33), (0, u "equals"), (0, u "(Ljava/lang/Object;)Z"), (0, .methodref 35 36), (0, .class_ 37), (0, .nameAndType 38 39), (0, u "java/lang/Integer"), (0, u "valueOf"), (0, u "(I)Ljava/lang/Integer;"), (3, u "law"), (0, u "(IIIII)Z")] 4

def k1m0 : Method := { name := "<init>", desc := "()V", sig := { parameters := [], returnType := none }, accessFlags := 1, code := none }
def k1c1 : Code := { maxStack := 2, maxLocals := 2, code := method_2_code, exceptionTable := #[], attributes := #[] }
def k1m1 : Method := { name := "level", desc := "(I)Lcom/example/broker_bench/brokerbench/driver/Durability$Level;", sig := { parameters := [.int], returnType := some (.object "com/example/broker_bench/brokerbench/driver/Durability$Level") }, accessFlags := 10, code := some k1c1 }
def k1c2 : Code := { maxStack := 4, maxLocals := 9, code := code, exceptionTable := #[], attributes := #[] }
def k1m2 : Method := { name := "law", desc := "(IIIII)Z", sig := { parameters := [.int, .int, .int, .int, .int], returnType := some .boolean }, accessFlags := 9, code := some k1c2 }
/-- com/example/broker_bench/brokerbench/driver/DurabilityEqualsPinLaw -/
def k1 : Class := { plain "com/example/broker_bench/brokerbench/driver/DurabilityEqualsPinLaw" (some 0) with
  accessFlags := 49
  interfaces := #[]
  cf := some (fileOf pool1 22 #[] #[{ accessFlags := 1, nameIndex := 5, descriptorIndex := 6, attributes := #[] }, { accessFlags := 10, nameIndex := 25, descriptorIndex := 26, attributes := #[] }, { accessFlags := 9, nameIndex := 43, descriptorIndex := 44, attributes := #[] }] 49 2 #[] #[])
  fields := #[]
  methods := #[k1m0, k1m1, k1m2]
  instanceTypes := #[]
  staticTypes := #[]
  resolved := Array.replicate 49 none
  statics := none }

def pool2 : Array CpInfo := pool [(1, .methodref 2 3), (0, .class_ 4), (0, .nameAndType 5 6), (0, u "java/lang/Object"), (0, u "<init>"), (0, u "()V"), (0, .fieldref 8 9), (0, .class_ 10), (0, .nameAndType 11 12), (0, u "com/example/broker_bench/brokerbench/driver/Durability"), (0, u "replication"), (0, u "Lcom/example/broker_bench/brokerbench/driver/Durability$Level;"), (0, .fieldref 8 14), (0, .nameAndType 15 12), (0, u "localFlush"), (6, u "(Lcom/example/broker_bench/brokerbench/driver/Durability$Level;Lcom/example/broker_bench/brokerbench/driver/Durability$Level;)V"), (5, u "equals"), (0, u "(Ljava/lang/Object;)Z"), (6, .class_ 37), (0, u "com/example/broker_bench/brokerbench/driver/Durability$Level")] 2

def k2c0 : Code := { maxStack := 2, maxLocals := 3, code := prog_10_method_1_code, exceptionTable := #[], attributes := #[] }
def k2m0 : Method := { name := "<init>", desc := "(Lcom/example/broker_bench/brokerbench/driver/Durability$Level;Lcom/example/broker_bench/brokerbench/driver/Durability$Level;)V", sig := { parameters := [(.object "com/example/broker_bench/brokerbench/driver/Durability$Level"), (.object "com/example/broker_bench/brokerbench/driver/Durability$Level")], returnType := none }, accessFlags := 1, code := some k2c0 }
def k2c1 : Code := { maxStack := 2, maxLocals := 3, code := prog_10_method_4_code, exceptionTable := #[], attributes := #[] }
def k2m1 : Method := { name := "equals", desc := "(Ljava/lang/Object;)Z", sig := { parameters := [(.object "java/lang/Object")], returnType := some .boolean }, accessFlags := 1, code := some k2c1 }
/-- com/example/broker_bench/brokerbench/driver/Durability -/
def k2 : Class := { plain "com/example/broker_bench/brokerbench/driver/Durability" (some 0) with
  accessFlags := 49
  interfaces := #[]
  cf := some (fileOf pool2 8 #[.nestMembers #[36]] #[{ accessFlags := 1, nameIndex := 5, descriptorIndex := 22, attributes := #[] }, { accessFlags := 1, nameIndex := 28, descriptorIndex := 29, attributes := #[] }] 49 2 #[] #[{ accessFlags := 18, nameIndex := 11, descriptorIndex := 12, attributes := #[] }, { accessFlags := 18, nameIndex := 15, descriptorIndex := 12, attributes := #[] }])
  fields := #[{ name := "replication", type := (.object "com/example/broker_bench/brokerbench/driver/Durability$Level"), accessFlags := 18, slot := 0, constantValue := 0 }, { name := "localFlush", type := (.object "com/example/broker_bench/brokerbench/driver/Durability$Level"), accessFlags := 18, slot := 1, constantValue := 0 }]
  methods := #[k2m0, k2m1]
  instanceTypes := #[(.object "com/example/broker_bench/brokerbench/driver/Durability$Level"), (.object "com/example/broker_bench/brokerbench/driver/Durability$Level")]
  staticTypes := #[]
  resolved := Array.replicate 40 none
  statics := none }

def pool3 : Array CpInfo := pool [(1, .class_ 2), (0, u "java/lang/constant/Constable"), (0, .class_ 4), (0, u "java/lang/Object")] 6

/-- java/lang/constant/Constable -/
def k3 : Class := { plain "java/lang/constant/Constable" (some 0) with
  accessFlags := 1537
  interfaces := #[]
  cf := some (fileOf pool3 1 #[] #[] 1537 3 #[] #[])
  fields := #[]
  methods := #[]
  instanceTypes := #[]
  staticTypes := #[]
  resolved := Array.replicate 11 none
  statics := none }

def pool4 : Array CpInfo := pool [(1, .class_ 2), (0, u "java/lang/Comparable"), (0, .class_ 4), (0, u "java/lang/Object")] 7

/-- java/lang/Comparable -/
def k4 : Class := { plain "java/lang/Comparable" (some 0) with
  accessFlags := 1537
  interfaces := #[]
  cf := some (fileOf pool4 1 #[] #[] 1537 3 #[] #[])
  fields := #[]
  methods := #[]
  instanceTypes := #[]
  staticTypes := #[]
  resolved := Array.replicate 12 none
  statics := none }

def pool5 : Array CpInfo := pool [(1, .class_ 2), (0, u "java/io/Serializable"), (0, .class_ 4), (0, u "java/lang/Object")] 2

/-- java/io/Serializable -/
def k5 : Class := { plain "java/io/Serializable" (some 0) with
  accessFlags := 1537
  interfaces := #[]
  cf := some (fileOf pool5 1 #[] #[] 1537 3 #[] #[])
  fields := #[]
  methods := #[]
  instanceTypes := #[]
  staticTypes := #[]
  resolved := Array.replicate 7 none
  statics := none }

def pool6 : Array CpInfo := pool [(2, .class_ 4), (1, u "java/lang/Enum"), (0, u "name"), (0, u "Ljava/lang/String;"), (2, u "ordinal"), (0, u "I"), (1, .class_ 14), (1, u "java/lang/Object"), (4, u "hash"), (86, .class_ 108), (1, u "java/lang/Enum$EnumDesc"), (2, .class_ 112), (0, u "java/lang/constant/Constable"), (0, .class_ 114), (0, u "java/lang/Comparable"), (0, .class_ 116), (0, u "java/io/Serializable")] 87

/-- java/lang/Enum -/
def k6 : Class := { plain "java/lang/Enum" (some 0) with
  accessFlags := 1057
  interfaces := #[3, 4, 5]
  cf := some (fileOf pool6 2 #[.nestMembers #[106]] #[] 1057 12 #[111, 113, 115] #[{ accessFlags := 18, nameIndex := 5, descriptorIndex := 6, attributes := #[] }, { accessFlags := 18, nameIndex := 9, descriptorIndex := 10, attributes := #[] }, { accessFlags := 2, nameIndex := 19, descriptorIndex := 10, attributes := #[] }])
  fields := #[{ name := "name", type := (.object "java/lang/String"), accessFlags := 18, slot := 0, constantValue := 0 }, { name := "ordinal", type := .int, accessFlags := 18, slot := 1, constantValue := 0 }, { name := "hash", type := .int, accessFlags := 2, slot := 2, constantValue := 0 }]
  methods := #[]
  instanceTypes := #[(.object "java/lang/String"), .int, .int]
  staticTypes := #[]
  resolved := Array.replicate 204 none
  statics := none }

def pool7 : Array CpInfo := pool [(1, .class_ 2), (0, u "com/example/broker_bench/brokerbench/driver/Durability$Level"), (2, u "SYNC"), (0, u "Lcom/example/broker_bench/brokerbench/driver/Durability$Level;"), (2, u "ASYNC"), (2, u "NONE"), (2, u "$VALUES"), (0, u "[Lcom/example/broker_bench/brokerbench/driver/Durability$Level;"), (6, .class_ 25), (1, u "java/lang/Enum"), (43, .class_ 70), (0, u "com/example/broker_bench/brokerbench/driver/Durability")] 2

/-- com/example/broker_bench/brokerbench/driver/Durability$Level -/
def k7 : Class := { plain "com/example/broker_bench/brokerbench/driver/Durability$Level" (some 6) with
  accessFlags := 16433
  interfaces := #[]
  cf := some (fileOf pool7 1 #[.nestHost 69] #[] 16433 23 #[] #[{ accessFlags := 16409, nameIndex := 5, descriptorIndex := 6, attributes := #[] }, { accessFlags := 16409, nameIndex := 9, descriptorIndex := 6, attributes := #[] }, { accessFlags := 16409, nameIndex := 12, descriptorIndex := 6, attributes := #[] }, { accessFlags := 4122, nameIndex := 15, descriptorIndex := 16, attributes := #[] }])
  fields := #[{ name := "SYNC", type := (.object "com/example/broker_bench/brokerbench/driver/Durability$Level"), accessFlags := 16409, slot := 0, constantValue := 0 }, { name := "ASYNC", type := (.object "com/example/broker_bench/brokerbench/driver/Durability$Level"), accessFlags := 16409, slot := 1, constantValue := 0 }, { name := "NONE", type := (.object "com/example/broker_bench/brokerbench/driver/Durability$Level"), accessFlags := 16409, slot := 2, constantValue := 0 }, { name := "$VALUES", type := (.array (.object "com/example/broker_bench/brokerbench/driver/Durability$Level")), accessFlags := 4122, slot := 3, constantValue := 0 }]
  methods := #[]
  instanceTypes := #[(.object "java/lang/String"), .int, .int]
  staticTypes := #[(.object "com/example/broker_bench/brokerbench/driver/Durability$Level"), (.object "com/example/broker_bench/brokerbench/driver/Durability$Level"), (.object "com/example/broker_bench/brokerbench/driver/Durability$Level"), (.array (.object "com/example/broker_bench/brokerbench/driver/Durability$Level"))]
  resolved := Array.replicate 73 none
  statics := some 0 }

def pool8 : Array CpInfo := pool [(1, .methodref 2 3), (0, .class_ 4), (0, .nameAndType 5 6), (0, u "java/lang/Object"), (0, u "<init>"), (0, u "()V"), (1, .class_ 10), (1, u "java/lang/Number"), (2, .class_ 14), (0, u "java/io/Serializable"), (0, u "serialVersionUID"), (0, u "J")] 20

def k8c0 : Code := { maxStack := 1, maxLocals := 1, code := jdk_18_method_1_code, exceptionTable := #[], attributes := #[] }
def k8m0 : Method := { name := "<init>", desc := "()V", sig := { parameters := [], returnType := none }, accessFlags := 1, code := some k8c0 }
/-- java/lang/Number -/
def k8 : Class := { plain "java/lang/Number" (some 0) with
  accessFlags := 1057
  interfaces := #[5]
  cf := some (fileOf pool8 8 #[] #[{ accessFlags := 1, nameIndex := 5, descriptorIndex := 6, attributes := #[] }] 1057 2 #[13] #[{ accessFlags := 26, nameIndex := 15, descriptorIndex := 16, attributes := #[] }])
  fields := #[{ name := "serialVersionUID", type := .long, accessFlags := 26, slot := 0, constantValue := 0 }]
  methods := #[k8m0]
  instanceTypes := #[]
  staticTypes := #[.long]
  resolved := Array.replicate 37 none
  statics := none }

def pool9 : Array CpInfo := pool [(1, .class_ 2), (0, u "java/lang/constant/ConstantDesc"), (0, .class_ 4), (0, u "java/lang/Object")] 32

/-- java/lang/constant/ConstantDesc -/
def k9 : Class := { plain "java/lang/constant/ConstantDesc" (some 0) with
  accessFlags := 1537
  interfaces := #[]
  cf := some (fileOf pool9 1 #[] #[] 1537 3 #[] #[])
  fields := #[]
  methods := #[]
  instanceTypes := #[]
  staticTypes := #[]
  resolved := Array.replicate 37 none
  statics := none }

def pool10 : Array CpInfo := pool [(1, .class_ 2), (0, u "java/lang/Integer"), (16, u "digits"), (0, u "[C"), (46, u "<init>"), (17, u "DigitOnes"), (0, u "[B"), (2, u "DigitTens"), (10, .nameAndType 67 101), (0, u "()V"), (85, u "valueOf"), (0, u "(I)Ljava/lang/Integer;"), (0, .class_ 190), (0, u "java/lang/Integer$IntegerCache"), (0, .fieldref 189 192), (0, .nameAndType 193 194), (0, u "high"), (0, u "I"), (0, .fieldref 189 196), (0, .nameAndType 197 198), (0, u "cache"), (0, u "[Ljava/lang/Integer;"), (0, .methodref 1 200), (0, .nameAndType 67 201), (0, u "(I)V"), (0, .methodref 203 100), (0, .class_ 204), (0, u "java/lang/Number"), (0, .fieldref 1 206), (0, .nameAndType 207 194), (0, u "value"), (94, u "TYPE"), (0, u "Ljava/lang/Class;"), (0, .class_ 305), (0, u "java/lang/Comparable"), (0, .class_ 307), (0, u "java/lang/constant/Constable"), (0, .class_ 309), (0, u "java/lang/constant/ConstantDesc"), (0, u "MIN_VALUE"), (1, u "MAX_VALUE"), (3, u "SIZE"), (1, u "BYTES"), (1, u "serialVersionUID"), (0, u "J")] 131

def k10c0 : Code := { maxStack := 3, maxLocals := 1, code := jdk_33_method_22_code, exceptionTable := #[], attributes := #[] }
def k10m0 : Method := { name := "valueOf", desc := "(I)Ljava/lang/Integer;", sig := { parameters := [.int], returnType := some (.object "java/lang/Integer") }, accessFlags := 9, code := some k10c0 }
def k10c1 : Code := { maxStack := 2, maxLocals := 2, code := jdk_33_method_23_code, exceptionTable := #[], attributes := #[] }
def k10m1 : Method := { name := "<init>", desc := "(I)V", sig := { parameters := [.int], returnType := none }, accessFlags := 1, code := some k10c1 }
/-- java/lang/Integer -/
def k10 : Class := { plain "java/lang/Integer" (some 8) with
  accessFlags := 49
  interfaces := #[4, 3, 9]
  cf := some (fileOf pool10 1 #[.nestMembers #[189]] #[{ accessFlags := 9, nameIndex := 187, descriptorIndex := 188, attributes := #[] }, { accessFlags := 1, nameIndex := 67, descriptorIndex := 201, attributes := #[] }] 49 203 #[304, 306, 308] #[{ accessFlags := 25, nameIndex := 310, descriptorIndex := 194, attributes := #[] }, { accessFlags := 25, nameIndex := 312, descriptorIndex := 194, attributes := #[] }, { accessFlags := 25, nameIndex := 302, descriptorIndex := 303, attributes := #[] }, { accessFlags := 24, nameIndex := 19, descriptorIndex := 20, attributes := #[] }, { accessFlags := 24, nameIndex := 89, descriptorIndex := 86, attributes := #[] }, { accessFlags := 24, nameIndex := 85, descriptorIndex := 86, attributes := #[] }, { accessFlags := 18, nameIndex := 207, descriptorIndex := 194, attributes := #[] }, { accessFlags := 25, nameIndex := 316, descriptorIndex := 194, attributes := #[] }, { accessFlags := 25, nameIndex := 318, descriptorIndex := 194, attributes := #[] }, { accessFlags := 26, nameIndex := 320, descriptorIndex := 321, attributes := #[] }])
  fields := #[{ name := "MIN_VALUE", type := .int, accessFlags := 25, slot := 0, constantValue := 0 }, { name := "MAX_VALUE", type := .int, accessFlags := 25, slot := 1, constantValue := 0 }, { name := "TYPE", type := (.object "java/lang/Class"), accessFlags := 25, slot := 2, constantValue := 0 }, { name := "digits", type := (.array .char), accessFlags := 24, slot := 3, constantValue := 0 }, { name := "DigitTens", type := (.array .byte), accessFlags := 24, slot := 4, constantValue := 0 }, { name := "DigitOnes", type := (.array .byte), accessFlags := 24, slot := 5, constantValue := 0 }, { name := "value", type := .int, accessFlags := 18, slot := 0, constantValue := 0 }, { name := "SIZE", type := .int, accessFlags := 25, slot := 6, constantValue := 0 }, { name := "BYTES", type := .int, accessFlags := 25, slot := 7, constantValue := 0 }, { name := "serialVersionUID", type := .long, accessFlags := 26, slot := 8, constantValue := 0 }]
  methods := #[k10m0, k10m1]
  instanceTypes := #[.int]
  staticTypes := #[.int, .int, (.object "java/lang/Class"), (.array .char), (.array .byte), (.array .byte), .int, .int, .long]
  resolved := Array.replicate 453 none
  statics := none }

def pool11 : Array CpInfo := pool [(2, .class_ 4), (1, u "java/lang/Object"), (0, u "<init>"), (0, u "()V"), (0, .class_ 8), (0, u "java/lang/Integer"), (7, .class_ 18), (1, u "java/lang/Integer$IntegerCache"), (0, u "$assertionsDisabled"), (0, u "Z"), (26, u "high"), (0, u "I"), (8, u "archivedCache"), (0, u "[Ljava/lang/Integer;"), (12, u "cache"), (0, u "low")] 27

def k11m0 : Method := { name := "<init>", desc := "()V", sig := { parameters := [], returnType := none }, accessFlags := 2, code := none }
/-- java/lang/Integer$IntegerCache -/
def k11 : Class := { plain "java/lang/Integer$IntegerCache" (some 0) with
  accessFlags := 48
  interfaces := #[]
  cf := some (fileOf pool11 16 #[.nestHost 7] #[{ accessFlags := 2, nameIndex := 5, descriptorIndex := 6, attributes := #[] }] 48 2 #[] #[{ accessFlags := 24, nameIndex := 72, descriptorIndex := 48, attributes := #[] }, { accessFlags := 24, nameIndex := 47, descriptorIndex := 48, attributes := #[] }, { accessFlags := 24, nameIndex := 71, descriptorIndex := 58, attributes := #[] }, { accessFlags := 8, nameIndex := 57, descriptorIndex := 58, attributes := #[] }, { accessFlags := 4120, nameIndex := 19, descriptorIndex := 20, attributes := #[] }])
  fields := #[{ name := "low", type := .int, accessFlags := 24, slot := 0, constantValue := 0 }, { name := "high", type := .int, accessFlags := 24, slot := 1, constantValue := 0 }, { name := "cache", type := (.array (.object "java/lang/Integer")), accessFlags := 24, slot := 2, constantValue := 0 }, { name := "archivedCache", type := (.array (.object "java/lang/Integer")), accessFlags := 8, slot := 3, constantValue := 0 }, { name := "$assertionsDisabled", type := .boolean, accessFlags := 4120, slot := 4, constantValue := 0 }]
  methods := #[k11m0]
  instanceTypes := #[]
  staticTypes := #[.int, .int, (.array (.object "java/lang/Integer")), (.array (.object "java/lang/Integer")), .boolean]
  resolved := Array.replicate 100 none
  statics := some 1 }

def pool12 : Array CpInfo := pool [(1, u "java/lang/Cloneable"), (0, .class_ 1), (0, u "java/lang/Object"), (0, .class_ 3)] 3

/-- java/lang/Cloneable -/
def k12 : Class := { plain "java/lang/Cloneable" (some 0) with
  accessFlags := 1537
  interfaces := #[]
  cf := some (fileOf pool12 2 #[] #[] 1537 4 #[] #[])
  fields := #[]
  methods := #[]
  instanceTypes := #[]
  staticTypes := #[]
  resolved := Array.replicate 8 none
  statics := none }

/-- the primitive byte -/
def k13 : Class := { plain "byte" none with kind := .primitive 'B', accessFlags := 0x411 }
/-- [B -/
def k14 : Class := { plain "[B" (some 0) with kind := .array 13 .byte, interfaces := #[12, 5], accessFlags := 1041 }

/-- [Ljava/lang/Integer; -/
def k15 : Class := { plain "[Ljava/lang/Integer;" (some 0) with kind := .array 10 (.object "java/lang/Integer"), interfaces := #[12, 5], accessFlags := 1041 }

def heap : Heap := #[{ cls := 7, slots := #[.ref 259, .ref 260, .ref 261, .null], vm := .statics 7 },
  { cls := 11, slots := #[.int 0, .int 127, .ref 2, .null, .int 0], vm := .statics 11 },
  { cls := 15, slots := #[.ref 3, .ref 4, .ref 5, .ref 6, .ref 7, .ref 8, .ref 9, .ref 10, .ref 11, .ref 12, .ref 13, .ref 14, .ref 15, .ref 16, .ref 17, .ref 18, .ref 19, .ref 20, .ref 21, .ref 22, .ref 23, .ref 24, .ref 25, .ref 26, .ref 27, .ref 28, .ref 29, .ref 30, .ref 31, .ref 32, .ref 33, .ref 34, .ref 35, .ref 36, .ref 37, .ref 38, .ref 39, .ref 40, .ref 41, .ref 42, .ref 43, .ref 44, .ref 45, .ref 46, .ref 47, .ref 48, .ref 49, .ref 50, .ref 51, .ref 52, .ref 53, .ref 54, .ref 55, .ref 56, .ref 57, .ref 58, .ref 59, .ref 60, .ref 61, .ref 62, .ref 63, .ref 64, .ref 65, .ref 66, .ref 67, .ref 68, .ref 69, .ref 70, .ref 71, .ref 72, .ref 73, .ref 74, .ref 75, .ref 76, .ref 77, .ref 78, .ref 79, .ref 80, .ref 81, .ref 82, .ref 83, .ref 84, .ref 85, .ref 86, .ref 87, .ref 88, .ref 89, .ref 90, .ref 91, .ref 92, .ref 93, .ref 94, .ref 95, .ref 96, .ref 97, .ref 98, .ref 99, .ref 100, .ref 101, .ref 102, .ref 103, .ref 104, .ref 105, .ref 106, .ref 107, .ref 108, .ref 109, .ref 110, .ref 111, .ref 112, .ref 113, .ref 114, .ref 115, .ref 116, .ref 117, .ref 118, .ref 119, .ref 120, .ref 121, .ref 122, .ref 123, .ref 124, .ref 125, .ref 126, .ref 127, .ref 128, .ref 129, .ref 130, .ref 131, .ref 132, .ref 133, .ref 134, .ref 135, .ref 136, .ref 137, .ref 138, .ref 139, .ref 140, .ref 141, .ref 142, .ref 143, .ref 144, .ref 145, .ref 146, .ref 147, .ref 148, .ref 149, .ref 150, .ref 151, .ref 152, .ref 153, .ref 154, .ref 155, .ref 156, .ref 157, .ref 158, .ref 159, .ref 160, .ref 161, .ref 162, .ref 163, .ref 164, .ref 165, .ref 166, .ref 167, .ref 168, .ref 169, .ref 170, .ref 171, .ref 172, .ref 173, .ref 174, .ref 175, .ref 176, .ref 177, .ref 178, .ref 179, .ref 180, .ref 181, .ref 182, .ref 183, .ref 184, .ref 185, .ref 186, .ref 187, .ref 188, .ref 189, .ref 190, .ref 191, .ref 192, .ref 193, .ref 194, .ref 195, .ref 196, .ref 197, .ref 198, .ref 199, .ref 200, .ref 201, .ref 202, .ref 203, .ref 204, .ref 205, .ref 206, .ref 207, .ref 208, .ref 209, .ref 210, .ref 211, .ref 212, .ref 213, .ref 214, .ref 215, .ref 216, .ref 217, .ref 218, .ref 219, .ref 220, .ref 221, .ref 222, .ref 223, .ref 224, .ref 225, .ref 226, .ref 227, .ref 228, .ref 229, .ref 230, .ref 231, .ref 232, .ref 233, .ref 234, .ref 235, .ref 236, .ref 237, .ref 238, .ref 239, .ref 240, .ref 241, .ref 242, .ref 243, .ref 244, .ref 245, .ref 246, .ref 247, .ref 248, .ref 249, .ref 250, .ref 251, .ref 252, .ref 253, .ref 254, .ref 255, .ref 256, .ref 257, .ref 258], vm := .none },
  { cls := 10, slots := #[.int (-128)], vm := .none },
  { cls := 10, slots := #[.int (-127)], vm := .none },
  { cls := 10, slots := #[.int (-126)], vm := .none },
  { cls := 10, slots := #[.int (-125)], vm := .none },
  { cls := 10, slots := #[.int (-124)], vm := .none },
  { cls := 10, slots := #[.int (-123)], vm := .none },
  { cls := 10, slots := #[.int (-122)], vm := .none },
  { cls := 10, slots := #[.int (-121)], vm := .none },
  { cls := 10, slots := #[.int (-120)], vm := .none },
  { cls := 10, slots := #[.int (-119)], vm := .none },
  { cls := 10, slots := #[.int (-118)], vm := .none },
  { cls := 10, slots := #[.int (-117)], vm := .none },
  { cls := 10, slots := #[.int (-116)], vm := .none },
  { cls := 10, slots := #[.int (-115)], vm := .none },
  { cls := 10, slots := #[.int (-114)], vm := .none },
  { cls := 10, slots := #[.int (-113)], vm := .none },
  { cls := 10, slots := #[.int (-112)], vm := .none },
  { cls := 10, slots := #[.int (-111)], vm := .none },
  { cls := 10, slots := #[.int (-110)], vm := .none },
  { cls := 10, slots := #[.int (-109)], vm := .none },
  { cls := 10, slots := #[.int (-108)], vm := .none },
  { cls := 10, slots := #[.int (-107)], vm := .none },
  { cls := 10, slots := #[.int (-106)], vm := .none },
  { cls := 10, slots := #[.int (-105)], vm := .none },
  { cls := 10, slots := #[.int (-104)], vm := .none },
  { cls := 10, slots := #[.int (-103)], vm := .none },
  { cls := 10, slots := #[.int (-102)], vm := .none },
  { cls := 10, slots := #[.int (-101)], vm := .none },
  { cls := 10, slots := #[.int (-100)], vm := .none },
  { cls := 10, slots := #[.int (-99)], vm := .none },
  { cls := 10, slots := #[.int (-98)], vm := .none },
  { cls := 10, slots := #[.int (-97)], vm := .none },
  { cls := 10, slots := #[.int (-96)], vm := .none },
  { cls := 10, slots := #[.int (-95)], vm := .none },
  { cls := 10, slots := #[.int (-94)], vm := .none },
  { cls := 10, slots := #[.int (-93)], vm := .none },
  { cls := 10, slots := #[.int (-92)], vm := .none },
  { cls := 10, slots := #[.int (-91)], vm := .none },
  { cls := 10, slots := #[.int (-90)], vm := .none },
  { cls := 10, slots := #[.int (-89)], vm := .none },
  { cls := 10, slots := #[.int (-88)], vm := .none },
  { cls := 10, slots := #[.int (-87)], vm := .none },
  { cls := 10, slots := #[.int (-86)], vm := .none },
  { cls := 10, slots := #[.int (-85)], vm := .none },
  { cls := 10, slots := #[.int (-84)], vm := .none },
  { cls := 10, slots := #[.int (-83)], vm := .none },
  { cls := 10, slots := #[.int (-82)], vm := .none },
  { cls := 10, slots := #[.int (-81)], vm := .none },
  { cls := 10, slots := #[.int (-80)], vm := .none },
  { cls := 10, slots := #[.int (-79)], vm := .none },
  { cls := 10, slots := #[.int (-78)], vm := .none },
  { cls := 10, slots := #[.int (-77)], vm := .none },
  { cls := 10, slots := #[.int (-76)], vm := .none },
  { cls := 10, slots := #[.int (-75)], vm := .none },
  { cls := 10, slots := #[.int (-74)], vm := .none },
  { cls := 10, slots := #[.int (-73)], vm := .none },
  { cls := 10, slots := #[.int (-72)], vm := .none },
  { cls := 10, slots := #[.int (-71)], vm := .none },
  { cls := 10, slots := #[.int (-70)], vm := .none },
  { cls := 10, slots := #[.int (-69)], vm := .none },
  { cls := 10, slots := #[.int (-68)], vm := .none },
  { cls := 10, slots := #[.int (-67)], vm := .none },
  { cls := 10, slots := #[.int (-66)], vm := .none },
  { cls := 10, slots := #[.int (-65)], vm := .none },
  { cls := 10, slots := #[.int (-64)], vm := .none },
  { cls := 10, slots := #[.int (-63)], vm := .none },
  { cls := 10, slots := #[.int (-62)], vm := .none },
  { cls := 10, slots := #[.int (-61)], vm := .none },
  { cls := 10, slots := #[.int (-60)], vm := .none },
  { cls := 10, slots := #[.int (-59)], vm := .none },
  { cls := 10, slots := #[.int (-58)], vm := .none },
  { cls := 10, slots := #[.int (-57)], vm := .none },
  { cls := 10, slots := #[.int (-56)], vm := .none },
  { cls := 10, slots := #[.int (-55)], vm := .none },
  { cls := 10, slots := #[.int (-54)], vm := .none },
  { cls := 10, slots := #[.int (-53)], vm := .none },
  { cls := 10, slots := #[.int (-52)], vm := .none },
  { cls := 10, slots := #[.int (-51)], vm := .none },
  { cls := 10, slots := #[.int (-50)], vm := .none },
  { cls := 10, slots := #[.int (-49)], vm := .none },
  { cls := 10, slots := #[.int (-48)], vm := .none },
  { cls := 10, slots := #[.int (-47)], vm := .none },
  { cls := 10, slots := #[.int (-46)], vm := .none },
  { cls := 10, slots := #[.int (-45)], vm := .none },
  { cls := 10, slots := #[.int (-44)], vm := .none },
  { cls := 10, slots := #[.int (-43)], vm := .none },
  { cls := 10, slots := #[.int (-42)], vm := .none },
  { cls := 10, slots := #[.int (-41)], vm := .none },
  { cls := 10, slots := #[.int (-40)], vm := .none },
  { cls := 10, slots := #[.int (-39)], vm := .none },
  { cls := 10, slots := #[.int (-38)], vm := .none },
  { cls := 10, slots := #[.int (-37)], vm := .none },
  { cls := 10, slots := #[.int (-36)], vm := .none },
  { cls := 10, slots := #[.int (-35)], vm := .none },
  { cls := 10, slots := #[.int (-34)], vm := .none },
  { cls := 10, slots := #[.int (-33)], vm := .none },
  { cls := 10, slots := #[.int (-32)], vm := .none },
  { cls := 10, slots := #[.int (-31)], vm := .none },
  { cls := 10, slots := #[.int (-30)], vm := .none },
  { cls := 10, slots := #[.int (-29)], vm := .none },
  { cls := 10, slots := #[.int (-28)], vm := .none },
  { cls := 10, slots := #[.int (-27)], vm := .none },
  { cls := 10, slots := #[.int (-26)], vm := .none },
  { cls := 10, slots := #[.int (-25)], vm := .none },
  { cls := 10, slots := #[.int (-24)], vm := .none },
  { cls := 10, slots := #[.int (-23)], vm := .none },
  { cls := 10, slots := #[.int (-22)], vm := .none },
  { cls := 10, slots := #[.int (-21)], vm := .none },
  { cls := 10, slots := #[.int (-20)], vm := .none },
  { cls := 10, slots := #[.int (-19)], vm := .none },
  { cls := 10, slots := #[.int (-18)], vm := .none },
  { cls := 10, slots := #[.int (-17)], vm := .none },
  { cls := 10, slots := #[.int (-16)], vm := .none },
  { cls := 10, slots := #[.int (-15)], vm := .none },
  { cls := 10, slots := #[.int (-14)], vm := .none },
  { cls := 10, slots := #[.int (-13)], vm := .none },
  { cls := 10, slots := #[.int (-12)], vm := .none },
  { cls := 10, slots := #[.int (-11)], vm := .none },
  { cls := 10, slots := #[.int (-10)], vm := .none },
  { cls := 10, slots := #[.int (-9)], vm := .none },
  { cls := 10, slots := #[.int (-8)], vm := .none },
  { cls := 10, slots := #[.int (-7)], vm := .none },
  { cls := 10, slots := #[.int (-6)], vm := .none },
  { cls := 10, slots := #[.int (-5)], vm := .none },
  { cls := 10, slots := #[.int (-4)], vm := .none },
  { cls := 10, slots := #[.int (-3)], vm := .none },
  { cls := 10, slots := #[.int (-2)], vm := .none },
  { cls := 10, slots := #[.int (-1)], vm := .none },
  { cls := 10, slots := #[.int (0)], vm := .none },
  { cls := 10, slots := #[.int (1)], vm := .none },
  { cls := 10, slots := #[.int (2)], vm := .none },
  { cls := 10, slots := #[.int (3)], vm := .none },
  { cls := 10, slots := #[.int (4)], vm := .none },
  { cls := 10, slots := #[.int (5)], vm := .none },
  { cls := 10, slots := #[.int (6)], vm := .none },
  { cls := 10, slots := #[.int (7)], vm := .none },
  { cls := 10, slots := #[.int (8)], vm := .none },
  { cls := 10, slots := #[.int (9)], vm := .none },
  { cls := 10, slots := #[.int (10)], vm := .none },
  { cls := 10, slots := #[.int (11)], vm := .none },
  { cls := 10, slots := #[.int (12)], vm := .none },
  { cls := 10, slots := #[.int (13)], vm := .none },
  { cls := 10, slots := #[.int (14)], vm := .none },
  { cls := 10, slots := #[.int (15)], vm := .none },
  { cls := 10, slots := #[.int (16)], vm := .none },
  { cls := 10, slots := #[.int (17)], vm := .none },
  { cls := 10, slots := #[.int (18)], vm := .none },
  { cls := 10, slots := #[.int (19)], vm := .none },
  { cls := 10, slots := #[.int (20)], vm := .none },
  { cls := 10, slots := #[.int (21)], vm := .none },
  { cls := 10, slots := #[.int (22)], vm := .none },
  { cls := 10, slots := #[.int (23)], vm := .none },
  { cls := 10, slots := #[.int (24)], vm := .none },
  { cls := 10, slots := #[.int (25)], vm := .none },
  { cls := 10, slots := #[.int (26)], vm := .none },
  { cls := 10, slots := #[.int (27)], vm := .none },
  { cls := 10, slots := #[.int (28)], vm := .none },
  { cls := 10, slots := #[.int (29)], vm := .none },
  { cls := 10, slots := #[.int (30)], vm := .none },
  { cls := 10, slots := #[.int (31)], vm := .none },
  { cls := 10, slots := #[.int (32)], vm := .none },
  { cls := 10, slots := #[.int (33)], vm := .none },
  { cls := 10, slots := #[.int (34)], vm := .none },
  { cls := 10, slots := #[.int (35)], vm := .none },
  { cls := 10, slots := #[.int (36)], vm := .none },
  { cls := 10, slots := #[.int (37)], vm := .none },
  { cls := 10, slots := #[.int (38)], vm := .none },
  { cls := 10, slots := #[.int (39)], vm := .none },
  { cls := 10, slots := #[.int (40)], vm := .none },
  { cls := 10, slots := #[.int (41)], vm := .none },
  { cls := 10, slots := #[.int (42)], vm := .none },
  { cls := 10, slots := #[.int (43)], vm := .none },
  { cls := 10, slots := #[.int (44)], vm := .none },
  { cls := 10, slots := #[.int (45)], vm := .none },
  { cls := 10, slots := #[.int (46)], vm := .none },
  { cls := 10, slots := #[.int (47)], vm := .none },
  { cls := 10, slots := #[.int (48)], vm := .none },
  { cls := 10, slots := #[.int (49)], vm := .none },
  { cls := 10, slots := #[.int (50)], vm := .none },
  { cls := 10, slots := #[.int (51)], vm := .none },
  { cls := 10, slots := #[.int (52)], vm := .none },
  { cls := 10, slots := #[.int (53)], vm := .none },
  { cls := 10, slots := #[.int (54)], vm := .none },
  { cls := 10, slots := #[.int (55)], vm := .none },
  { cls := 10, slots := #[.int (56)], vm := .none },
  { cls := 10, slots := #[.int (57)], vm := .none },
  { cls := 10, slots := #[.int (58)], vm := .none },
  { cls := 10, slots := #[.int (59)], vm := .none },
  { cls := 10, slots := #[.int (60)], vm := .none },
  { cls := 10, slots := #[.int (61)], vm := .none },
  { cls := 10, slots := #[.int (62)], vm := .none },
  { cls := 10, slots := #[.int (63)], vm := .none },
  { cls := 10, slots := #[.int (64)], vm := .none },
  { cls := 10, slots := #[.int (65)], vm := .none },
  { cls := 10, slots := #[.int (66)], vm := .none },
  { cls := 10, slots := #[.int (67)], vm := .none },
  { cls := 10, slots := #[.int (68)], vm := .none },
  { cls := 10, slots := #[.int (69)], vm := .none },
  { cls := 10, slots := #[.int (70)], vm := .none },
  { cls := 10, slots := #[.int (71)], vm := .none },
  { cls := 10, slots := #[.int (72)], vm := .none },
  { cls := 10, slots := #[.int (73)], vm := .none },
  { cls := 10, slots := #[.int (74)], vm := .none },
  { cls := 10, slots := #[.int (75)], vm := .none },
  { cls := 10, slots := #[.int (76)], vm := .none },
  { cls := 10, slots := #[.int (77)], vm := .none },
  { cls := 10, slots := #[.int (78)], vm := .none },
  { cls := 10, slots := #[.int (79)], vm := .none },
  { cls := 10, slots := #[.int (80)], vm := .none },
  { cls := 10, slots := #[.int (81)], vm := .none },
  { cls := 10, slots := #[.int (82)], vm := .none },
  { cls := 10, slots := #[.int (83)], vm := .none },
  { cls := 10, slots := #[.int (84)], vm := .none },
  { cls := 10, slots := #[.int (85)], vm := .none },
  { cls := 10, slots := #[.int (86)], vm := .none },
  { cls := 10, slots := #[.int (87)], vm := .none },
  { cls := 10, slots := #[.int (88)], vm := .none },
  { cls := 10, slots := #[.int (89)], vm := .none },
  { cls := 10, slots := #[.int (90)], vm := .none },
  { cls := 10, slots := #[.int (91)], vm := .none },
  { cls := 10, slots := #[.int (92)], vm := .none },
  { cls := 10, slots := #[.int (93)], vm := .none },
  { cls := 10, slots := #[.int (94)], vm := .none },
  { cls := 10, slots := #[.int (95)], vm := .none },
  { cls := 10, slots := #[.int (96)], vm := .none },
  { cls := 10, slots := #[.int (97)], vm := .none },
  { cls := 10, slots := #[.int (98)], vm := .none },
  { cls := 10, slots := #[.int (99)], vm := .none },
  { cls := 10, slots := #[.int (100)], vm := .none },
  { cls := 10, slots := #[.int (101)], vm := .none },
  { cls := 10, slots := #[.int (102)], vm := .none },
  { cls := 10, slots := #[.int (103)], vm := .none },
  { cls := 10, slots := #[.int (104)], vm := .none },
  { cls := 10, slots := #[.int (105)], vm := .none },
  { cls := 10, slots := #[.int (106)], vm := .none },
  { cls := 10, slots := #[.int (107)], vm := .none },
  { cls := 10, slots := #[.int (108)], vm := .none },
  { cls := 10, slots := #[.int (109)], vm := .none },
  { cls := 10, slots := #[.int (110)], vm := .none },
  { cls := 10, slots := #[.int (111)], vm := .none },
  { cls := 10, slots := #[.int (112)], vm := .none },
  { cls := 10, slots := #[.int (113)], vm := .none },
  { cls := 10, slots := #[.int (114)], vm := .none },
  { cls := 10, slots := #[.int (115)], vm := .none },
  { cls := 10, slots := #[.int (116)], vm := .none },
  { cls := 10, slots := #[.int (117)], vm := .none },
  { cls := 10, slots := #[.int (118)], vm := .none },
  { cls := 10, slots := #[.int (119)], vm := .none },
  { cls := 10, slots := #[.int (120)], vm := .none },
  { cls := 10, slots := #[.int (121)], vm := .none },
  { cls := 10, slots := #[.int (122)], vm := .none },
  { cls := 10, slots := #[.int (123)], vm := .none },
  { cls := 10, slots := #[.int (124)], vm := .none },
  { cls := 10, slots := #[.int (125)], vm := .none },
  { cls := 10, slots := #[.int (126)], vm := .none },
  { cls := 10, slots := #[.int (127)], vm := .none },
  { cls := 7, slots := #[.null, .int 0, .int 0], vm := .none },
  { cls := 7, slots := #[.null, .int 1, .int 0], vm := .none },
  { cls := 7, slots := #[.null, .int 2, .int 0], vm := .none }]
def classes : Array Class := #[k0, k1, k2, k3, k4, k5, k6, k7, k8, k9, k10, k11, k12, k13, k14, k15]
def interned : List (Array UInt16 × Addr) := []
def slotsUsed : Nat := 530
def theMethod : MethodId := ⟨1, 2⟩
def args0 : Array Value := #[.int 1, .int 2, .int 3, .int 0, .int 4]
def aboutOver (below : List Frame) : State where
  vm := { classes := classes, interned := interned.toArray }
  heap := heap
  slotsUsed := slotsUsed
  threads := #[{ frames := .invoking theMethod args0 :: below }]
def below0 : List Frame := [.native { method := ⟨0, 0⟩, args := #[] }]
def about1 : State := aboutOver below0
def p0 : Program := .bare "" "" ""
def e0 : Env := launch0.env 0 0 0
theorem w_frames : about1.frames = Frame.invoking theMethod args0 :: below0 := rfl
set_option maxRecDepth 65536 in
theorem w_args : argsFit about1.vm theMethod args0 = true := by decide +kernel
set_option maxRecDepth 65536 in
theorem w_heap : heapFits about1 = true := by decide +kernel
set_option maxRecDepth 65536 in
theorem w_runnable : about1.curStatus? = some .runnable := by decide +kernel
set_option maxRecDepth 65536 in
theorem w_alone : about1.alone = true := by decide +kernel
set_option maxRecDepth 65536 in
theorem w_named : about1.methodNamed? x = some theMethod := by decide +kernel
set_option maxRecDepth 65536 in
theorem w_hears : about1.hears theMethod below0 = true := by decide +kernel
set_option maxRecDepth 65536 in
theorem w_ripe : about1.ripe theMethod args0 below0 = true := by decide +kernel
theorem w_running : about1.status = .running := rfl
set_option maxRecDepth 65536 in
theorem w_room : about1.hasRoom e0.platform room_1 = true :=
  launch0.hasRoom_least _ room_1 (by decide +kernel) (by decide +kernel) (by decide +kernel) (by decide +kernel) (by decide +kernel) (by decide +kernel)
theorem allAtoms_all (ts : List Jvm.Cond) (a : Array Jvm.Value) (st : Jvm.State) : (allAtoms ts).before a st = ts.all (fun c => c.before a st) := by
  induction ts with
  | nil => rfl
  | cons c t ih =>
    show (Jvm.Cond.and c (allAtoms t)).before a st = _
    rw [Jvm.Cond.before_and, ih, List.all_cons]
def words1 : List Jvm.Cond := Jvm.Cond.code x code maxLocals ret :: tables_1
/-- a 'code' word, met by the world's own term for the bytes: nothing is compared byte by byte -/
theorem code_word {y : MethodName} {bytes : ByteArray} {mx : Nat} {rt : Option FieldType} {a : Array Value} {s : State} {m : MethodId} {meth : Method} {c : Code} (h1 : s.methodNamed? y = some m) (h2 : s.vm.method? m = some meth) (h3 : meth.code = some c) (h4 : c.code = bytes)
    (h5 : (c.maxLocals == mx && c.exceptionTable.isEmpty && decide (c.maxStack ≤ mostOperands) && decide (meth.sig.returnType = rt) && !meth.locks && decide (parseMethodDescriptor y.desc = some meth.sig)) = true) : (Jvm.Cond.code y bytes mx rt).before a s = true := by
  simp only [Bool.and_eq_true, beq_iff_eq, Bool.not_eq_true', decide_eq_true_eq] at h5
  obtain ⟨⟨⟨⟨⟨g1, g2⟩, g3⟩, g4⟩, g5⟩, g6⟩ := h5
  simp [Cond.before, Cond.holds, Cond.value, h1, h2, h3, h4, g1, g2, g3, g4, g5, g6]
def isCode : Jvm.Cond → Bool
  | .code _ _ _ _ => true
  | _ => false
theorem all_split {L : List Jvm.Cond} {P : Jvm.Cond → Bool} (h1 : L.all (fun c => isCode c || P c) = true) (h2 : ∀ c ∈ L.filter isCode, P c = true) : L.all P = true := by
  refine List.all_eq_true.mpr fun c hc => ?_
  have h := List.all_eq_true.mp h1 c hc
  rcases Bool.eq_false_or_eq_true (isCode c) with hi | hi
  · exact h2 c (List.mem_filter.mpr ⟨hc, hi⟩)
  · simpa [hi] using h
set_option maxRecDepth 65536 in
theorem w_c0 : (Jvm.Cond.code x code maxLocals ret).before args0 about1 = true := code_word (m := ⟨1, 2⟩) (meth := k1m2) (c := k1c2) (by decide +kernel) rfl rfl rfl (by decide +kernel)
set_option maxRecDepth 65536 in
theorem w_c1 : (Jvm.Cond.code ({ cls := "com/example/broker_bench/brokerbench/driver/DurabilityEqualsPinLaw", name := "level", desc := "(I)Lcom/example/broker_bench/brokerbench/driver/Durability$Level;" } : Jvm.MethodName) method_2_code (2 : Nat) (Option.some (Jvm.ClassFile.FieldType.object "com/example/broker_bench/brokerbench/driver/Durability$Level"))).before args0 about1 = true := code_word (m := ⟨1, 1⟩) (meth := k1m1) (c := k1c1) (by decide +kernel) rfl rfl rfl (by decide +kernel)
set_option maxRecDepth 65536 in
theorem w_c2 : (Jvm.Cond.code ({ cls := "com/example/broker_bench/brokerbench/driver/Durability", name := "<init>", desc := "(Lcom/example/broker_bench/brokerbench/driver/Durability$Level;Lcom/example/broker_bench/brokerbench/driver/Durability$Level;)V" } : Jvm.MethodName) prog_10_method_1_code (3 : Nat) (Option.none : Option Jvm.ClassFile.FieldType)).before args0 about1 = true := code_word (m := ⟨2, 0⟩) (meth := k2m0) (c := k2c0) (by decide +kernel) rfl rfl rfl (by decide +kernel)
set_option maxRecDepth 65536 in
theorem w_c3 : (Jvm.Cond.code ({ cls := "java/lang/Object", name := "<init>", desc := "()V" } : Jvm.MethodName) object_method_1_code (1 : Nat) (Option.none : Option Jvm.ClassFile.FieldType)).before args0 about1 = true := code_word (m := ⟨0, 0⟩) (meth := k0m0) (c := k0c0) (by decide +kernel) rfl rfl rfl (by decide +kernel)
set_option maxRecDepth 65536 in
theorem w_c4 : (Jvm.Cond.code ({ cls := "com/example/broker_bench/brokerbench/driver/Durability", name := "equals", desc := "(Ljava/lang/Object;)Z" } : Jvm.MethodName) prog_10_method_4_code (3 : Nat) (Option.some Jvm.ClassFile.FieldType.boolean)).before args0 about1 = true := code_word (m := ⟨2, 1⟩) (meth := k2m1) (c := k2c1) (by decide +kernel) rfl rfl rfl (by decide +kernel)
set_option maxRecDepth 65536 in
theorem w_c5 : (Jvm.Cond.code ({ cls := "java/lang/Integer", name := "valueOf", desc := "(I)Ljava/lang/Integer;" } : Jvm.MethodName) jdk_33_method_22_code (1 : Nat) (Option.some (Jvm.ClassFile.FieldType.object "java/lang/Integer"))).before args0 about1 = true := code_word (m := ⟨10, 0⟩) (meth := k10m0) (c := k10c0) (by decide +kernel) rfl rfl rfl (by decide +kernel)
set_option maxRecDepth 65536 in
theorem w_c6 : (Jvm.Cond.code ({ cls := "java/lang/Integer", name := "<init>", desc := "(I)V" } : Jvm.MethodName) jdk_33_method_23_code (2 : Nat) (Option.none : Option Jvm.ClassFile.FieldType)).before args0 about1 = true := code_word (m := ⟨10, 1⟩) (meth := k10m1) (c := k10c1) (by decide +kernel) rfl rfl rfl (by decide +kernel)
set_option maxRecDepth 65536 in
theorem w_c7 : (Jvm.Cond.code ({ cls := "java/lang/Number", name := "<init>", desc := "()V" } : Jvm.MethodName) jdk_18_method_1_code (1 : Nat) (Option.none : Option Jvm.ClassFile.FieldType)).before args0 about1 = true := code_word (m := ⟨8, 0⟩) (meth := k8m0) (c := k8c0) (by decide +kernel) rfl rfl rfl (by decide +kernel)
def codes1 : List Jvm.Cond := [Jvm.Cond.code x code maxLocals ret, Jvm.Cond.code ({ cls := "com/example/broker_bench/brokerbench/driver/DurabilityEqualsPinLaw", name := "level", desc := "(I)Lcom/example/broker_bench/brokerbench/driver/Durability$Level;" } : Jvm.MethodName) method_2_code (2 : Nat) (Option.some (Jvm.ClassFile.FieldType.object "com/example/broker_bench/brokerbench/driver/Durability$Level")), Jvm.Cond.code ({ cls := "com/example/broker_bench/brokerbench/driver/Durability", name := "<init>", desc := "(Lcom/example/broker_bench/brokerbench/driver/Durability$Level;Lcom/example/broker_bench/brokerbench/driver/Durability$Level;)V" } : Jvm.MethodName) prog_10_method_1_code (3 : Nat) (Option.none : Option Jvm.ClassFile.FieldType), Jvm.Cond.code ({ cls := "java/lang/Object", name := "<init>", desc := "()V" } : Jvm.MethodName) object_method_1_code (1 : Nat) (Option.none : Option Jvm.ClassFile.FieldType), Jvm.Cond.code ({ cls := "com/example/broker_bench/brokerbench/driver/Durability", name := "equals", desc := "(Ljava/lang/Object;)Z" } : Jvm.MethodName) prog_10_method_4_code (3 : Nat) (Option.some Jvm.ClassFile.FieldType.boolean), Jvm.Cond.code ({ cls := "java/lang/Integer", name := "valueOf", desc := "(I)Ljava/lang/Integer;" } : Jvm.MethodName) jdk_33_method_22_code (1 : Nat) (Option.some (Jvm.ClassFile.FieldType.object "java/lang/Integer")), Jvm.Cond.code ({ cls := "java/lang/Integer", name := "<init>", desc := "(I)V" } : Jvm.MethodName) jdk_33_method_23_code (2 : Nat) (Option.none : Option Jvm.ClassFile.FieldType), Jvm.Cond.code ({ cls := "java/lang/Number", name := "<init>", desc := "()V" } : Jvm.MethodName) jdk_18_method_1_code (1 : Nat) (Option.none : Option Jvm.ClassFile.FieldType)]
set_option maxRecDepth 65536 in
theorem codes_eq : words1.filter isCode = codes1 := rfl
theorem w_codes : ∀ c ∈ words1.filter isCode, c.before args0 about1 = true := by
  rw [codes_eq]
  intro c hc
  simp only [codes1, List.mem_cons, List.not_mem_nil, or_false] at hc
  rcases hc with rfl | rfl | rfl | rfl | rfl | rfl | rfl | rfl
  · exact w_c0
  · exact w_c1
  · exact w_c2
  · exact w_c3
  · exact w_c4
  · exact w_c5
  · exact w_c6
  · exact w_c7
set_option maxRecDepth 65536 in
theorem w_t1 : (words1.take 24).all (fun c => isCode c || c.before args0 about1) = true := by decide +kernel
set_option maxRecDepth 65536 in
theorem w_t2 : ((words1.drop 24).take 24).all (fun c => isCode c || c.before args0 about1) = true := by decide +kernel
set_option maxRecDepth 65536 in
theorem w_t3 : ((words1.drop 24).drop 24).all (fun c => isCode c || c.before args0 about1) = true := by decide +kernel
theorem w_tables : (allAtoms (Jvm.Cond.code x code maxLocals ret :: tables_1)).before args0 about1 = true := by
  rw [allAtoms_all]
  show words1.all (fun c => c.before args0 about1) = true
  refine all_split ?_ w_codes
  rw [← List.take_append_drop 24 words1, List.all_append, w_t1, ← List.take_append_drop 24 (words1.drop 24), List.all_append, w_t2, w_t3]
  rfl
set_option maxRecDepth 65536 in
theorem w_rest : rest_1_c.before args0 about1 = true := by decide +kernel
set_option maxRecDepth 65536 in
theorem w_case : (Jvm.Cond.and given_1 narrow_1).before args0 about1 = true := by decide +kernel
theorem w_applies : (headSpec (Jvm.Cond.code x code maxLocals ret :: tables_1) room_1).applies x e0.platform about1 = true :=
  (Spec.applies_iff w_frames).mpr ⟨w_running, w_runnable, w_alone, w_named, w_hears, w_ripe, w_room, w_tables⟩
theorem atStart : AtStart classFile x code maxLocals ret World_1 tables_1 room_1 Calls_1 rest_1 Pre_1 launch0 p0 e0 about1 theMethod args0 below0 :=
  ⟨lists_1, trivial, launch0.admits_env _ _ _, launch0.least_env, fairChoices_fair.cas, fairChoices_fair.clock, w_frames, w_args, w_heap, w_applies, trivial, w_rest, w_case⟩
end start1
theorem witness_1 : WitnessClaimed_1 := ⟨start1.p0, start1.e0, start1.about1, start1.theMethod, start1.args0, start1.below0, start1.atStart⟩
end Jvm.Pilot.@@N@@
