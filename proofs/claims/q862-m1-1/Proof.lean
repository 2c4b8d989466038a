import JvmDerived
import JvmDerived.Pilot.@@N@@Statement
import JvmDerived.Pilot.@@N@@Code
set_option linter.unusedVariables false
set_option linter.unusedSimpArgs false
namespace Jvm.Pilot.@@N@@
open Jvm Jvm.ClassFile Sem Op Lib Jvm.Free Jvm.Stand Jvm.LawKit Jvm.RoadKit Bundle Jvm.Pilot.@@N@@.Jvm.D
/-! ## own kit: a walk in continuation style over the library's steps -/
section OwnKit
variable {p : Program} {l : Launch} {e : Env} {R : Room} {s : State} {m : MethodId} {args : Array Value} {below : List Frame} {meth : Method} {c : Code} {T : State} {locs : List Loc} {cells slots : Nat} {Z : State} {a0 : Array Value} {h h' : Heap}
/-- from U the run ends, and then E holds -/
def GoOn (p : Program) (e : Env) (below : List Frame) (E : State → Outcome → Prop) (U : State) : Prop :=
  ∃ t o, Steps p.tables e below U t ∧ t.status = .running ∧ Ended t below o ∧ E t o
theorem GoOn.step {E : State → Outcome → Prop} {U U' : State} (hs : ∀ t, Steps p.tables e below U' t → Steps p.tables e below U t) (g : GoOn p e below E U') : GoOn p e below E U := by
  obtain ⟨t, o, h1, h2⟩ := g
  exact ⟨t, o, hs _ h1, h2⟩
/-- how a body ends: what it returns, its heap, the places that it wrote -/
abbrev EndQ (s : State) (rm : Room) (Q : Option Value → Heap → List Loc → Prop) : State → Outcome → Prop :=
  fun U o => ∃ v L, o = .returned v ∧ Q v U.heap L ∧ FrameEnd s o U L rm.cells rm.slots
/-- a body's contract at one array of arguments and one heap -/
def Con (l : Launch) (Z : State) (y : MethodName) (bytes : ByteArray) (mx : Nat) (rt : Option FieldType) (rm : Room) (as : Array Value) (h : Heap) (Q : Option Value → Heap → List Loc → Prop) : Prop :=
  ∀ ws : List Jvm.Cond, MetFree l y (head1 (Jvm.Cond.code y bytes mx rt :: ws) rm) (fun a U => a = as ∧ Z.Warmed39 U.vm ∧ U.heap = h) (fun _ _ _ _ _ => True) (fun _ U o U' => ∃ v L, o = .returned v ∧ Q v U'.heap L ∧ FrameEnd U o U' L rm.cells rm.slots)
theorem Con.intro {y : MethodName} {bytes : ByteArray} {mx : Nat} {rt : Option FieldType} {rm : Room} {as : Array Value} {Q : Option Value → Heap → List Loc → Prop} (hp : plainFor y = true)
    (body : ∀ (p : Program) (e : Env) (s : State) (m : MethodId) (below : List Frame) (meth : Method) (c : Code) (s₁ : State), p.tables.exec = Jvm.exec → c.code = bytes → c.maxLocals = mx → meth.sig.returnType = rt → meth.locks = false → Z.Warmed39 s.vm → s.vm.findClass y.cls = some m.cls → meth.name = y.name →
      Stand p l e rm s m as below meth c s₁ [] 0 0 → s₁.heap = h → GoOn p e below (EndQ s rm Q) (s₁.setTop (entryFrame m as mx))) : Con l Z y bytes mx rt rm as h Q := fun ws => by
  refine MetFree.of_bodySF hp hisR ?_
  intro p e s m args below meth c s₁ Bd hml0 hP hK
  obtain ⟨rfl, hZ, hh⟩ := hP
  have X0 : Stand p l e rm s m args below meth c s₁ [] 0 0 := Stand.of_body Bd
  obtain ⟨t, o, h1, h2, h3, h4⟩ := body p e s m below meth c s₁ Bd.exec Bd.bytes hml0 Bd.returns Bd.notSynchronized hZ (findClass_of_methodNamed Bd.named) (name_of_methodNamed Bd.named Bd.method).1 X0 (by rw [← hh, Bd.state]; rfl)
  exact ⟨t, o, h1, h2, h3, h4⟩
theorem GoOn.cast {E : State → Outcome → Prop} {g g' : JFrame} (q : g = g') (k : GoOn p e below E (T.setTop g')) : GoOn p e below E (T.setTop g) := q ▸ k
theorem GoOn.retI (X : Stand p l e R s m args below meth c T locs cells slots) (hx : p.tables.exec = Jvm.exec) (hrt : meth.sig.returnType = some .int) (hlk : meth.locks = false) {rm : Room} {Q : Option Value → Heap → List Loc → Prop} {pc : Nat} {Ls : Array Slot} {z : Int32} {rest : List Value}
    (hd : decode c.code pc = .ok (.ireturn, 1)) (hc : cells ≤ rm.cells) (hs : slots ≤ rm.slots) (hQ : Q (some (.int z)) T.heap locs) : GoOn p e below (EndQ s rm Q) (T.setTop (mkF m pc Ls (.int z :: rest))) := by
  obtain ⟨fs, hr, hrun, hended, hW, hsame⟩ := X.leave (v := some (.int z)) (fun h => by rw [hrt] at h; cases h) hlk
  exact ⟨_, _, Jvm.RoadKit.retOut X hx hrt rfl (Or.inl ⟨rfl, Or.inl rfl, _, rfl⟩) hd hr, hrun, hended, _, _, rfl, hQ, ⟨_, rfl⟩, hW, hsame.mono hc hs⟩
theorem GoOn.retN (X : Stand p l e R s m args below meth c T locs cells slots) (hx : p.tables.exec = Jvm.exec) {t : FieldType} (hrt : meth.sig.returnType = some t) (hlk : meth.locks = false) {rm : Room} {Q : Option Value → Heap → List Loc → Prop} {pc : Nat} {Ls : Array Slot} {z : Int32} {rest : List Value} (ht : t = .boolean ∨ t = .byte ∨ t = .char ∨ t = .short)
    (hd : decode c.code pc = .ok (.ireturn, 1)) (hc : cells ≤ rm.cells) (hs : slots ≤ rm.slots) (hQ : Q (some (.int (nar t z))) T.heap locs) : GoOn p e below (EndQ s rm Q) (T.setTop (mkF m pc Ls (.int z :: rest))) := by
  obtain ⟨fs, hr, hrun, hended, hW, hsame⟩ := X.leave (v := some (.int (nar t z))) (fun h => by rw [hrt] at h; cases h) hlk
  exact ⟨_, _, Jvm.RoadKit.retN X hx hrt ht hd hr, hrun, hended, _, _, rfl, hQ, ⟨_, rfl⟩, hW, hsame.mono hc hs⟩
theorem GoOn.retJ (X : Stand p l e R s m args below meth c T locs cells slots) (hx : p.tables.exec = Jvm.exec) (hrt : meth.sig.returnType = some .long) (hlk : meth.locks = false) {rm : Room} {Q : Option Value → Heap → List Loc → Prop} {pc : Nat} {Ls : Array Slot} {z : Int64} {rest : List Value}
    (hd : decode c.code pc = .ok (.lreturn, 1)) (hc : cells ≤ rm.cells) (hs : slots ≤ rm.slots) (hQ : Q (some (.long z)) T.heap locs) : GoOn p e below (EndQ s rm Q) (T.setTop (mkF m pc Ls (.long z :: rest))) := by
  obtain ⟨fs, hr, hrun, hended, hW, hsame⟩ := X.leave (v := some (.long z)) (fun h => by rw [hrt] at h; cases h) hlk
  exact ⟨_, _, Jvm.RoadKit.retOut X hx hrt rfl (Or.inr (Or.inl ⟨rfl, rfl, _, rfl⟩)) hd hr, hrun, hended, _, _, rfl, hQ, ⟨_, rfl⟩, hW, hsame.mono hc hs⟩
theorem GoOn.retR (X : Stand p l e R s m args below meth c T locs cells slots) (hx : p.tables.exec = Jvm.exec) {t : FieldType} (hrt : meth.sig.returnType = some t) (htr : t.isReference = true) (hlk : meth.locks = false) {rm : Room} {Q : Option Value → Heap → List Loc → Prop} {pc : Nat} {Ls : Array Slot} {z : Value} (hz : z.isRef = true) {rest : List Value}
    (hd : decode c.code pc = .ok (.areturn, 1)) (hc : cells ≤ rm.cells) (hs : slots ≤ rm.slots) (hQ : Q (some z) T.heap locs) : GoOn p e below (EndQ s rm Q) (T.setTop (mkF m pc Ls (z :: rest))) := by
  obtain ⟨fs, hr, hrun, hended, hW, hsame⟩ := X.leave (v := some z) (fun h => by rw [hrt] at h; cases h) hlk
  refine ⟨_, _, Jvm.RoadKit.retOut X hx hrt ?_ (Or.inr (Or.inr (Or.inr (Or.inr ⟨rfl, htr, hz⟩)))) hd hr, hrun, hended, _, _, rfl, hQ, ⟨_, rfl⟩, hW, hsame.mono hc hs⟩
  cases z <;> first | (cases t <;> rfl) | (simp [Value.isRef] at hz)
theorem GoOn.ret0 (X : Stand p l e R s m args below meth c T locs cells slots) (hx : p.tables.exec = Jvm.exec) (hrt : meth.sig.returnType = none) (hlk : meth.locks = false) {rm : Room} {Q : Option Value → Heap → List Loc → Prop} {pc : Nat} {Ls : Array Slot}
    (hd : decode c.code pc = .ok (.return_, 1)) (hc : cells ≤ rm.cells) (hs : slots ≤ rm.slots) (hQ : Q none T.heap locs) : GoOn p e below (EndQ s rm Q) (T.setTop (mkF m pc Ls [])) := by
  obtain ⟨fs, hr, hrun, hended, hW, hsame⟩ := X.leave (v := none) (fun _ => rfl) hlk
  exact ⟨_, _, X.returnOut hx hrt hd hr, hrun, hended, _, _, rfl, hQ, ⟨_, rfl⟩, hW, hsame.mono hc hs⟩
/-- a static call by its contract -/
theorem kCallS (X : Stand p l e R s m args below meth c T locs cells slots) (hx : p.tables.exec = Jvm.exec) (hZ : Z.Warmed39 s.vm) {own : String} {index : Nat} {y : MethodName} {bytes : ByteArray} {mx : Nat} {rt : Option FieldType} {rm : Room} {Q : Option Value → Heap → List Loc → Prop} {argsL rest : List Value}
    (K : Con l Z y bytes mx rt rm argsL.toArray h Q) (hown : s.vm.findClass own = some m.cls) (w1 : (Jvm.Cond.methodLink own index y).before a0 Z = true) (w2 : (Jvm.Cond.static y).before a0 Z = true) (w3 : (Jvm.Cond.initialized y.cls).before a0 Z = true) (w4 : (Jvm.Cond.code y bytes mx rt).before a0 Z = true)
    (hy : y.cls ≠ "java/lang/invoke/MethodHandle" ∧ y.cls ≠ "java/lang/invoke/VarHandle") (eT : T.heap = h) {g : JFrame} (hg : g.method = m) (hsize : g.locals.size = c.maxLocals) (hlen : ∀ sig, parseMethodDescriptor y.desc = some sig → argsL.length = sig.parameters.length) (hstack : g.stack = argsL.reverse ++ rest)
    {W : Nat} (hW : 2 * g.monitorRoom + (rest.map fun v => v.category).sum ≤ W) (hd : decode c.code g.pc = .ok (.invokestatic index, 3)) (hf : rm.frames + 1 ≤ R.frames) (hl : W + (mx + 11) + rm.locals ≤ R.locals) (hc : cells + rm.cells ≤ R.cells) (hs : slots + rm.slots ≤ R.slots) :
    ∃ v T' L, Stand p l e R s m args below meth c T' (locs ++ L) (cells + rm.cells) (slots + rm.slots) ∧ Q v T'.heap L ∧ ∀ target, Steps p.tables e below (T'.setTop { g with pc := g.pc + 3, stack := v.toList ++ rest }) target → Steps p.tables e below (T.setTop g) target := by
  obtain ⟨v, _, ⟨T', L', k', n'⟩, -, X', ⟨L, hQ, l1, l2, l3⟩, st⟩ := Jvm.LawKit.callS X hx (y := y) hown (mvT hZ w1) (mvT hZ w2) (mvT hZ w3) (mvT hZ w4) hy (backOf (W := W) (K []) hZ w4 w3 hf hl) hg hsize hlen hstack hW hd (fun _ _ => ⟨rfl, eT, hc, hs⟩)
  dsimp only [Pt.U, Pt.locs, Pt.cells, Pt.slots] at X' l1 l2 l3 hQ st
  subst l1 l2 l3
  exact ⟨v, T', L, X', hQ, fun t k => st _ k⟩
/-- a constructor by its contract -/
theorem kCallI (X : Stand p l e R s m args below meth c T locs cells slots) (hx : p.tables.exec = Jvm.exec) (hZ : Z.Warmed39 s.vm) {own : String} {index : Nat} {y : MethodName} {bytes : ByteArray} {mx : Nat} {rm : Room} {Q : Option Value → Heap → List Loc → Prop} {a : Addr} {argsL rest : List Value}
    (K : Con l Z y bytes mx none rm (.ref a :: argsL).toArray h Q) (hy1 : y.name = "<init>") (hown : s.vm.findClass own = some m.cls) (w1 : (Jvm.Cond.methodLink own index y).before a0 Z = true) (w2 : (Jvm.Cond.instanceMethod y).before a0 Z = true) (w3 : (Jvm.Cond.initialized y.cls).before a0 Z = true) (w4 : (Jvm.Cond.code y bytes mx none).before a0 Z = true)
    (hy : y.cls ≠ "java/lang/invoke/MethodHandle" ∧ y.cls ≠ "java/lang/invoke/VarHandle") (eT : T.heap = h) {g : JFrame} (hg : g.method = m) (hsize : g.locals.size = c.maxLocals) (hlen : ∀ sig, parseMethodDescriptor y.desc = some sig → argsL.length = sig.parameters.length) (hstack : g.stack = argsL.reverse ++ .ref a :: rest)
    {W : Nat} (hW : 2 * g.monitorRoom + (rest.map fun v => v.category).sum ≤ W) (hd : decode c.code g.pc = .ok (.invokespecial index, 3)) (hf : rm.frames + 1 ≤ R.frames) (hl : W + (mx + 11) + rm.locals ≤ R.locals) (hc : cells + rm.cells ≤ R.cells) (hs : slots + rm.slots ≤ R.slots) :
    ∃ v T' L, Stand p l e R s m args below meth c T' (locs ++ L) (cells + rm.cells) (slots + rm.slots) ∧ Q v T'.heap L ∧ ∀ target, Steps p.tables e below (T'.setTop { g with pc := g.pc + 3, stack := v.toList ++ rest }) target → Steps p.tables e below (T.setTop g) target := by
  obtain ⟨v, _, ⟨T', L', k', n'⟩, -, X', ⟨L, hQ, l1, l2, l3⟩, st⟩ := X.specialBack hx (y := y) hy1 hown (mvT hZ w1) (mvT hZ w2) (mvT hZ w4) hy (backOf (W := W) (K []) hZ w4 w3 hf hl) hg hsize (Steps.refl _) (a := a) hlen hstack hW hd (fun _ _ => ⟨rfl, eT, hc, hs⟩)
  dsimp only [Pt.U, Pt.locs, Pt.cells, Pt.slots] at X' l1 l2 l3 hQ st
  subst l1 l2 l3
  exact ⟨v, T', L, X', hQ, fun t k => st.trans k⟩
/-- an instance method by its contract, on an object of that very class -/
theorem kCallV (X : Stand p l e R s m args below meth c T locs cells slots) (hx : p.tables.exec = Jvm.exec) (hZ : Z.Warmed39 s.vm) {own C : String} {index : Nat} {y z : MethodName} {bytes : ByteArray} {mx : Nat} {rt : Option FieldType} {rm : Room} {Q : Option Value → Heap → List Loc → Prop} {a : Addr} {argsL rest : List Value}
    (K : Con l Z z bytes mx rt rm (.ref a :: argsL).toArray h Q) (hown : s.vm.findClass own = some m.cls) (w1 : (Jvm.Cond.methodLink own index y).before a0 Z = true) (wd : (Jvm.Cond.declares y).before a0 Z = true) (hnf : NotFace s y) (ws : (Jvm.Cond.selects C y z).before a0 Z = true) (w2 : (Jvm.Cond.instanceMethod z).before a0 Z = true) (w3 : (Jvm.Cond.initialized z.cls).before a0 Z = true) (w4 : (Jvm.Cond.code z bytes mx rt).before a0 Z = true)
    (hy : y.cls ≠ "java/lang/invoke/MethodHandle" ∧ y.cls ≠ "java/lang/invoke/VarHandle") (eT : T.heap = h) (E : Exa Z h a C) {g : JFrame} (hg : g.method = m) (hsize : g.locals.size = c.maxLocals) (hlen : ∀ sig, parseMethodDescriptor y.desc = some sig → argsL.length = sig.parameters.length) (hstack : g.stack = argsL.reverse ++ .ref a :: rest)
    {W : Nat} (hW : 2 * g.monitorRoom + (rest.map fun v => v.category).sum ≤ W) (hd : decode c.code g.pc = .ok (.invokevirtual index, 3)) (hf : rm.frames + 1 ≤ R.frames) (hl : W + (mx + 11) + rm.locals ≤ R.locals) (hc : cells + rm.cells ≤ R.cells) (hs : slots + rm.slots ≤ R.slots) :
    ∃ v T' L, Stand p l e R s m args below meth c T' (locs ++ L) (cells + rm.cells) (slots + rm.slots) ∧ Q v T'.heap L ∧ ∀ target, Steps p.tables e below (T'.setTop { g with pc := g.pc + 3, stack := v.toList ++ rest }) target → Steps p.tables e below (T.setTop g) target := by
  obtain ⟨cB, kB, q1, q2, q3⟩ := isOf hZ eT E
  obtain ⟨v, _, ⟨T', L', k', n'⟩, -, X', ⟨L, hQ, l1, l2, l3⟩, st⟩ := X.virtualBack hx (y := y) (z := z) hown (mvT hZ w1) (mvT hZ wd) hnf (mvT hZ ws) (mvT hZ w2) hy (backOf (W := W) (K []) hZ w4 w3 hf hl) q1 q3 hg hsize (Steps.refl _) hlen hstack hW hd (fun _ _ => ⟨rfl, eT, hc, hs⟩)
  dsimp only [Pt.U, Pt.locs, Pt.cells, Pt.slots] at X' l1 l2 l3 hQ st
  subst l1 l2 l3
  exact ⟨v, T', L, X', hQ, fun t k => st.trans k⟩
/-- a private method by its contract ('invokevirtual'); y2: a method of the same class of which is known that its class is no interface -/
theorem kCallP (X : Stand p l e R s m args below meth c T locs cells slots) (hx : p.tables.exec = Jvm.exec) (hZ : Z.Warmed39 s.vm) {own C : String} {index : Nat} {y y2 : MethodName} {bytes : ByteArray} {mx : Nat} {rt : Option FieldType} {rm : Room} {Q : Option Value → Heap → List Loc → Prop} {a : Addr} {argsL rest : List Value}
    (K : Con l Z y bytes mx rt rm (.ref a :: argsL).toArray h Q) (hown : s.vm.findClass own = some m.cls) (w1 : (Jvm.Cond.methodLink own index y).before a0 Z = true) (w2 : (Jvm.Cond.instanceMethod y).before a0 Z = true) (wp : (Jvm.Cond.privateMethod y).before a0 Z = true) (w3 : (Jvm.Cond.initialized y.cls).before a0 Z = true) (w4 : (Jvm.Cond.code y bytes mx rt).before a0 Z = true)
    (hnf : NotFace s y2) (hcl : y2.cls = y.cls) (w5 : (Jvm.Cond.instanceMethod y2).before a0 Z = true)
    (hy : y.cls ≠ "java/lang/invoke/MethodHandle" ∧ y.cls ≠ "java/lang/invoke/VarHandle") (eT : T.heap = h) (E : Exa Z h a C) {g : JFrame} (hg : g.method = m) (hsize : g.locals.size = c.maxLocals) (hlen : ∀ sig, parseMethodDescriptor y.desc = some sig → argsL.length = sig.parameters.length) (hstack : g.stack = argsL.reverse ++ .ref a :: rest)
    {W : Nat} (hW : 2 * g.monitorRoom + (rest.map fun v => v.category).sum ≤ W) (hd : decode c.code g.pc = .ok (.invokevirtual index, 3)) (hf : rm.frames + 1 ≤ R.frames) (hl : W + (mx + 11) + rm.locals ≤ R.locals) (hc : cells + rm.cells ≤ R.cells) (hs : slots + rm.slots ≤ R.slots) :
    ∃ v T' L, Stand p l e R s m args below meth c T' (locs ++ L) (cells + rm.cells) (slots + rm.slots) ∧ Q v T'.heap L ∧ ∀ target, Steps p.tables e below (T'.setTop { g with pc := g.pc + 3, stack := v.toList ++ rest }) target → Steps p.tables e below (T.setTop g) target := by
  obtain ⟨cB, kB, q1, q2, cell, q3, q4, q5⟩ := isOf hZ eT E
  obtain ⟨mk, methM, hnamed, hmethM, hstM, habM⟩ := Cond.instanceMethod_spec (mvT (args := args) hZ w2)
  obtain ⟨methM', cM, hmethM', -, -, -, -, -, -, hsigM⟩ := Cond.code_spec hnamed (mvT (args := args) hZ w4)
  cases hmethM.symm.trans hmethM'
  obtain ⟨mk2, methM2, hnamed2, -⟩ := Cond.instanceMethod_spec (mvT (args := args) hZ w5)
  obtain ⟨kP, hkP, hkPi⟩ := hnf mk2 hnamed2
  have hcc : mk2.cls = mk.cls := by
    have u1 := findClass_of_methodNamed hnamed2
    rw [hcl] at u1
    exact Option.some.inj (u1.symm.trans (findClass_of_methodNamed hnamed))
  rw [hcc] at hkP
  have hpriv : s.PrivateAt y := Cond.privateMethod_at (mvP hZ wp (args := args))
  obtain ⟨vm₁, X₁, hstep₁⟩ := X.invokevirtual hx hown (mvT hZ w1) hnamed hmethM hstM hkP hkPi hy (a := a) (cell := cell) q3 (fun q z => by rw [z] at q5; cases q5) (selectMethod_private hmethM (hpriv mk methM hnamed hmethM)) hmethM habM hkP hkPi (g := g) hg (argsL := argsL) (rest := rest) (hlen _ hsigM) hstack hd
  obtain ⟨v, ⟨T', L', k', n'⟩, X', ⟨L, hQ, l1, l2, l3⟩, st⟩ := (backOf (W := W) (K []) hZ w4 w3 hf hl) m meth c ⟨T.setVm vm₁, locs, cells, slots⟩ { g with stack := rest } (.invokevirtual index) mk (.ref a :: argsL).toArray X₁ hg hsize hd hW (X₁.named hnamed) ⟨rfl, eT, hc, hs⟩
  dsimp only [Pt.U, Pt.locs, Pt.cells, Pt.slots] at X' l1 l2 l3 hQ st
  subst l1 l2 l3
  exact ⟨v, T', L, X', hQ, fun t k => (hstep₁ _ fun acts => by rw [doInvoke_state]; exact Steps.refl _).trans (st.trans k)⟩
/-- an array: its kind, its length, what each place holds -/
def Jar (Z : State) (h : Heap) (a : Addr) (ty : FieldType) (n : Nat) (f : Nat → Value) : Prop := ∃ cl : Cell, Arr Z h a cl ty ∧ cl.slots.size = n ∧ ∀ i, i < n → cl.slots[i]? = some (f i)
section JarS
variable {a b : Addr} {ty : FieldType} {n : Nat} {f g : Nat → Value} {v : Value} {sl : Nat} {ws : List Addr}
theorem Jar.lt (F : Jar Z h a ty n f) : a < h.size := by obtain ⟨cl, A, -⟩ := F; exact A.lt
theorem Jar.ext (F : Jar Z h a ty n f) (E : Ext h h') : Jar Z h' a ty n f := by obtain ⟨cl, A, r⟩ := F; exact ⟨cl, A.ext E, r⟩
theorem Jar.other (F : Jar Z h b ty n f) (W : Wr h h' a sl v) (q : b ≠ a) : Jar Z h' b ty n f := by obtain ⟨cl, A, r⟩ := F; exact ⟨cl, A.other W q, r⟩
theorem Jar.keep (F : Jar Z h a ty n f) (K : Keep h h' ws) (q : a ∉ ws) : Jar Z h' a ty n f := by obtain ⟨cl, A, r⟩ := F; exact ⟨cl, ⟨K.2.1 a cl A.1 q, A.2⟩, r⟩
theorem Jar.congr (F : Jar Z h a ty n f) (q : ∀ i, i < n → f i = g i) : Jar Z h a ty n g := by obtain ⟨cl, A, s1, s2⟩ := F; exact ⟨cl, A, s1, fun i hi => by rw [s2 i hi, q i hi]⟩
theorem Jar.new {k : ClassId} {z : Int32} (A : Arr Z h a (newA k ty z) ty) (hz : z.toNatClampNeg = n) : Jar Z h a ty n (fun _ => defaultValue ty) := ⟨_, A, (sz_new _ _ _).trans hz, fun i hi => by simp [newA, hz, hi]⟩
theorem Jar.set (F : Jar Z h a ty n f) (W : Wr h h' a sl v) : Jar Z h' a ty n (fun i => if i = sl then v else f i) := by
  obtain ⟨cl, A, s1, s2⟩ := F
  obtain ⟨c2, q1, -, q3, -⟩ := id W
  cases A.1.symm.trans q1
  refine ⟨_, Arr.same W A, by simp [Cell.setSlot, s1], fun i hi => ?_⟩
  by_cases q : i = sl
  · subst q; simp [Cell.setSlot, q3]
  · show (cl.slots.setIfInBounds sl v)[i]? = some (if i = sl then v else f i)
    rw [if_neg q, ← s2 i hi, Array.getElem?_setIfInBounds_ne (Ne.symm q)]
theorem Jar.ints (F : Jar Z h a ty n f) (H : ∀ i, ∃ x, f i = .int x) : ∃ g : Nat → Int32, Jar Z h a ty n (fun i => .int (g i)) := ⟨fun i => Classical.choose (H i), F.congr fun i _ => Classical.choose_spec (H i)⟩
theorem Jar.longs (F : Jar Z h a ty n f) (H : ∀ i, ∃ x, f i = .long x) : ∃ g : Nat → Int64, Jar Z h a ty n (fun i => .long (g i)) := ⟨fun i => Classical.choose (H i), F.congr fun i _ => Classical.choose_spec (H i)⟩
theorem inJ {cl : Cell} {j : Int32} (s1 : cl.slots.size = n) (hj : 0 ≤ j.toInt ∧ j.toInt < n) : ¬ (j < 0 ∨ cl.slots.size ≤ j.toNatClampNeg) := by
  rw [s1, Int32.lt_iff_toInt_lt]
  have e1 : (0 : Int32).toInt = 0 := rfl
  have e2 : j.toNatClampNeg = j.toInt.toNat := rfl
  omega
theorem natJ {j : Int32} (hj : 0 ≤ j.toInt ∧ j.toInt < n) : j.toNatClampNeg < n := by
  have e2 : j.toNatClampNeg = j.toInt.toNat := rfl
  omega
end JarS
theorem kLdI (X : Stand p l e R s m args below meth c T locs cells slots) (hx : p.tables.exec = Jvm.exec) (hZ : Z.Warmed39 s.vm) (eT : T.heap = h) {a : Addr} {n : Nat} {f : Nat → Value} (F : Jar Z h a .int n f) {j : Int32} {v : Value} (hj : 0 ≤ j.toInt ∧ j.toInt < n) (hv : f j.toNatClampNeg = v) {g : JFrame} (hg : g.method = m) {rest : List Value} (hs : g.stack = .int j :: .ref a :: rest) (hd : decode c.code g.pc = .ok (.iaload, 1)) :
    ∀ t, Steps p.tables e below (T.setTop { g with pc := g.pc + 1, stack := v :: rest }) t → Steps p.tables e below (T.setTop g) t := by
  obtain ⟨cl, A, s1, s2⟩ := F
  exact X.iaload hx (j := j) (v := v) (by rw [eT]; exact A.1) (State.isArrayOf_alike hZ.alike A.2.1) A.2.2 (inJ s1 hj) (by rw [s2 _ (natJ hj), hv]) hg hs hd
theorem kLdJ (X : Stand p l e R s m args below meth c T locs cells slots) (hx : p.tables.exec = Jvm.exec) (hZ : Z.Warmed39 s.vm) (eT : T.heap = h) {a : Addr} {n : Nat} {f : Nat → Value} (F : Jar Z h a .long n f) {j : Int32} {v : Value} (hj : 0 ≤ j.toInt ∧ j.toInt < n) (hv : f j.toNatClampNeg = v) {g : JFrame} (hg : g.method = m) {rest : List Value} (hs : g.stack = .int j :: .ref a :: rest) (hd : decode c.code g.pc = .ok (.laload, 1)) :
    ∀ t, Steps p.tables e below (T.setTop { g with pc := g.pc + 1, stack := v :: rest }) t → Steps p.tables e below (T.setTop g) t := by
  obtain ⟨cl, A, s1, s2⟩ := F
  exact X.laload hx (j := j) (v := v) (by rw [eT]; exact A.1) (State.isArrayOf_alike hZ.alike A.2.1) A.2.2 (inJ s1 hj) (by rw [s2 _ (natJ hj), hv]) hg hs hd
theorem kLdB (X : Stand p l e R s m args below meth c T locs cells slots) (hx : p.tables.exec = Jvm.exec) (hZ : Z.Warmed39 s.vm) (eT : T.heap = h) {a : Addr} {n : Nat} {f : Nat → Value} (F : Jar Z h a .byte n f) {j : Int32} {v : Value} (hj : 0 ≤ j.toInt ∧ j.toInt < n) (hv : f j.toNatClampNeg = v) {g : JFrame} (hg : g.method = m) {rest : List Value} (hs : g.stack = .int j :: .ref a :: rest) (hd : decode c.code g.pc = .ok (.baload, 1)) :
    ∀ t, Steps p.tables e below (T.setTop { g with pc := g.pc + 1, stack := v :: rest }) t → Steps p.tables e below (T.setTop g) t := by
  obtain ⟨cl, A, s1, s2⟩ := F
  exact X.baloadBytes hx (j := j) (v := v) (by rw [eT]; exact A.1) (State.isArrayOf_alike hZ.alike A.2.1) A.2.2 (inJ s1 hj) (by rw [s2 _ (natJ hj), hv]) hg hs hd
theorem kLdA (X : Stand p l e R s m args below meth c T locs cells slots) (hx : p.tables.exec = Jvm.exec) (hZ : Z.Warmed39 s.vm) (eT : T.heap = h) {a : Addr} {ty : FieldType} {n : Nat} {f : Nat → Value} (F : Jar Z h a ty n f) (hty : ty.isReference = true) {j : Int32} {v : Value} (hj : 0 ≤ j.toInt ∧ j.toInt < n) (hv : f j.toNatClampNeg = v) {g : JFrame} (hg : g.method = m) {rest : List Value} (hs : g.stack = .int j :: .ref a :: rest) (hd : decode c.code g.pc = .ok (.aaload, 1)) :
    ∀ t, Steps p.tables e below (T.setTop { g with pc := g.pc + 1, stack := v :: rest }) t → Steps p.tables e below (T.setTop g) t := by
  obtain ⟨cl, A, s1, s2⟩ := F
  exact X.aaload hx (j := j) (v := v) (by rw [eT]; exact A.1) (State.isArrayOf_alike hZ.alike A.2.1) hty A.2.2 (inJ s1 hj) (by rw [s2 _ (natJ hj), hv]) hg hs hd
theorem kLen (X : Stand p l e R s m args below meth c T locs cells slots) (hx : p.tables.exec = Jvm.exec) (hZ : Z.Warmed39 s.vm) (eT : T.heap = h) {a : Addr} {ty : FieldType} {n : Nat} {f : Nat → Value} (F : Jar Z h a ty n f) {z : Int32} (hz : n.toInt32 = z) {g : JFrame} (hg : g.method = m) {rest : List Value} (hs : g.stack = .ref a :: rest) (hd : decode c.code g.pc = .ok (.arraylength, 1)) :
    ∀ t, Steps p.tables e below (T.setTop { g with pc := g.pc + 1, stack := .int z :: rest }) t → Steps p.tables e below (T.setTop g) t := by
  obtain ⟨cl, A, s1, s2⟩ := F
  subst hz s1
  exact X.arraylength hx (by rw [eT]; exact A.1) (State.isArrayOf_alike hZ.alike A.2.1) hg hs hd
/-- a store: what the three kinds say alike -/
theorem kStI (X : Stand p l e R s m args below meth c T locs cells slots) (hx : p.tables.exec = Jvm.exec) (hZ : Z.Warmed39 s.vm) (eT : T.heap = h) {a : Addr} {n : Nat} {f : Nat → Value} (F : Jar Z h a .int n f) {j x : Int32} (hj : 0 ≤ j.toInt ∧ j.toInt < n) {g : JFrame} (hg : g.method = m) {rest : List Value} (hs : g.stack = .int x :: .int j :: .ref a :: rest) (hd : decode c.code g.pc = .ok (.iastore, 1)) :
    ∃ T' h', Stand p l e R s m args below meth c T' (locs ++ [⟨a, j.toNatClampNeg⟩]) cells slots ∧ T'.heap = h' ∧ Wr h h' a j.toNatClampNeg (.int x) ∧ ∀ target, Steps p.tables e below (T'.setTop { g with pc := g.pc + 1, stack := rest }) target → Steps p.tables e below (T.setTop g) target := by
  obtain ⟨cl, A, s1, s2⟩ := F
  exact stI X hx hZ eT A (inJ s1 hj) hg hs hd
theorem kStJ (X : Stand p l e R s m args below meth c T locs cells slots) (hx : p.tables.exec = Jvm.exec) (hZ : Z.Warmed39 s.vm) (eT : T.heap = h) {a : Addr} {n : Nat} {f : Nat → Value} (F : Jar Z h a .long n f) {j : Int32} {x : Int64} (hj : 0 ≤ j.toInt ∧ j.toInt < n) {g : JFrame} (hg : g.method = m) {rest : List Value} (hs : g.stack = .long x :: .int j :: .ref a :: rest) (hd : decode c.code g.pc = .ok (.lastore, 1)) :
    ∃ T' h', Stand p l e R s m args below meth c T' (locs ++ [⟨a, j.toNatClampNeg⟩]) cells slots ∧ T'.heap = h' ∧ Wr h h' a j.toNatClampNeg (.long x) ∧ ∀ target, Steps p.tables e below (T'.setTop { g with pc := g.pc + 1, stack := rest }) target → Steps p.tables e below (T.setTop g) target := by
  obtain ⟨cl, A, s1, s2⟩ := F
  exact stJ X hx hZ eT A (inJ s1 hj) hg hs hd
theorem kStB (X : Stand p l e R s m args below meth c T locs cells slots) (hx : p.tables.exec = Jvm.exec) (hZ : Z.Warmed39 s.vm) (eT : T.heap = h) {a : Addr} {n : Nat} {f : Nat → Value} (F : Jar Z h a .byte n f) {j x : Int32} (hj : 0 ≤ j.toInt ∧ j.toInt < n) {g : JFrame} (hg : g.method = m) {rest : List Value} (hs : g.stack = .int x :: .int j :: .ref a :: rest) (hd : decode c.code g.pc = .ok (.bastore, 1)) :
    ∃ T' h', Stand p l e R s m args below meth c T' (locs ++ [⟨a, j.toNatClampNeg⟩]) cells slots ∧ T'.heap = h' ∧ Wr h h' a j.toNatClampNeg (.int (x.toInt8.toInt32)) ∧ ∀ target, Steps p.tables e below (T'.setTop { g with pc := g.pc + 1, stack := rest }) target → Steps p.tables e below (T.setTop g) target := by
  obtain ⟨cl, A, s1, s2⟩ := F
  exact stB X hx hZ eT A (inJ s1 hj) hg hs hd
theorem kClone (X : Stand p l e R s m args below meth c T locs cells slots) (hx : p.tables.exec = Jvm.exec) (hZ : Z.Warmed39 s.vm) {own ad : String} {index : Nat} (hown : s.vm.findClass own = some m.cls)
    (w1 : (Jvm.Cond.methodLink own index ⟨ad, "clone", "()Ljava/lang/Object;"⟩).before a0 Z = true) (w2 : (Jvm.Cond.sameMethod ad "java/lang/Object" "clone" "()Ljava/lang/Object;").before a0 Z = true) (w3 : (Jvm.Cond.native ⟨"java/lang/Object", "clone", "()Ljava/lang/Object;"⟩).before a0 Z = true)
    (w4 : (Jvm.Cond.instanceMethod ⟨"java/lang/Object", "clone", "()Ljava/lang/Object;"⟩).before a0 Z = true) (w5 : (Jvm.Cond.selects ad ⟨ad, "clone", "()Ljava/lang/Object;"⟩ ⟨"java/lang/Object", "clone", "()Ljava/lang/Object;"⟩).before a0 Z = true) (w6 : (Jvm.Cond.castable ad "java/lang/Cloneable").before a0 Z = true)
    (eT : T.heap = h) {a : Addr} {ty : FieldType} {n : Nat} {f : Nat → Value} (F : Jar Z h a ty n f) (E : Exa Z h a ad) (hft : ∀ i, i < n → fits ty (f i) = true) {g : JFrame} (hg : g.method = m) (hsize : g.locals.size = c.maxLocals) {rest : List Value} (hs : g.stack = .ref a :: rest) (hd : decode c.code g.pc = .ok (.invokevirtual index, 3))
    (hf : 1 ≤ R.frames) {W cap : Nat} (hW : 2 * g.monitorRoom + (rest.map fun v => v.category).sum ≤ W) (hl : W + 14 ≤ R.locals) (hcap : n ≤ cap) (hc : cells + 1 ≤ R.cells) (hsl : slots + cap ≤ R.slots) :
    ∃ T' h', Stand p l e R s m args below meth c T' locs (cells + 1) (slots + cap) ∧ T'.heap = h' ∧ Ext h h' ∧ Jar Z h' h.size ty n f ∧ Exa Z h' h.size ad ∧
      ∀ target, Steps p.tables e below (T'.setTop { g with pc := g.pc + 3, stack := .ref h.size :: rest }) target → Steps p.tables e below (T.setTop g) target := by
  obtain ⟨cl, A, s1, s2⟩ := F
  have FC : FitC Z cl := fitC_of A fun i hi v hv => by rw [s2 i (s1 ▸ hi)] at hv; cases hv; exact hft i (s1 ▸ hi)
  obtain ⟨T', h', X', e', ex, A', E', st⟩ := cloneA X hx hZ hown w1 w2 w3 w4 w5 w6 eT A E FC hg hsize hs hd hf hW hl (by rw [s1]; exact hcap) hc hsl
  exact ⟨T', h', X', e', ex, ⟨cloneOf cl, A', s1, s2⟩, E', st⟩
theorem narO {C : String} (v : Value) : narrow (.object C) v = v := by cases v <;> rfl
theorem fitO {C : String} {v : Value} (h : v.isRef = true) : fits (.object C) v = true := by cases v <;> first | rfl | (simp [Value.isRef] at h)
/-- what a body that writes nothing and makes nothing leaves -/
def PQ (r : Option Value) (h0 : Heap) : Option Value → Heap → List Loc → Prop := fun v h L => v = r ∧ L = [] ∧ h = h0
/-- what the law leaves -/
def LQ (n0 : Nat) : Option Value → Heap → List Loc → Prop := fun v _ L => v = some (.int 1) ∧ Fr n0 L
end OwnKit
theorem pn_0 : plainName "java/lang/Record" = true := by first | (simp [plainName, overriddenIn]; done) | decide +kernel
theorem d3_0 : decode jdk_30_method_1_code 0 = .ok (.aload_n 0, 1) := by decide +kernel
theorem d3_1 : decode jdk_30_method_1_code 1 = .ok (.invokespecial 1, 3) := by decide +kernel
theorem d3_4 : decode jdk_30_method_1_code 4 = .ok (.return_, 1) := by decide +kernel
theorem pn_1 : plainName "com/example/ashlar_gate/ashlargate/query/Page" = true := by first | (simp [plainName, overriddenIn]; done) | decide +kernel
theorem d2_0 : decode prog_16_method_1_code 0 = .ok (.aload_n 0, 1) := by decide +kernel
theorem pd_0 : parseMethodDescriptor "()V" = some ⟨[], none⟩ := by decide +kernel
theorem d2_1 : decode prog_16_method_1_code 1 = .ok (.invokespecial 1, 3) := by decide +kernel
theorem d2_4 : decode prog_16_method_1_code 4 = .ok (.lload_n 1, 1) := by decide +kernel
theorem d2_5 : decode prog_16_method_1_code 5 = .ok (.lconst 0, 1) := by decide +kernel
theorem d2_6 : decode prog_16_method_1_code 6 = .ok (.lcmp, 1) := by decide +kernel
theorem d2_7 : decode prog_16_method_1_code 7 = .ok (.ifCond .ge 17, 3) := by decide +kernel
theorem d2_24 : decode prog_16_method_1_code 24 = .ok (.iload_n 3, 1) := by decide +kernel
theorem d2_25 : decode prog_16_method_1_code 25 = .ok (.iconst 1, 1) := by decide +kernel
theorem d2_26 : decode prog_16_method_1_code 26 = .ok (.if_icmp .ge 17, 3) := by decide +kernel
theorem d2_43 : decode prog_16_method_1_code 43 = .ok (.aload_n 0, 1) := by decide +kernel
theorem d2_44 : decode prog_16_method_1_code 44 = .ok (.lload_n 1, 1) := by decide +kernel
theorem d2_45 : decode prog_16_method_1_code 45 = .ok (.putfield 19, 3) := by decide +kernel
theorem d2_48 : decode prog_16_method_1_code 48 = .ok (.aload_n 0, 1) := by decide +kernel
theorem d2_49 : decode prog_16_method_1_code 49 = .ok (.iload_n 3, 1) := by decide +kernel
theorem d2_50 : decode prog_16_method_1_code 50 = .ok (.putfield 25, 3) := by decide +kernel
theorem d2_53 : decode prog_16_method_1_code 53 = .ok (.return_, 1) := by decide +kernel
theorem d1_0 : decode jdk_29_method_65_code 0 = .ok (.iload_n 0, 1) := by decide +kernel
theorem d1_1 : decode jdk_29_method_65_code 1 = .ok (.iload_n 1, 1) := by decide +kernel
theorem d1_2 : decode jdk_29_method_65_code 2 = .ok (.if_icmp .lt 7, 3) := by decide +kernel
theorem d1_9 : decode jdk_29_method_65_code 9 = .ok (.iload_n 1, 1) := by decide +kernel
theorem d1_10 : decode jdk_29_method_65_code 10 = .ok (.ireturn, 1) := by decide +kernel
theorem d1_5 : decode jdk_29_method_65_code 5 = .ok (.iload_n 0, 1) := by decide +kernel
theorem d1_6 : decode jdk_29_method_65_code 6 = .ok (.goto 4, 3) := by decide +kernel
theorem d5_0 : decode prog_16_method_2_code 0 = .ok (.aload_n 0, 1) := by decide +kernel
theorem d5_1 : decode prog_16_method_2_code 1 = .ok (.getfield 19, 3) := by decide +kernel
theorem d5_4 : decode prog_16_method_2_code 4 = .ok (.ldc2_w 31, 3) := by decide +kernel
theorem d5_7 : decode prog_16_method_2_code 7 = .ok (.aload_n 0, 1) := by decide +kernel
theorem d5_8 : decode prog_16_method_2_code 8 = .ok (.getfield 25, 3) := by decide +kernel
theorem d5_11 : decode prog_16_method_2_code 11 = .ok (.i2l, 1) := by decide +kernel
theorem d5_12 : decode prog_16_method_2_code 12 = .ok (.ldiv, 1) := by decide +kernel
theorem d5_13 : decode prog_16_method_2_code 13 = .ok (.lcmp, 1) := by decide +kernel
theorem d5_14 : decode prog_16_method_2_code 14 = .ok (.ifCond .le 7, 3) := by decide +kernel
theorem d5_17 : decode prog_16_method_2_code 17 = .ok (.ldc2_w 31, 3) := by decide +kernel
theorem d5_20 : decode prog_16_method_2_code 20 = .ok (.lreturn, 1) := by decide +kernel
theorem d5_21 : decode prog_16_method_2_code 21 = .ok (.aload_n 0, 1) := by decide +kernel
theorem d5_22 : decode prog_16_method_2_code 22 = .ok (.getfield 19, 3) := by decide +kernel
theorem d5_25 : decode prog_16_method_2_code 25 = .ok (.aload_n 0, 1) := by decide +kernel
theorem d5_26 : decode prog_16_method_2_code 26 = .ok (.getfield 25, 3) := by decide +kernel
theorem d5_29 : decode prog_16_method_2_code 29 = .ok (.i2l, 1) := by decide +kernel
theorem d5_30 : decode prog_16_method_2_code 30 = .ok (.lmul, 1) := by decide +kernel
theorem d5_31 : decode prog_16_method_2_code 31 = .ok (.lreturn, 1) := by decide +kernel
theorem pn_2 : plainName "com/example/ashlar_gate/ashlargate/query/PageOffsetPinLaw" = true := by first | (simp [plainName, overriddenIn]; done) | decide +kernel
theorem pd_1 : parseMethodDescriptor "(II)I" = some ⟨[.int, .int], some .int⟩ := by decide +kernel
theorem pd_2 : parseMethodDescriptor "(JI)V" = some ⟨[.long, .int], none⟩ := by decide +kernel
theorem pd_3 : parseMethodDescriptor "()J" = some ⟨[], some .long⟩ := by decide +kernel
theorem ef_c_rec (m : MethodId) (x0 : Addr) : entryFrame m #[(.ref x0)] 1 = mkF m 0 #[.val (.ref x0)] [] := by first | (simp [entryFrame, mkF, argsToLocals, Value.category]; done) | rfl
set_option maxRecDepth 65536 in
set_option maxHeartbeats 40000000 in
theorem c_rec (l : Launch) (Z : State) (a0 : Array Value) (hw : ∀ d ∈ tables_1, d.before a0 Z = true) (a : Addr) (h0 : Heap)  :
    Con l Z (⟨"java/lang/Record", "<init>", "()V"⟩ : MethodName) jdk_30_method_1_code 1 none ({ frames := 1, cells := 0, slots := 0, locals := 12 } : Room) #[(.ref a)] h0 (PQ none h0) := by
  refine Con.intro (plainFor_of_name pn_0) ?_
  intro p e s m below meth c s₁ hx hby hml hrt hlk hZ hown hnm X0 e0
  replace hown : s.vm.findClass "java/lang/Record" = some m.cls := hown
  refine GoOn.cast (ef_c_rec m a) ?_
  show GoOn p e below _ (s₁.setTop (mkF m 0 #[.val (.ref a)] []))
  refine GoOn.step (fun t₀ k₀ => XS.aloadN X0.here hx rfl (hb hby d3_0) rfl rfl k₀) ?_
  show GoOn p e below _ (s₁.setTop (mkF m 1 #[.val (.ref a)] [(.ref a)]))
  obtain ⟨T1, X1, e1, st1⟩ := initO X0 hx hZ hown (hw _ (List.mem_of_getElem? (i := 17) rfl)) (hw _ (List.mem_of_getElem? (i := 18) rfl)) (hw _ (List.mem_of_getElem? (i := 19) rfl)) e0 (g := (mkF m 1 #[.val (.ref a)] [(.ref a)])) rfl (by rw [hml]; rfl) rfl (hb hby d3_1) (by decide) (W := 0) (by show 2 * 0 + _ ≤ _; exact Nat.le_of_eq rfl) (by decide)
  refine GoOn.step st1 ?_
  show GoOn p e below _ (T1.setTop (mkF m 4 #[.val (.ref a)] []))
  exact GoOn.ret0 X1 hx hrt hlk (hb hby d3_4) (by decide) (by decide) (by first | exact ⟨rfl, rfl, rfl⟩ | (rw [e1]; exact ⟨rfl, rfl, rfl⟩))
def PgQ (Z : State) (a : Addr) (i : Int64) (z : Int32) (h0 : Heap) (n0 : Nat) : Option Value → Heap → List Loc → Prop := fun v h L => v = none ∧ Fr n0 L ∧ Keep h0 h [a] ∧ Fld Z h a "com/example/ashlar_gate/ashlargate/query/Page" "pageIndex" "J" (.long i) ∧ Fld Z h a "com/example/ashlar_gate/ashlargate/query/Page" "pageSize" "I" (.int z)
theorem ef_c_pg (m : MethodId) (x0 : Addr) (x1 : Int64) (x2 : Int32) : entryFrame m #[(.ref x0), (.long x1), (.int x2)] 4 = mkF m 0 #[.val (.ref x0), .val (.long x1), .second, .val (.int x2)] [] := by first | (simp [entryFrame, mkF, argsToLocals, Value.category]; done) | rfl
set_option maxRecDepth 65536 in
set_option maxHeartbeats 40000000 in
theorem c_pg (l : Launch) (Z : State) (a0 : Array Value) (hw : ∀ d ∈ tables_1, d.before a0 Z = true) (a : Addr) (i : Int64) (z : Int32) (h0 : Heap) (n0 : Nat) (Z0 : n0 ≤ h0.size) (Ex : Exa Z h0 a "com/example/ashlar_gate/ashlargate/query/Page") (Fi : Fld Z h0 a "com/example/ashlar_gate/ashlargate/query/Page" "pageIndex" "J" (.long (0 : Int64))) (Fs : Fld Z h0 a "com/example/ashlar_gate/ashlargate/query/Page" "pageSize" "I" (.int (0 : Int32))) (ga : n0 ≤ a) (hi : ¬ i < 0) (hz : ¬ z < 1) :
    Con l Z (⟨"com/example/ashlar_gate/ashlargate/query/Page", "<init>", "(JI)V"⟩ : MethodName) prog_16_method_1_code 4 none ({ frames := 2, cells := 0, slots := 0, locals := 24 } : Room) #[(.ref a), (.long i), (.int z)] h0 (PgQ Z a i z h0 n0) := by
  refine Con.intro (plainFor_of_name pn_1) ?_
  intro p e s m below meth c s₁ hx hby hml hrt hlk hZ hown hnm X0 e0
  replace hown : s.vm.findClass "com/example/ashlar_gate/ashlargate/query/Page" = some m.cls := hown
  have N0 := Fr.nil n0
  refine GoOn.cast (ef_c_pg m a i z) ?_
  show GoOn p e below _ (s₁.setTop (mkF m 0 #[.val (.ref a), .val (.long i), .second, .val (.int z)] []))
  have K0 : Keep h0 h0 [a] := Keep.refl _ _
  refine GoOn.step (fun t₀ k₀ => XS.aloadN X0.here hx rfl (hb hby d2_0) rfl rfl k₀) ?_
  show GoOn p e below _ (s₁.setTop (mkF m 1 #[.val (.ref a), .val (.long i), .second, .val (.int z)] [(.ref a)]))
  obtain ⟨_, T2, L2, X2, hQ2, st2⟩ := kCallI X0 hx hZ (a := a) (argsL := []) (rest := []) (c_rec l Z a0 hw a h0) rfl hown (hw _ (List.mem_of_getElem? (i := 12) rfl)) (hw _ (List.mem_of_getElem? (i := 13) rfl)) (hw _ (List.mem_of_getElem? (i := 15) rfl)) (hw _ (List.mem_of_getElem? (i := 16) rfl)) (by decide) e0 (g := (mkF m 1 #[.val (.ref a), .val (.long i), .second, .val (.int z)] [(.ref a)])) rfl (by rw [hml]; rfl) (lenOf pd_0 rfl) rfl (W := 0) (by show 2 * 0 + _ ≤ _; exact Nat.le_of_eq rfl) (hb hby d2_1) (by decide) (by decide) (by decide) (by decide)
  obtain ⟨rfl, rfl, e2⟩ := hQ2
  rw [List.append_nil] at X2
  refine GoOn.step st2 ?_
  show GoOn p e below _ (T2.setTop (mkF m 4 #[.val (.ref a), .val (.long i), .second, .val (.int z)] []))
  refine GoOn.step (fun t₀ k₀ => XS.lloadN X2.here hx rfl (hb hby d2_4) rfl k₀) ?_
  show GoOn p e below _ (T2.setTop (mkF m 5 #[.val (.ref a), .val (.long i), .second, .val (.int z)] [(.long i)]))
  refine GoOn.step (fun t₀ k₀ => XS.lconst X2.here hx rfl (hb hby d2_5) k₀) ?_
  show GoOn p e below _ (T2.setTop (mkF m 6 #[.val (.ref a), .val (.long i), .second, .val (.int z)] [(.long (0 : Int64)), (.long i)]))
  refine GoOn.step (fun t₀ k₀ => XS.lcmp X2.here hx rfl (hb hby d2_6) rfl k₀) ?_
  show GoOn p e below _ (T2.setTop (mkF m 7 #[.val (.ref a), .val (.long i), .second, .val (.int z)] [(.int (lcmpW i (0 : Int64)))]))
  have hf3 : ¬ (i < (0 : Int64)) := hi
  refine GoOn.step (fun t₀ k₀ => XS.ifYes X2.here hx rfl (pc0 := 7) (pc' := 24) rfl (hb hby d2_7) rfl ((if0 _ _).trans (flt (mt (lw_lt _ _).mp hf3)).2.1) (by decide) (by decide) k₀) ?_
  show GoOn p e below _ (T2.setTop (mkF m 24 #[.val (.ref a), .val (.long i), .second, .val (.int z)] []))
  refine GoOn.step (fun t₀ k₀ => XS.iloadN X2.here hx rfl (hb hby d2_24) rfl k₀) ?_
  show GoOn p e below _ (T2.setTop (mkF m 25 #[.val (.ref a), .val (.long i), .second, .val (.int z)] [(.int z)]))
  refine GoOn.step (fun t₀ k₀ => XS.iconst X2.here hx rfl (hb hby d2_25) k₀) ?_
  show GoOn p e below _ (T2.setTop (mkF m 26 #[.val (.ref a), .val (.long i), .second, .val (.int z)] [(.int (1 : Int32)), (.int z)]))
  have hf4 : ¬ (z < (1 : Int32)) := hz
  refine GoOn.step (fun t₀ k₀ => XS.icmpYes X2.here hx rfl (pc0 := 26) (pc' := 43) rfl (hb hby d2_26) rfl (flt hf4).2.1 (by decide) (by decide) k₀) ?_
  show GoOn p e below _ (T2.setTop (mkF m 43 #[.val (.ref a), .val (.long i), .second, .val (.int z)] []))
  refine GoOn.step (fun t₀ k₀ => XS.aloadN X2.here hx rfl (hb hby d2_43) rfl rfl k₀) ?_
  show GoOn p e below _ (T2.setTop (mkF m 44 #[.val (.ref a), .val (.long i), .second, .val (.int z)] [(.ref a)]))
  refine GoOn.step (fun t₀ k₀ => XS.lloadN X2.here hx rfl (hb hby d2_44) rfl k₀) ?_
  show GoOn p e below _ (T2.setTop (mkF m 45 #[.val (.ref a), .val (.long i), .second, .val (.int z)] [(.long i), (.ref a)]))
  obtain ⟨T5, h5, X5, e5, W5, st5⟩ := putF X2 hx hZ hown (host := "") (Or.inl (hw _ (List.mem_of_getElem? (i := 20) rfl))) Via.refl e2 Fi Ex (Or.inr ⟨(hw _ (List.mem_of_getElem? (i := 21) rfl)), rfl, hnm⟩) (hw _ (List.mem_of_getElem? (i := 7) rfl)) (ty := .long) (by decide) rfl rfl (g := (mkF m 45 #[.val (.ref a), .val (.long i), .second, .val (.int z)] [(.long i), (.ref a)])) rfl rfl (hb hby d2_45)
  replace N0 := Fr.snoc X5 N0 ga
  replace Ex := Ex.wr W5
  replace Fi := Fld.same W5 Fi
  replace Fs := Fs.other W5 (Or.inr (slot_ne (Or.inr (hw _ (List.mem_of_getElem? (i := 23) rfl))) (Or.inr (hw _ (List.mem_of_getElem? (i := 21) rfl))) (by decide) (t := .int) (t' := .long) (by decide) (by decide)))
  replace Z0 := Nat.le_trans Z0 (Nat.le_of_eq W5.size.symm)
  replace K0 := K0.wr W5 (Or.inl (by simp))
  refine GoOn.step st5 ?_
  show GoOn p e below _ (T5.setTop (mkF m 48 #[.val (.ref a), .val (.long i), .second, .val (.int z)] []))
  refine GoOn.step (fun t₀ k₀ => XS.aloadN X5.here hx rfl (hb hby d2_48) rfl rfl k₀) ?_
  show GoOn p e below _ (T5.setTop (mkF m 49 #[.val (.ref a), .val (.long i), .second, .val (.int z)] [(.ref a)]))
  refine GoOn.step (fun t₀ k₀ => XS.iloadN X5.here hx rfl (hb hby d2_49) rfl k₀) ?_
  show GoOn p e below _ (T5.setTop (mkF m 50 #[.val (.ref a), .val (.long i), .second, .val (.int z)] [(.int z), (.ref a)]))
  obtain ⟨T6, h6, X6, e6, W6, st6⟩ := putF X5 hx hZ hown (host := "") (Or.inl (hw _ (List.mem_of_getElem? (i := 22) rfl))) Via.refl e5 Fs Ex (Or.inr ⟨(hw _ (List.mem_of_getElem? (i := 23) rfl)), rfl, hnm⟩) (hw _ (List.mem_of_getElem? (i := 7) rfl)) (ty := .int) (by decide) rfl rfl (g := (mkF m 50 #[.val (.ref a), .val (.long i), .second, .val (.int z)] [(.int z), (.ref a)])) rfl rfl (hb hby d2_50)
  replace N0 := Fr.snoc X6 N0 ga
  replace Ex := Ex.wr W6
  replace Fi := Fi.other W6 (Or.inr (slot_ne (Or.inr (hw _ (List.mem_of_getElem? (i := 21) rfl))) (Or.inr (hw _ (List.mem_of_getElem? (i := 23) rfl))) (by decide) (t := .long) (t' := .int) (by decide) (by decide)))
  replace Fs := Fld.same W6 Fs
  replace Z0 := Nat.le_trans Z0 (Nat.le_of_eq W6.size.symm)
  replace K0 := K0.wr W6 (Or.inl (by simp))
  refine GoOn.step st6 ?_
  show GoOn p e below _ (T6.setTop (mkF m 53 #[.val (.ref a), .val (.long i), .second, .val (.int z)] []))
  exact GoOn.ret0 X6 hx hrt hlk (hb hby d2_53) (by decide) (by decide) (by first | exact ⟨rfl, N0, K0, Fi, Fs⟩ | (rw [e6]; exact ⟨rfl, N0, K0, Fi, Fs⟩))
theorem pl_div (x e : Int64) (hx : 0 ≤ x.toInt) (he : 0 < e.toInt) : (x / e).toInt = x.toInt / e.toInt := by
  have hne : e ≠ -1 := fun h => by subst h; revert he; decide
  rw [Int64.toInt_div_of_ne_right x e hne]
  exact Int.tdiv_eq_ediv_of_nonneg hx
theorem pl_ne (e : Int64) (h : 0 < e.toInt) : e ≠ 0 := fun q => by subst q; revert h; decide
def offV (i : Int64) (z : Int32) : Int64 := if ((9223372036854775807 : Int64) / z.toInt64) < i then 9223372036854775807 else i * z.toInt64
theorem pl_off (i : Int64) (z : Int32) (hi : 0 ≤ i.toInt) (hz : 1 ≤ z.toInt) (hi2 lo lp hg lw : Int64)
    (e1 : ((i.toUInt64 >>> ((32 : Int32) &&& 0x3f).toInt64.toUInt64).toInt64) = hi2) (e2 : (i &&& (4294967295 : Int64)) = lo) (e3 : lo * z.toInt64 = lp)
    (e4 : hi2 * z.toInt64 + ((lp.toUInt64 >>> ((32 : Int32) &&& 0x3f).toInt64.toUInt64).toInt64) = hg) (e5 : (lp &&& (4294967295 : Int64)) = lw) :
    (hg < (2147483648 : Int64) → offV i z = (hg <<< ((32 : Int32) &&& 0x3f).toInt64) ||| lw) ∧ (¬ hg < (2147483648 : Int64) → offV i z = 9223372036854775807) := by
  have hz1 := c_i2l z; have hzr := rng32 z; have hir := rng64 i
  have kM : (9223372036854775807 : Int64).toInt = 9223372036854775807 := by decide
  have kP : (2147483648 : Int64).toInt = 2147483648 := by decide
  have f1 := c_lushr i 32 32 (by decide) (by decide)
  rw [e1] at f1
  have f2 : (i &&& (4294967295 : Int64)).toInt = i.toInt % 4294967296 := c_maskL i 4294967295 32 (by decide) (by decide)
  rw [e2] at f2
  have p1 : (2 ^ 32 : Nat) = 4294967296 := by decide
  rw [p1] at f1
  have b1 : 0 ≤ lo.toInt * z.toInt := Int.mul_nonneg (by omega) (by omega)
  have b2 : lo.toInt * z.toInt ≤ 4294967295 * 2147483647 := Int.mul_le_mul (by omega) (by omega) (by omega) (by omega)
  have g3 : lp.toInt = lo.toInt * z.toInt := by rw [← e3]; have := c_lmul lo z.toInt64; rw [hz1] at this; have := rng64 (lo * z.toInt64); omega
  have f4 := c_lushr lp 32 32 (by decide) (by decide)
  rw [p1] at f4
  have b3 : 0 ≤ hi2.toInt * z.toInt := Int.mul_nonneg (by omega) (by omega)
  have b4 : hi2.toInt * z.toInt ≤ 2147483647 * 2147483647 := Int.mul_le_mul (by omega) (by omega) (by omega) (by omega)
  have g5 : (hi2 * z.toInt64).toInt = hi2.toInt * z.toInt := by have := c_lmul hi2 z.toInt64; rw [hz1] at this; have := rng64 (hi2 * z.toInt64); omega
  have g6 : hg.toInt = hi2.toInt * z.toInt + lp.toInt / 4294967296 := by
    rw [← e4]
    have := c_ladd (hi2 * z.toInt64) ((lp.toUInt64 >>> ((32 : Int32) &&& 0x3f).toInt64.toUInt64).toInt64)
    have := rng64 (hi2 * z.toInt64 + ((lp.toUInt64 >>> ((32 : Int32) &&& 0x3f).toInt64.toUInt64).toInt64))
    omega
  have g7 : lw.toInt = lp.toInt % 4294967296 := by rw [← e5]; exact c_maskL lp 4294967295 32 (by decide) (by decide)
  have g8 : i.toInt * z.toInt = hg.toInt * 4294967296 + lw.toInt := by
    have q1 : i.toInt = hi2.toInt * 4294967296 + lo.toInt := by omega
    have q2 : i.toInt * z.toInt = (hi2.toInt * z.toInt) * 4294967296 + lo.toInt * z.toInt := by
      rw [q1, Int.add_mul]; congr 1; rw [Int.mul_assoc, Int.mul_assoc]; congr 1; exact Int.mul_comm _ _
    omega
  have f9 := pl_div 9223372036854775807 z.toInt64 (by omega) (by omega)
  rw [kM, hz1] at f9
  have g9 : (9223372036854775807 / z.toInt64 < i) ↔ 9223372036854775807 < i.toInt * z.toInt := by
    rw [Int64.lt_iff_toInt_lt, f9]
    have := Int.le_ediv_iff_mul_le (a := i.toInt) (b := 9223372036854775807) (c := z.toInt) (by omega)
    omega
  rw [offV, Int64.lt_iff_toInt_lt, kP]
  constructor
  · intro hl
    rw [if_neg (by rw [g9]; omega)]
    apply Int64.toInt_inj.mp
    have c1 := c_lmul i z.toInt64; rw [hz1] at c1; have c2 := rng64 (i * z.toInt64)
    have c3 := c_lshl hg 32 32 (by decide); rw [p1] at c3; have c4 := rng64 (hg <<< ((32 : Int32) &&& 0x3f).toInt64)
    have c5 : (hg <<< ((32 : Int32) &&& 0x3f).toInt64).toInt = hg.toInt * 4294967296 := by omega
    have c6 := c_orL (hg <<< ((32 : Int32) &&& 0x3f).toInt64) lw 32 (by decide) 4294967296 (by decide) (by omega) (by omega) (by omega)
    have c7 := rng64 ((hg <<< ((32 : Int32) &&& 0x3f).toInt64) ||| lw)
    omega
  · intro hl
    rw [if_pos (by rw [g9]; omega)]
theorem pl_ushr (x u : Int64) (hx : 0 ≤ x.toInt) : 0 ≤ ((x.toUInt64 >>> u.toUInt64).toInt64).toInt := by
  have h1 : (x.toUInt64 >>> u.toUInt64).toNat ≤ x.toUInt64.toNat := by
    rw [UInt64.toNat_shiftRight, Nat.shiftRight_eq_div_pow]; exact Nat.div_le_self _ _
  have h2 : x.toUInt64.toNat < 2 ^ 63 := by
    have e : x.toUInt64.toNat = x.toBitVec.toNat := rfl
    have e2 : x.toInt = x.toBitVec.toInt := rfl
    rw [BitVec.toInt_eq_toNat_cond] at e2
    have := x.toBitVec.isLt
    split at e2 <;> omega
  have e3 : ((x.toUInt64 >>> u.toUInt64).toInt64).toInt = (x.toUInt64 >>> u.toUInt64).toBitVec.toInt := rfl
  rw [e3, BitVec.toInt_eq_toNat_cond]
  have e4 : (x.toUInt64 >>> u.toUInt64).toBitVec.toNat = (x.toUInt64 >>> u.toUInt64).toNat := rfl
  rw [e4]; split <;> omega
theorem ef_c_mx (m : MethodId) (x0 : Int32) (x1 : Int32) : entryFrame m #[(.int x0), (.int x1)] 2 = mkF m 0 #[.val (.int x0), .val (.int x1)] [] := by first | (simp [entryFrame, mkF, argsToLocals, Value.category]; done) | rfl
set_option maxRecDepth 65536 in
set_option maxHeartbeats 40000000 in
theorem c_mx (l : Launch) (Z : State) (a0 : Array Value) (hw : ∀ d ∈ tables_1, d.before a0 Z = true) (u v : Int32) (h0 : Heap)  :
    Con l Z (⟨"java/lang/Math", "max", "(II)I"⟩ : MethodName) jdk_29_method_65_code 2 (some .int) ({ frames := 0, cells := 0, slots := 0, locals := 0 } : Room) #[(.int u), (.int v)] h0 (PQ (some (.int (if u < v then v else u))) h0) := by
  refine Con.intro (Jvm.Free.JP.mathPlain rfl (by decide +kernel)) ?_
  intro p e s m below meth c s₁ hx hby hml hrt hlk hZ hown hnm X0 e0
  replace hown : s.vm.findClass "java/lang/Math" = some m.cls := hown
  refine GoOn.cast (ef_c_mx m u v) ?_
  show GoOn p e below _ (s₁.setTop (mkF m 0 #[.val (.int u), .val (.int v)] []))
  refine GoOn.step (fun t₀ k₀ => XS.iloadN X0.here hx rfl (hb hby d1_0) rfl k₀) ?_
  show GoOn p e below _ (s₁.setTop (mkF m 1 #[.val (.int u), .val (.int v)] [(.int u)]))
  refine GoOn.step (fun t₀ k₀ => XS.iloadN X0.here hx rfl (hb hby d1_1) rfl k₀) ?_
  show GoOn p e below _ (s₁.setTop (mkF m 2 #[.val (.int u), .val (.int v)] [(.int v), (.int u)]))
  by_cases hc : u < v
  · refine GoOn.step (fun t₀ k₀ => XS.icmpYes X0.here hx rfl (pc0 := 2) (pc' := 9) rfl (hb hby d1_2) rfl (tlt hc).1 (by decide) (by decide) k₀) ?_
    show GoOn p e below _ (s₁.setTop (mkF m 9 #[.val (.int u), .val (.int v)] []))
    refine GoOn.step (fun t₀ k₀ => XS.iloadN X0.here hx rfl (hb hby d1_9) rfl k₀) ?_
    show GoOn p e below _ (s₁.setTop (mkF m 10 #[.val (.int u), .val (.int v)] [(.int v)]))
    exact GoOn.retI X0 hx hrt hlk (hb hby d1_10) (by decide) (by decide) (by first | exact ⟨by rw [if_pos hc], rfl, rfl⟩ | (rw [e0]; exact ⟨by rw [if_pos hc], rfl, rfl⟩))
  · refine GoOn.step (fun t₀ k₀ => XS.icmpNo X0.here hx rfl (hb hby d1_2) rfl (flt hc).1 k₀) ?_
    show GoOn p e below _ (s₁.setTop (mkF m 5 #[.val (.int u), .val (.int v)] []))
    refine GoOn.step (fun t₀ k₀ => XS.iloadN X0.here hx rfl (hb hby d1_5) rfl k₀) ?_
    show GoOn p e below _ (s₁.setTop (mkF m 6 #[.val (.int u), .val (.int v)] [(.int u)]))
    refine GoOn.step (fun t₀ k₀ => XS.goto X0.here hx rfl (pc0 := 6) (pc' := 10) rfl (hb hby d1_6) (by decide) (by decide) k₀) ?_
    show GoOn p e below _ (s₁.setTop (mkF m 10 #[.val (.int u), .val (.int v)] [(.int u)]))
    exact GoOn.retI X0 hx hrt hlk (hb hby d1_10) (by decide) (by decide) (by first | exact ⟨by rw [if_neg hc], rfl, rfl⟩ | (rw [e0]; exact ⟨by rw [if_neg hc], rfl, rfl⟩))
theorem ef_c_off (m : MethodId) (x0 : Addr) : entryFrame m #[(.ref x0)] 1 = mkF m 0 #[.val (.ref x0)] [] := by first | (simp [entryFrame, mkF, argsToLocals, Value.category]; done) | rfl
set_option maxRecDepth 65536 in
set_option maxHeartbeats 40000000 in
theorem c_off (l : Launch) (Z : State) (a0 : Array Value) (hw : ∀ d ∈ tables_1, d.before a0 Z = true) (a : Addr) (i : Int64) (z : Int32) (h0 : Heap) (hz : 1 ≤ z.toInt) (Fi : Fld Z h0 a "com/example/ashlar_gate/ashlargate/query/Page" "pageIndex" "J" (.long i)) (Fs : Fld Z h0 a "com/example/ashlar_gate/ashlargate/query/Page" "pageSize" "I" (.int z)) :
    Con l Z (⟨"com/example/ashlar_gate/ashlargate/query/Page", "offset", "()J"⟩ : MethodName) prog_16_method_2_code 1 (some .long) ({ frames := 0, cells := 0, slots := 0, locals := 0 } : Room) #[(.ref a)] h0 (PQ (some (.long (offV i z))) h0) := by
  refine Con.intro (plainFor_of_name pn_1) ?_
  intro p e s m below meth c s₁ hx hby hml hrt hlk hZ hown hnm X0 e0
  replace hown : s.vm.findClass "com/example/ashlar_gate/ashlargate/query/Page" = some m.cls := hown
  refine GoOn.cast (ef_c_off m a) ?_
  show GoOn p e below _ (s₁.setTop (mkF m 0 #[.val (.ref a)] []))
  have hz1 := c_i2l z
  refine GoOn.step (fun t₀ k₀ => XS.aloadN X0.here hx rfl (hb hby d5_0) rfl rfl k₀) ?_
  show GoOn p e below _ (s₁.setTop (mkF m 1 #[.val (.ref a)] [(.ref a)]))
  obtain ⟨T7, X7, e7, st7⟩ := getF X0 hx hZ hown (host := "") (Or.inl (hw _ (List.mem_of_getElem? (i := 20) rfl))) Via.refl e0 Fi (g := (mkF m 1 #[.val (.ref a)] [(.ref a)])) rfl rfl (hb hby d5_1)
  refine GoOn.step st7 ?_
  show GoOn p e below _ (T7.setTop (mkF m 4 #[.val (.ref a)] [(.long i)]))
  refine GoOn.step (fun t₀ k₀ => X7.ldc2Long hx hown (mvT hZ (hw _ (List.mem_of_getElem? (i := 29) rfl))) (g := (mkF m 4 #[.val (.ref a)] [(.long i)])) rfl (hb hby d5_4) t₀ k₀) ?_
  show GoOn p e below _ (T7.setTop (mkF m 7 #[.val (.ref a)] [(.long (9223372036854775807 : Int64)), (.long i)]))
  refine GoOn.step (fun t₀ k₀ => XS.aloadN X7.here hx rfl (hb hby d5_7) rfl rfl k₀) ?_
  show GoOn p e below _ (T7.setTop (mkF m 8 #[.val (.ref a)] [(.ref a), (.long (9223372036854775807 : Int64)), (.long i)]))
  obtain ⟨T8, X8, e8, st8⟩ := getF X7 hx hZ hown (host := "") (Or.inl (hw _ (List.mem_of_getElem? (i := 22) rfl))) Via.refl e7 Fs (g := (mkF m 8 #[.val (.ref a)] [(.ref a), (.long (9223372036854775807 : Int64)), (.long i)])) rfl rfl (hb hby d5_8)
  refine GoOn.step st8 ?_
  show GoOn p e below _ (T8.setTop (mkF m 11 #[.val (.ref a)] [(.int z), (.long (9223372036854775807 : Int64)), (.long i)]))
  refine GoOn.step (fun t₀ k₀ => XS.i2l X8.here hx rfl (hb hby d5_11) rfl k₀) ?_
  show GoOn p e below _ (T8.setTop (mkF m 12 #[.val (.ref a)] [(.long (z.toInt64)), (.long (9223372036854775807 : Int64)), (.long i)]))
  refine GoOn.step (fun t₀ k₀ => XS.ldiv X8.here hx rfl (hb hby d5_12) rfl (pl_ne _ (by omega)) k₀) ?_
  show GoOn p e below _ (T8.setTop (mkF m 13 #[.val (.ref a)] [(.long ((9223372036854775807 : Int64) / (z.toInt64))), (.long i)]))
  refine GoOn.step (fun t₀ k₀ => XS.lcmp X8.here hx rfl (hb hby d5_13) rfl k₀) ?_
  show GoOn p e below _ (T8.setTop (mkF m 14 #[.val (.ref a)] [(.int (lcmpW i ((9223372036854775807 : Int64) / (z.toInt64))))]))
  by_cases hc : ((9223372036854775807 : Int64) / (z.toInt64)) < i
  · refine GoOn.step (fun t₀ k₀ => XS.ifNo X8.here hx rfl (hb hby d5_14) rfl ((if0 _ _).trans (tlt ((lw_gt _ _).mpr hc)).2.2.2) k₀) ?_
    show GoOn p e below _ (T8.setTop (mkF m 17 #[.val (.ref a)] []))
    refine GoOn.step (fun t₀ k₀ => X8.ldc2Long hx hown (mvT hZ (hw _ (List.mem_of_getElem? (i := 29) rfl))) (g := (mkF m 17 #[.val (.ref a)] [])) rfl (hb hby d5_17) t₀ k₀) ?_
    show GoOn p e below _ (T8.setTop (mkF m 20 #[.val (.ref a)] [(.long (9223372036854775807 : Int64))]))
    exact GoOn.retJ X8 hx hrt hlk (hb hby d5_20) (by decide) (by decide) (by first | exact ⟨by rw [offV, if_pos hc], rfl, rfl⟩ | (rw [e8]; exact ⟨by rw [offV, if_pos hc], rfl, rfl⟩))
  · refine GoOn.step (fun t₀ k₀ => XS.ifYes X8.here hx rfl (pc0 := 14) (pc' := 21) rfl (hb hby d5_14) rfl ((if0 _ _).trans (flt (mt (lw_gt _ _).mp hc)).2.2.2) (by decide) (by decide) k₀) ?_
    show GoOn p e below _ (T8.setTop (mkF m 21 #[.val (.ref a)] []))
    refine GoOn.step (fun t₀ k₀ => XS.aloadN X8.here hx rfl (hb hby d5_21) rfl rfl k₀) ?_
    show GoOn p e below _ (T8.setTop (mkF m 22 #[.val (.ref a)] [(.ref a)]))
    obtain ⟨T9, X9, e9, st9⟩ := getF X8 hx hZ hown (host := "") (Or.inl (hw _ (List.mem_of_getElem? (i := 20) rfl))) Via.refl e8 Fi (g := (mkF m 22 #[.val (.ref a)] [(.ref a)])) rfl rfl (hb hby d5_22)
    refine GoOn.step st9 ?_
    show GoOn p e below _ (T9.setTop (mkF m 25 #[.val (.ref a)] [(.long i)]))
    refine GoOn.step (fun t₀ k₀ => XS.aloadN X9.here hx rfl (hb hby d5_25) rfl rfl k₀) ?_
    show GoOn p e below _ (T9.setTop (mkF m 26 #[.val (.ref a)] [(.ref a), (.long i)]))
    obtain ⟨T10, X10, e10, st10⟩ := getF X9 hx hZ hown (host := "") (Or.inl (hw _ (List.mem_of_getElem? (i := 22) rfl))) Via.refl e9 Fs (g := (mkF m 26 #[.val (.ref a)] [(.ref a), (.long i)])) rfl rfl (hb hby d5_26)
    refine GoOn.step st10 ?_
    show GoOn p e below _ (T10.setTop (mkF m 29 #[.val (.ref a)] [(.int z), (.long i)]))
    refine GoOn.step (fun t₀ k₀ => XS.i2l X10.here hx rfl (hb hby d5_29) rfl k₀) ?_
    show GoOn p e below _ (T10.setTop (mkF m 30 #[.val (.ref a)] [(.long (z.toInt64)), (.long i)]))
    refine GoOn.step (fun t₀ k₀ => XS.lmul X10.here hx rfl (hb hby d5_30) rfl k₀) ?_
    show GoOn p e below _ (T10.setTop (mkF m 31 #[.val (.ref a)] [(.long (i * (z.toInt64)))]))
    exact GoOn.retJ X10 hx hrt hlk (hb hby d5_31) (by decide) (by decide) (by first | exact ⟨by rw [offV, if_neg hc], rfl, rfl⟩ | (rw [e10]; exact ⟨by rw [offV, if_neg hc], rfl, rfl⟩))
theorem ef_law_ok (m : MethodId) (x0 : Int64) (x1 : Int32) (x2 : Int32) : entryFrame m #[(.long x0), (.int x1), (.int x2)] maxLocals = mkF m 0 #[.val (.long x0), .second, .val (.int x1), .val (.int x2), .unset, .unset, .unset, .unset, .unset, .unset, .unset, .unset, .unset, .unset, .unset, .unset, .unset, .unset, .unset, .unset, .unset, .unset, .unset, .unset] [] := by first | (simp [entryFrame, mkF, argsToLocals, Value.category, maxLocals]; done) | rfl
set_option maxRecDepth 65536 in
set_option maxHeartbeats 40000000 in
theorem law_ok (l : Launch) (Z : State) (a0 : Array Value) (hw : ∀ d ∈ tables_1, d.before a0 Z = true) (q0 : Int64) (q1 q2 : Int32) (h0 : Heap) (n0 : Nat) (Z0 : n0 ≤ h0.size)  :
    Con l Z x code maxLocals ret room_1 #[(.long q0), (.int q1), (.int q2)] h0 (LQ n0) := by
  refine Con.intro (plainFor_of_name pn_2) ?_
  intro p e s m below meth c s₁ hx hby hml hrt hlk hZ hown hnm X0 e0
  replace hown : s.vm.findClass "com/example/ashlar_gate/ashlargate/query/PageOffsetPinLaw" = some m.cls := hown
  have N0 := Fr.nil n0
  refine GoOn.cast (ef_law_ok m q0 q1 q2) ?_
  show GoOn p e below _ (s₁.setTop (mkF m 0 #[.val (.long q0), .second, .val (.int q1), .val (.int q2), .unset, .unset, .unset, .unset, .unset, .unset, .unset, .unset, .unset, .unset, .unset, .unset, .unset, .unset, .unset, .unset, .unset, .unset, .unset, .unset] []))
  have hm : (q0 &&& (9223372036854775807 : Int64)).toInt = q0.toInt % 9223372036854775808 := c_maskL q0 9223372036854775807 63 (by decide) (by decide)
  refine GoOn.step (fun t₀ k₀ => XS.lloadN X0.here hx rfl (hb hby at_0) rfl k₀) ?_
  show GoOn p e below _ (s₁.setTop (mkF m 1 #[.val (.long q0), .second, .val (.int q1), .val (.int q2), .unset, .unset, .unset, .unset, .unset, .unset, .unset, .unset, .unset, .unset, .unset, .unset, .unset, .unset, .unset, .unset, .unset, .unset, .unset, .unset] [(.long q0)]))
  refine GoOn.step (fun t₀ k₀ => X0.ldc2Long hx hown (mvT hZ (hw _ (List.mem_of_getElem? (i := 0) rfl))) (g := (mkF m 1 #[.val (.long q0), .second, .val (.int q1), .val (.int q2), .unset, .unset, .unset, .unset, .unset, .unset, .unset, .unset, .unset, .unset, .unset, .unset, .unset, .unset, .unset, .unset, .unset, .unset, .unset, .unset] [(.long q0)])) rfl (hb hby at_1) t₀ k₀) ?_
  show GoOn p e below _ (s₁.setTop (mkF m 4 #[.val (.long q0), .second, .val (.int q1), .val (.int q2), .unset, .unset, .unset, .unset, .unset, .unset, .unset, .unset, .unset, .unset, .unset, .unset, .unset, .unset, .unset, .unset, .unset, .unset, .unset, .unset] [(.long (9223372036854775807 : Int64)), (.long q0)]))
  refine GoOn.step (fun t₀ k₀ => XS.land X0.here hx rfl (hb hby at_4) rfl k₀) ?_
  show GoOn p e below _ (s₁.setTop (mkF m 5 #[.val (.long q0), .second, .val (.int q1), .val (.int q2), .unset, .unset, .unset, .unset, .unset, .unset, .unset, .unset, .unset, .unset, .unset, .unset, .unset, .unset, .unset, .unset, .unset, .unset, .unset, .unset] [(.long (q0 &&& (9223372036854775807 : Int64)))]))
  refine GoOn.step (fun t₀ k₀ => XS.iloadN X0.here hx rfl (hb hby at_5) rfl k₀) ?_
  show GoOn p e below _ (s₁.setTop (mkF m 6 #[.val (.long q0), .second, .val (.int q1), .val (.int q2), .unset, .unset, .unset, .unset, .unset, .unset, .unset, .unset, .unset, .unset, .unset, .unset, .unset, .unset, .unset, .unset, .unset, .unset, .unset, .unset] [(.int q2), (.long (q0 &&& (9223372036854775807 : Int64)))]))
  refine GoOn.step (fun t₀ k₀ => XS.bipush X0.here hx rfl (hb hby at_6) k₀) ?_
  show GoOn p e below _ (s₁.setTop (mkF m 8 #[.val (.long q0), .second, .val (.int q1), .val (.int q2), .unset, .unset, .unset, .unset, .unset, .unset, .unset, .unset, .unset, .unset, .unset, .unset, .unset, .unset, .unset, .unset, .unset, .unset, .unset, .unset] [(.int (63 : Int32)), (.int q2), (.long (q0 &&& (9223372036854775807 : Int64)))]))
  refine GoOn.step (fun t₀ k₀ => XS.iand X0.here hx rfl (hb hby at_8) rfl k₀) ?_
  show GoOn p e below _ (s₁.setTop (mkF m 9 #[.val (.long q0), .second, .val (.int q1), .val (.int q2), .unset, .unset, .unset, .unset, .unset, .unset, .unset, .unset, .unset, .unset, .unset, .unset, .unset, .unset, .unset, .unset, .unset, .unset, .unset, .unset] [(.int (q2 &&& (63 : Int32))), (.long (q0 &&& (9223372036854775807 : Int64)))]))
  refine GoOn.step (fun t₀ k₀ => XS.lushr X0.here hx rfl (hb hby at_9) rfl k₀) ?_
  show GoOn p e below _ (s₁.setTop (mkF m 10 #[.val (.long q0), .second, .val (.int q1), .val (.int q2), .unset, .unset, .unset, .unset, .unset, .unset, .unset, .unset, .unset, .unset, .unset, .unset, .unset, .unset, .unset, .unset, .unset, .unset, .unset, .unset] [(.long (((q0 &&& (9223372036854775807 : Int64)).toUInt64 >>> ((q2 &&& (63 : Int32)) &&& 0x3f).toInt64.toUInt64).toInt64))]))
  have hi0 := pl_ushr (q0 &&& (9223372036854775807 : Int64)) ((q2 &&& (63 : Int32)) &&& 0x3f).toInt64 (by omega)
  generalize hv : (((q0 &&& (9223372036854775807 : Int64)).toUInt64 >>> ((q2 &&& (63 : Int32)) &&& 0x3f).toInt64.toUInt64).toInt64) = i
  have hvI := congrArg Int64.toInt hv
  have hi1 : 0 ≤ i.toInt := hvI ▸ hi0
  have hi : ¬ i < 0 := by simp only [Int64.lt_iff_toInt_lt, Int64.le_iff_toInt_le, Int64.reduceToInt]; omega
  refine GoOn.step (fun t₀ k₀ => XS.lstore X0.here hx rfl (hb hby at_10) rfl (l' := #[.val (.long q0), .second, .val (.int q1), .val (.int q2), .val (.long i), .second, .unset, .unset, .unset, .unset, .unset, .unset, .unset, .unset, .unset, .unset, .unset, .unset, .unset, .unset, .unset, .unset, .unset, .unset]) rfl k₀) ?_
  show GoOn p e below _ (s₁.setTop (mkF m 12 #[.val (.long q0), .second, .val (.int q1), .val (.int q2), .val (.long i), .second, .unset, .unset, .unset, .unset, .unset, .unset, .unset, .unset, .unset, .unset, .unset, .unset, .unset, .unset, .unset, .unset, .unset, .unset] []))
  refine GoOn.step (fun t₀ k₀ => XS.iconst X0.here hx rfl (hb hby at_12) k₀) ?_
  show GoOn p e below _ (s₁.setTop (mkF m 13 #[.val (.long q0), .second, .val (.int q1), .val (.int q2), .val (.long i), .second, .unset, .unset, .unset, .unset, .unset, .unset, .unset, .unset, .unset, .unset, .unset, .unset, .unset, .unset, .unset, .unset, .unset, .unset] [(.int (1 : Int32))]))
  refine GoOn.step (fun t₀ k₀ => XS.iloadN X0.here hx rfl (hb hby at_13) rfl k₀) ?_
  show GoOn p e below _ (s₁.setTop (mkF m 14 #[.val (.long q0), .second, .val (.int q1), .val (.int q2), .val (.long i), .second, .unset, .unset, .unset, .unset, .unset, .unset, .unset, .unset, .unset, .unset, .unset, .unset, .unset, .unset, .unset, .unset, .unset, .unset] [(.int q1), (.int (1 : Int32))]))
  refine GoOn.step (fun t₀ k₀ => X0.ldcInt hx hown (mvT hZ (hw _ (List.mem_of_getElem? (i := 1) rfl))) (g := (mkF m 14 #[.val (.long q0), .second, .val (.int q1), .val (.int q2), .val (.long i), .second, .unset, .unset, .unset, .unset, .unset, .unset, .unset, .unset, .unset, .unset, .unset, .unset, .unset, .unset, .unset, .unset, .unset, .unset] [(.int q1), (.int (1 : Int32))])) rfl (hb hby at_14) t₀ k₀) ?_
  show GoOn p e below _ (s₁.setTop (mkF m 16 #[.val (.long q0), .second, .val (.int q1), .val (.int q2), .val (.long i), .second, .unset, .unset, .unset, .unset, .unset, .unset, .unset, .unset, .unset, .unset, .unset, .unset, .unset, .unset, .unset, .unset, .unset, .unset] [(.int (2147483647 : Int32)), (.int q1), (.int (1 : Int32))]))
  refine GoOn.step (fun t₀ k₀ => XS.iand X0.here hx rfl (hb hby at_16) rfl k₀) ?_
  show GoOn p e below _ (s₁.setTop (mkF m 17 #[.val (.long q0), .second, .val (.int q1), .val (.int q2), .val (.long i), .second, .unset, .unset, .unset, .unset, .unset, .unset, .unset, .unset, .unset, .unset, .unset, .unset, .unset, .unset, .unset, .unset, .unset, .unset] [(.int (q1 &&& (2147483647 : Int32))), (.int (1 : Int32))]))
  have hm1 : (q1 &&& (2147483647 : Int32)).toInt = q1.toInt % 2147483648 := c_mask q1 2147483647 31 (by decide) (by decide)
  obtain ⟨_, T11, L11, X11, hQ11, st11⟩ := kCallS X0 hx hZ (argsL := [(.int (1 : Int32)), (.int (q1 &&& (2147483647 : Int32)))]) (rest := []) (c_mx l Z a0 hw 1 (q1 &&& (2147483647 : Int32)) h0) hown (hw _ (List.mem_of_getElem? (i := 2) rfl)) (hw _ (List.mem_of_getElem? (i := 3) rfl)) (hw _ (List.mem_of_getElem? (i := 4) rfl)) (hw _ (List.mem_of_getElem? (i := 5) rfl)) (by decide) e0 (g := (mkF m 17 #[.val (.long q0), .second, .val (.int q1), .val (.int q2), .val (.long i), .second, .unset, .unset, .unset, .unset, .unset, .unset, .unset, .unset, .unset, .unset, .unset, .unset, .unset, .unset, .unset, .unset, .unset, .unset] [(.int (q1 &&& (2147483647 : Int32))), (.int (1 : Int32))])) rfl (by rw [hml]; rfl) (lenOf pd_1 rfl) rfl (W := 0) (by show 2 * 0 + _ ≤ _; exact Nat.le_of_eq rfl) (hb hby at_17) (by decide) (by decide) (by decide) (by decide)
  obtain ⟨rfl, rfl, e11⟩ := hQ11
  rw [List.append_nil] at X11
  refine GoOn.step st11 ?_
  show GoOn p e below _ (T11.setTop (mkF m 20 #[.val (.long q0), .second, .val (.int q1), .val (.int q2), .val (.long i), .second, .unset, .unset, .unset, .unset, .unset, .unset, .unset, .unset, .unset, .unset, .unset, .unset, .unset, .unset, .unset, .unset, .unset, .unset] [(.int (if (1 : Int32) < (q1 &&& (2147483647 : Int32)) then (q1 &&& (2147483647 : Int32)) else 1))]))
  generalize hv1 : (if (1 : Int32) < (q1 &&& (2147483647 : Int32)) then (q1 &&& (2147483647 : Int32)) else 1) = z
  have hv1I := congrArg Int32.toInt hv1
  have hz : 1 ≤ z.toInt := by
    have k1 : (1 : Int32).toInt = 1 := by decide
    rw [← hv1]; split
    · rename_i hq; rw [Int32.lt_iff_toInt_lt, k1] at hq; omega
    · rw [k1]; omega
  have hz' : ¬ z < 1 := by simp only [Int32.lt_iff_toInt_lt, Int32.le_iff_toInt_le, Int32.reduceToInt]; omega
  refine GoOn.step (fun t₀ k₀ => XS.istore X11.here hx rfl (hb hby at_20) rfl (l' := #[.val (.long q0), .second, .val (.int q1), .val (.int q2), .val (.long i), .second, .val (.int z), .unset, .unset, .unset, .unset, .unset, .unset, .unset, .unset, .unset, .unset, .unset, .unset, .unset, .unset, .unset, .unset, .unset]) rfl k₀) ?_
  show GoOn p e below _ (T11.setTop (mkF m 22 #[.val (.long q0), .second, .val (.int q1), .val (.int q2), .val (.long i), .second, .val (.int z), .unset, .unset, .unset, .unset, .unset, .unset, .unset, .unset, .unset, .unset, .unset, .unset, .unset, .unset, .unset, .unset, .unset] []))
  obtain ⟨T12, h12, X12, e12, E12, A12, D12, -, st12⟩ := newO X11 hx hZ hown (hw _ (List.mem_of_getElem? (i := 6) rfl)) (hw _ (List.mem_of_getElem? (i := 7) rfl)) (hw _ (List.mem_of_getElem? (i := 8) rfl)) e11 (g := (mkF m 22 #[.val (.long q0), .second, .val (.int q1), .val (.int q2), .val (.long i), .second, .val (.int z), .unset, .unset, .unset, .unset, .unset, .unset, .unset, .unset, .unset, .unset, .unset, .unset, .unset, .unset, .unset, .unset, .unset] [])) rfl (hb hby at_22) (by decide) (by decide)
  obtain ⟨b, g12⟩ : ∃ z, z = h0.size := ⟨_, rfl⟩
  rw [← g12] at A12 D12 st12
  have le_b : n0 ≤ b := by rw [g12]; exact Z0
  replace Z0 := Nat.le_trans Z0 E12.1
  have Ex_b : Exa Z h12 b "com/example/ashlar_gate/ashlargate/query/Page" := A12
  have F_pageIndex_b : Fld Z h12 b "com/example/ashlar_gate/ashlargate/query/Page" "pageIndex" "J" (.long (0 : Int64)) := D12 (Or.inr (hw _ (List.mem_of_getElem? (i := 21) rfl))) (ty := .long) (by decide)
  have F_pageSize_b : Fld Z h12 b "com/example/ashlar_gate/ashlargate/query/Page" "pageSize" "I" (.int (0 : Int32)) := D12 (Or.inr (hw _ (List.mem_of_getElem? (i := 23) rfl))) (ty := .int) (by decide)
  refine GoOn.step st12 ?_
  show GoOn p e below _ (T12.setTop (mkF m 25 #[.val (.long q0), .second, .val (.int q1), .val (.int q2), .val (.long i), .second, .val (.int z), .unset, .unset, .unset, .unset, .unset, .unset, .unset, .unset, .unset, .unset, .unset, .unset, .unset, .unset, .unset, .unset, .unset] [(.ref b)]))
  refine GoOn.step (fun t₀ k₀ => XS.dup X12.here hx rfl (hb hby at_25) rfl rfl k₀) ?_
  show GoOn p e below _ (T12.setTop (mkF m 26 #[.val (.long q0), .second, .val (.int q1), .val (.int q2), .val (.long i), .second, .val (.int z), .unset, .unset, .unset, .unset, .unset, .unset, .unset, .unset, .unset, .unset, .unset, .unset, .unset, .unset, .unset, .unset, .unset] [(.ref b), (.ref b)]))
  refine GoOn.step (fun t₀ k₀ => XS.lload X12.here hx rfl (hb hby at_26) rfl k₀) ?_
  show GoOn p e below _ (T12.setTop (mkF m 28 #[.val (.long q0), .second, .val (.int q1), .val (.int q2), .val (.long i), .second, .val (.int z), .unset, .unset, .unset, .unset, .unset, .unset, .unset, .unset, .unset, .unset, .unset, .unset, .unset, .unset, .unset, .unset, .unset] [(.long i), (.ref b), (.ref b)]))
  refine GoOn.step (fun t₀ k₀ => XS.iload X12.here hx rfl (hb hby at_28) rfl k₀) ?_
  show GoOn p e below _ (T12.setTop (mkF m 30 #[.val (.long q0), .second, .val (.int q1), .val (.int q2), .val (.long i), .second, .val (.int z), .unset, .unset, .unset, .unset, .unset, .unset, .unset, .unset, .unset, .unset, .unset, .unset, .unset, .unset, .unset, .unset, .unset] [(.int z), (.long i), (.ref b), (.ref b)]))
  obtain ⟨_, T13, L13, X13, hQ13, st13⟩ := kCallI X12 hx hZ (a := b) (argsL := [(.long i), (.int z)]) (rest := [(.ref b)]) (c_pg l Z a0 hw b i z h12 n0 Z0 Ex_b F_pageIndex_b F_pageSize_b le_b hi hz') rfl hown (hw _ (List.mem_of_getElem? (i := 9) rfl)) (hw _ (List.mem_of_getElem? (i := 10) rfl)) (hw _ (List.mem_of_getElem? (i := 8) rfl)) (hw _ (List.mem_of_getElem? (i := 11) rfl)) (by decide) e12 (g := (mkF m 30 #[.val (.long q0), .second, .val (.int q1), .val (.int q2), .val (.long i), .second, .val (.int z), .unset, .unset, .unset, .unset, .unset, .unset, .unset, .unset, .unset, .unset, .unset, .unset, .unset, .unset, .unset, .unset, .unset] [(.int z), (.long i), (.ref b), (.ref b)])) rfl (by rw [hml]; rfl) (lenOf pd_2 rfl) rfl (W := 1) (by show 2 * 0 + _ ≤ _; exact Nat.le_of_eq rfl) (hb hby at_30) (by decide) (by decide) (by decide) (by decide)
  obtain ⟨rfl, N13, K13, Fi, Fs⟩ := hQ13
  replace N0 := Fr.app N0 N13
  replace Ex_b := Ex_b.keep K13
  clear F_pageIndex_b
  clear F_pageSize_b
  replace Z0 := Nat.le_trans Z0 K13.1
  refine GoOn.step st13 ?_
  show GoOn p e below _ (T13.setTop (mkF m 33 #[.val (.long q0), .second, .val (.int q1), .val (.int q2), .val (.long i), .second, .val (.int z), .unset, .unset, .unset, .unset, .unset, .unset, .unset, .unset, .unset, .unset, .unset, .unset, .unset, .unset, .unset, .unset, .unset] [(.ref b)]))
  refine GoOn.step (fun t₀ k₀ => XS.astore X13.here hx rfl (hb hby at_33) rfl rfl (l' := #[.val (.long q0), .second, .val (.int q1), .val (.int q2), .val (.long i), .second, .val (.int z), .val (.ref b), .unset, .unset, .unset, .unset, .unset, .unset, .unset, .unset, .unset, .unset, .unset, .unset, .unset, .unset, .unset, .unset]) rfl k₀) ?_
  show GoOn p e below _ (T13.setTop (mkF m 35 #[.val (.long q0), .second, .val (.int q1), .val (.int q2), .val (.long i), .second, .val (.int z), .val (.ref b), .unset, .unset, .unset, .unset, .unset, .unset, .unset, .unset, .unset, .unset, .unset, .unset, .unset, .unset, .unset, .unset] []))
  refine GoOn.step (fun t₀ k₀ => XS.aload X13.here hx rfl (hb hby at_35) rfl rfl k₀) ?_
  show GoOn p e below _ (T13.setTop (mkF m 37 #[.val (.long q0), .second, .val (.int q1), .val (.int q2), .val (.long i), .second, .val (.int z), .val (.ref b), .unset, .unset, .unset, .unset, .unset, .unset, .unset, .unset, .unset, .unset, .unset, .unset, .unset, .unset, .unset, .unset] [(.ref b)]))
  obtain ⟨_, T14, L14, X14, hQ14, st14⟩ := kCallV X13 hx hZ (a := b) (argsL := []) (rest := []) (c_off l Z a0 hw b i z _ hz Fi Fs) hown (hw _ (List.mem_of_getElem? (i := 24) rfl)) (hw _ (List.mem_of_getElem? (i := 25) rfl)) (notFace_of_selects (args := #[]) (mvT hZ (hw _ (List.mem_of_getElem? (i := 27) rfl)))) (hw _ (List.mem_of_getElem? (i := 27) rfl)) (hw _ (List.mem_of_getElem? (i := 26) rfl)) (hw _ (List.mem_of_getElem? (i := 8) rfl)) (hw _ (List.mem_of_getElem? (i := 28) rfl)) (by decide) rfl Ex_b (g := (mkF m 37 #[.val (.long q0), .second, .val (.int q1), .val (.int q2), .val (.long i), .second, .val (.int z), .val (.ref b), .unset, .unset, .unset, .unset, .unset, .unset, .unset, .unset, .unset, .unset, .unset, .unset, .unset, .unset, .unset, .unset] [(.ref b)])) rfl (by rw [hml]; rfl) (lenOf pd_3 rfl) rfl (W := 0) (by show 2 * 0 + _ ≤ _; exact Nat.le_of_eq rfl) (hb hby at_37) (by decide) (by decide) (by decide) (by decide)
  obtain ⟨rfl, rfl, e14⟩ := hQ14
  rw [List.append_nil] at X14
  refine GoOn.step st14 ?_
  show GoOn p e below _ (T14.setTop (mkF m 40 #[.val (.long q0), .second, .val (.int q1), .val (.int q2), .val (.long i), .second, .val (.int z), .val (.ref b), .unset, .unset, .unset, .unset, .unset, .unset, .unset, .unset, .unset, .unset, .unset, .unset, .unset, .unset, .unset, .unset] [(.long (offV i z))]))
  generalize hr : (offV i z) = r
  have hrI := congrArg Int64.toInt hr
  refine GoOn.step (fun t₀ k₀ => XS.lstore X14.here hx rfl (hb hby at_40) rfl (l' := #[.val (.long q0), .second, .val (.int q1), .val (.int q2), .val (.long i), .second, .val (.int z), .val (.ref b), .val (.long r), .second, .unset, .unset, .unset, .unset, .unset, .unset, .unset, .unset, .unset, .unset, .unset, .unset, .unset, .unset]) rfl k₀) ?_
  show GoOn p e below _ (T14.setTop (mkF m 42 #[.val (.long q0), .second, .val (.int q1), .val (.int q2), .val (.long i), .second, .val (.int z), .val (.ref b), .val (.long r), .second, .unset, .unset, .unset, .unset, .unset, .unset, .unset, .unset, .unset, .unset, .unset, .unset, .unset, .unset] []))
  refine GoOn.step (fun t₀ k₀ => XS.iload X14.here hx rfl (hb hby at_42) rfl k₀) ?_
  show GoOn p e below _ (T14.setTop (mkF m 44 #[.val (.long q0), .second, .val (.int q1), .val (.int q2), .val (.long i), .second, .val (.int z), .val (.ref b), .val (.long r), .second, .unset, .unset, .unset, .unset, .unset, .unset, .unset, .unset, .unset, .unset, .unset, .unset, .unset, .unset] [(.int z)]))
  refine GoOn.step (fun t₀ k₀ => XS.i2l X14.here hx rfl (hb hby at_44) rfl k₀) ?_
  show GoOn p e below _ (T14.setTop (mkF m 45 #[.val (.long q0), .second, .val (.int q1), .val (.int q2), .val (.long i), .second, .val (.int z), .val (.ref b), .val (.long r), .second, .unset, .unset, .unset, .unset, .unset, .unset, .unset, .unset, .unset, .unset, .unset, .unset, .unset, .unset] [(.long (z.toInt64))]))
  refine GoOn.step (fun t₀ k₀ => XS.lstore X14.here hx rfl (hb hby at_45) rfl (l' := #[.val (.long q0), .second, .val (.int q1), .val (.int q2), .val (.long i), .second, .val (.int z), .val (.ref b), .val (.long r), .second, .val (.long (z.toInt64)), .second, .unset, .unset, .unset, .unset, .unset, .unset, .unset, .unset, .unset, .unset, .unset, .unset]) rfl k₀) ?_
  show GoOn p e below _ (T14.setTop (mkF m 47 #[.val (.long q0), .second, .val (.int q1), .val (.int q2), .val (.long i), .second, .val (.int z), .val (.ref b), .val (.long r), .second, .val (.long (z.toInt64)), .second, .unset, .unset, .unset, .unset, .unset, .unset, .unset, .unset, .unset, .unset, .unset, .unset] []))
  refine GoOn.step (fun t₀ k₀ => XS.lload X14.here hx rfl (hb hby at_47) rfl k₀) ?_
  show GoOn p e below _ (T14.setTop (mkF m 49 #[.val (.long q0), .second, .val (.int q1), .val (.int q2), .val (.long i), .second, .val (.int z), .val (.ref b), .val (.long r), .second, .val (.long (z.toInt64)), .second, .unset, .unset, .unset, .unset, .unset, .unset, .unset, .unset, .unset, .unset, .unset, .unset] [(.long i)]))
  refine GoOn.step (fun t₀ k₀ => XS.bipush X14.here hx rfl (hb hby at_49) k₀) ?_
  show GoOn p e below _ (T14.setTop (mkF m 51 #[.val (.long q0), .second, .val (.int q1), .val (.int q2), .val (.long i), .second, .val (.int z), .val (.ref b), .val (.long r), .second, .val (.long (z.toInt64)), .second, .unset, .unset, .unset, .unset, .unset, .unset, .unset, .unset, .unset, .unset, .unset, .unset] [(.int (32 : Int32)), (.long i)]))
  refine GoOn.step (fun t₀ k₀ => XS.lushr X14.here hx rfl (hb hby at_51) rfl k₀) ?_
  show GoOn p e below _ (T14.setTop (mkF m 52 #[.val (.long q0), .second, .val (.int q1), .val (.int q2), .val (.long i), .second, .val (.int z), .val (.ref b), .val (.long r), .second, .val (.long (z.toInt64)), .second, .unset, .unset, .unset, .unset, .unset, .unset, .unset, .unset, .unset, .unset, .unset, .unset] [(.long ((i.toUInt64 >>> ((32 : Int32) &&& 0x3f).toInt64.toUInt64).toInt64))]))
  generalize e1 : ((i.toUInt64 >>> ((32 : Int32) &&& 0x3f).toInt64.toUInt64).toInt64) = hi2
  have e1I := congrArg Int64.toInt e1
  refine GoOn.step (fun t₀ k₀ => XS.lstore X14.here hx rfl (hb hby at_52) rfl (l' := #[.val (.long q0), .second, .val (.int q1), .val (.int q2), .val (.long i), .second, .val (.int z), .val (.ref b), .val (.long r), .second, .val (.long (z.toInt64)), .second, .val (.long hi2), .second, .unset, .unset, .unset, .unset, .unset, .unset, .unset, .unset, .unset, .unset]) rfl k₀) ?_
  show GoOn p e below _ (T14.setTop (mkF m 54 #[.val (.long q0), .second, .val (.int q1), .val (.int q2), .val (.long i), .second, .val (.int z), .val (.ref b), .val (.long r), .second, .val (.long (z.toInt64)), .second, .val (.long hi2), .second, .unset, .unset, .unset, .unset, .unset, .unset, .unset, .unset, .unset, .unset] []))
  refine GoOn.step (fun t₀ k₀ => XS.lload X14.here hx rfl (hb hby at_54) rfl k₀) ?_
  show GoOn p e below _ (T14.setTop (mkF m 56 #[.val (.long q0), .second, .val (.int q1), .val (.int q2), .val (.long i), .second, .val (.int z), .val (.ref b), .val (.long r), .second, .val (.long (z.toInt64)), .second, .val (.long hi2), .second, .unset, .unset, .unset, .unset, .unset, .unset, .unset, .unset, .unset, .unset] [(.long i)]))
  refine GoOn.step (fun t₀ k₀ => X14.ldc2Long hx hown (mvT hZ (hw _ (List.mem_of_getElem? (i := 30) rfl))) (g := (mkF m 56 #[.val (.long q0), .second, .val (.int q1), .val (.int q2), .val (.long i), .second, .val (.int z), .val (.ref b), .val (.long r), .second, .val (.long (z.toInt64)), .second, .val (.long hi2), .second, .unset, .unset, .unset, .unset, .unset, .unset, .unset, .unset, .unset, .unset] [(.long i)])) rfl (hb hby at_56) t₀ k₀) ?_
  show GoOn p e below _ (T14.setTop (mkF m 59 #[.val (.long q0), .second, .val (.int q1), .val (.int q2), .val (.long i), .second, .val (.int z), .val (.ref b), .val (.long r), .second, .val (.long (z.toInt64)), .second, .val (.long hi2), .second, .unset, .unset, .unset, .unset, .unset, .unset, .unset, .unset, .unset, .unset] [(.long (4294967295 : Int64)), (.long i)]))
  refine GoOn.step (fun t₀ k₀ => XS.land X14.here hx rfl (hb hby at_59) rfl k₀) ?_
  show GoOn p e below _ (T14.setTop (mkF m 60 #[.val (.long q0), .second, .val (.int q1), .val (.int q2), .val (.long i), .second, .val (.int z), .val (.ref b), .val (.long r), .second, .val (.long (z.toInt64)), .second, .val (.long hi2), .second, .unset, .unset, .unset, .unset, .unset, .unset, .unset, .unset, .unset, .unset] [(.long (i &&& (4294967295 : Int64)))]))
  generalize e2 : (i &&& (4294967295 : Int64)) = lo
  have e2I := congrArg Int64.toInt e2
  refine GoOn.step (fun t₀ k₀ => XS.lstore X14.here hx rfl (hb hby at_60) rfl (l' := #[.val (.long q0), .second, .val (.int q1), .val (.int q2), .val (.long i), .second, .val (.int z), .val (.ref b), .val (.long r), .second, .val (.long (z.toInt64)), .second, .val (.long hi2), .second, .val (.long lo), .second, .unset, .unset, .unset, .unset, .unset, .unset, .unset, .unset]) rfl k₀) ?_
  show GoOn p e below _ (T14.setTop (mkF m 62 #[.val (.long q0), .second, .val (.int q1), .val (.int q2), .val (.long i), .second, .val (.int z), .val (.ref b), .val (.long r), .second, .val (.long (z.toInt64)), .second, .val (.long hi2), .second, .val (.long lo), .second, .unset, .unset, .unset, .unset, .unset, .unset, .unset, .unset] []))
  refine GoOn.step (fun t₀ k₀ => XS.lload X14.here hx rfl (hb hby at_62) rfl k₀) ?_
  show GoOn p e below _ (T14.setTop (mkF m 64 #[.val (.long q0), .second, .val (.int q1), .val (.int q2), .val (.long i), .second, .val (.int z), .val (.ref b), .val (.long r), .second, .val (.long (z.toInt64)), .second, .val (.long hi2), .second, .val (.long lo), .second, .unset, .unset, .unset, .unset, .unset, .unset, .unset, .unset] [(.long lo)]))
  refine GoOn.step (fun t₀ k₀ => XS.lload X14.here hx rfl (hb hby at_64) rfl k₀) ?_
  show GoOn p e below _ (T14.setTop (mkF m 66 #[.val (.long q0), .second, .val (.int q1), .val (.int q2), .val (.long i), .second, .val (.int z), .val (.ref b), .val (.long r), .second, .val (.long (z.toInt64)), .second, .val (.long hi2), .second, .val (.long lo), .second, .unset, .unset, .unset, .unset, .unset, .unset, .unset, .unset] [(.long (z.toInt64)), (.long lo)]))
  refine GoOn.step (fun t₀ k₀ => XS.lmul X14.here hx rfl (hb hby at_66) rfl k₀) ?_
  show GoOn p e below _ (T14.setTop (mkF m 67 #[.val (.long q0), .second, .val (.int q1), .val (.int q2), .val (.long i), .second, .val (.int z), .val (.ref b), .val (.long r), .second, .val (.long (z.toInt64)), .second, .val (.long hi2), .second, .val (.long lo), .second, .unset, .unset, .unset, .unset, .unset, .unset, .unset, .unset] [(.long (lo * (z.toInt64)))]))
  generalize e3 : (lo * (z.toInt64)) = lp
  have e3I := congrArg Int64.toInt e3
  refine GoOn.step (fun t₀ k₀ => XS.lstore X14.here hx rfl (hb hby at_67) rfl (l' := #[.val (.long q0), .second, .val (.int q1), .val (.int q2), .val (.long i), .second, .val (.int z), .val (.ref b), .val (.long r), .second, .val (.long (z.toInt64)), .second, .val (.long hi2), .second, .val (.long lo), .second, .val (.long lp), .second, .unset, .unset, .unset, .unset, .unset, .unset]) rfl k₀) ?_
  show GoOn p e below _ (T14.setTop (mkF m 69 #[.val (.long q0), .second, .val (.int q1), .val (.int q2), .val (.long i), .second, .val (.int z), .val (.ref b), .val (.long r), .second, .val (.long (z.toInt64)), .second, .val (.long hi2), .second, .val (.long lo), .second, .val (.long lp), .second, .unset, .unset, .unset, .unset, .unset, .unset] []))
  refine GoOn.step (fun t₀ k₀ => XS.lload X14.here hx rfl (hb hby at_69) rfl k₀) ?_
  show GoOn p e below _ (T14.setTop (mkF m 71 #[.val (.long q0), .second, .val (.int q1), .val (.int q2), .val (.long i), .second, .val (.int z), .val (.ref b), .val (.long r), .second, .val (.long (z.toInt64)), .second, .val (.long hi2), .second, .val (.long lo), .second, .val (.long lp), .second, .unset, .unset, .unset, .unset, .unset, .unset] [(.long hi2)]))
  refine GoOn.step (fun t₀ k₀ => XS.lload X14.here hx rfl (hb hby at_71) rfl k₀) ?_
  show GoOn p e below _ (T14.setTop (mkF m 73 #[.val (.long q0), .second, .val (.int q1), .val (.int q2), .val (.long i), .second, .val (.int z), .val (.ref b), .val (.long r), .second, .val (.long (z.toInt64)), .second, .val (.long hi2), .second, .val (.long lo), .second, .val (.long lp), .second, .unset, .unset, .unset, .unset, .unset, .unset] [(.long (z.toInt64)), (.long hi2)]))
  refine GoOn.step (fun t₀ k₀ => XS.lmul X14.here hx rfl (hb hby at_73) rfl k₀) ?_
  show GoOn p e below _ (T14.setTop (mkF m 74 #[.val (.long q0), .second, .val (.int q1), .val (.int q2), .val (.long i), .second, .val (.int z), .val (.ref b), .val (.long r), .second, .val (.long (z.toInt64)), .second, .val (.long hi2), .second, .val (.long lo), .second, .val (.long lp), .second, .unset, .unset, .unset, .unset, .unset, .unset] [(.long (hi2 * (z.toInt64)))]))
  refine GoOn.step (fun t₀ k₀ => XS.lload X14.here hx rfl (hb hby at_74) rfl k₀) ?_
  show GoOn p e below _ (T14.setTop (mkF m 76 #[.val (.long q0), .second, .val (.int q1), .val (.int q2), .val (.long i), .second, .val (.int z), .val (.ref b), .val (.long r), .second, .val (.long (z.toInt64)), .second, .val (.long hi2), .second, .val (.long lo), .second, .val (.long lp), .second, .unset, .unset, .unset, .unset, .unset, .unset] [(.long lp), (.long (hi2 * (z.toInt64)))]))
  refine GoOn.step (fun t₀ k₀ => XS.bipush X14.here hx rfl (hb hby at_76) k₀) ?_
  show GoOn p e below _ (T14.setTop (mkF m 78 #[.val (.long q0), .second, .val (.int q1), .val (.int q2), .val (.long i), .second, .val (.int z), .val (.ref b), .val (.long r), .second, .val (.long (z.toInt64)), .second, .val (.long hi2), .second, .val (.long lo), .second, .val (.long lp), .second, .unset, .unset, .unset, .unset, .unset, .unset] [(.int (32 : Int32)), (.long lp), (.long (hi2 * (z.toInt64)))]))
  refine GoOn.step (fun t₀ k₀ => XS.lushr X14.here hx rfl (hb hby at_78) rfl k₀) ?_
  show GoOn p e below _ (T14.setTop (mkF m 79 #[.val (.long q0), .second, .val (.int q1), .val (.int q2), .val (.long i), .second, .val (.int z), .val (.ref b), .val (.long r), .second, .val (.long (z.toInt64)), .second, .val (.long hi2), .second, .val (.long lo), .second, .val (.long lp), .second, .unset, .unset, .unset, .unset, .unset, .unset] [(.long ((lp.toUInt64 >>> ((32 : Int32) &&& 0x3f).toInt64.toUInt64).toInt64)), (.long (hi2 * (z.toInt64)))]))
  refine GoOn.step (fun t₀ k₀ => XS.ladd X14.here hx rfl (hb hby at_79) rfl k₀) ?_
  show GoOn p e below _ (T14.setTop (mkF m 80 #[.val (.long q0), .second, .val (.int q1), .val (.int q2), .val (.long i), .second, .val (.int z), .val (.ref b), .val (.long r), .second, .val (.long (z.toInt64)), .second, .val (.long hi2), .second, .val (.long lo), .second, .val (.long lp), .second, .unset, .unset, .unset, .unset, .unset, .unset] [(.long ((hi2 * (z.toInt64)) + ((lp.toUInt64 >>> ((32 : Int32) &&& 0x3f).toInt64.toUInt64).toInt64)))]))
  generalize e4 : ((hi2 * (z.toInt64)) + ((lp.toUInt64 >>> ((32 : Int32) &&& 0x3f).toInt64.toUInt64).toInt64)) = hg
  have e4I := congrArg Int64.toInt e4
  refine GoOn.step (fun t₀ k₀ => XS.lstore X14.here hx rfl (hb hby at_80) rfl (l' := #[.val (.long q0), .second, .val (.int q1), .val (.int q2), .val (.long i), .second, .val (.int z), .val (.ref b), .val (.long r), .second, .val (.long (z.toInt64)), .second, .val (.long hi2), .second, .val (.long lo), .second, .val (.long lp), .second, .val (.long hg), .second, .unset, .unset, .unset, .unset]) rfl k₀) ?_
  show GoOn p e below _ (T14.setTop (mkF m 82 #[.val (.long q0), .second, .val (.int q1), .val (.int q2), .val (.long i), .second, .val (.int z), .val (.ref b), .val (.long r), .second, .val (.long (z.toInt64)), .second, .val (.long hi2), .second, .val (.long lo), .second, .val (.long lp), .second, .val (.long hg), .second, .unset, .unset, .unset, .unset] []))
  refine GoOn.step (fun t₀ k₀ => XS.lload X14.here hx rfl (hb hby at_82) rfl k₀) ?_
  show GoOn p e below _ (T14.setTop (mkF m 84 #[.val (.long q0), .second, .val (.int q1), .val (.int q2), .val (.long i), .second, .val (.int z), .val (.ref b), .val (.long r), .second, .val (.long (z.toInt64)), .second, .val (.long hi2), .second, .val (.long lo), .second, .val (.long lp), .second, .val (.long hg), .second, .unset, .unset, .unset, .unset] [(.long lp)]))
  refine GoOn.step (fun t₀ k₀ => X14.ldc2Long hx hown (mvT hZ (hw _ (List.mem_of_getElem? (i := 30) rfl))) (g := (mkF m 84 #[.val (.long q0), .second, .val (.int q1), .val (.int q2), .val (.long i), .second, .val (.int z), .val (.ref b), .val (.long r), .second, .val (.long (z.toInt64)), .second, .val (.long hi2), .second, .val (.long lo), .second, .val (.long lp), .second, .val (.long hg), .second, .unset, .unset, .unset, .unset] [(.long lp)])) rfl (hb hby at_84) t₀ k₀) ?_
  show GoOn p e below _ (T14.setTop (mkF m 87 #[.val (.long q0), .second, .val (.int q1), .val (.int q2), .val (.long i), .second, .val (.int z), .val (.ref b), .val (.long r), .second, .val (.long (z.toInt64)), .second, .val (.long hi2), .second, .val (.long lo), .second, .val (.long lp), .second, .val (.long hg), .second, .unset, .unset, .unset, .unset] [(.long (4294967295 : Int64)), (.long lp)]))
  refine GoOn.step (fun t₀ k₀ => XS.land X14.here hx rfl (hb hby at_87) rfl k₀) ?_
  show GoOn p e below _ (T14.setTop (mkF m 88 #[.val (.long q0), .second, .val (.int q1), .val (.int q2), .val (.long i), .second, .val (.int z), .val (.ref b), .val (.long r), .second, .val (.long (z.toInt64)), .second, .val (.long hi2), .second, .val (.long lo), .second, .val (.long lp), .second, .val (.long hg), .second, .unset, .unset, .unset, .unset] [(.long (lp &&& (4294967295 : Int64)))]))
  generalize e5 : (lp &&& (4294967295 : Int64)) = lw
  have e5I := congrArg Int64.toInt e5
  obtain ⟨y1, y2⟩ := pl_off i z hi1 hz hi2 lo lp hg lw e1 e2 e3 e4 e5
  refine GoOn.step (fun t₀ k₀ => XS.lstore X14.here hx rfl (hb hby at_88) rfl (l' := #[.val (.long q0), .second, .val (.int q1), .val (.int q2), .val (.long i), .second, .val (.int z), .val (.ref b), .val (.long r), .second, .val (.long (z.toInt64)), .second, .val (.long hi2), .second, .val (.long lo), .second, .val (.long lp), .second, .val (.long hg), .second, .val (.long lw), .second, .unset, .unset]) rfl k₀) ?_
  show GoOn p e below _ (T14.setTop (mkF m 90 #[.val (.long q0), .second, .val (.int q1), .val (.int q2), .val (.long i), .second, .val (.int z), .val (.ref b), .val (.long r), .second, .val (.long (z.toInt64)), .second, .val (.long hi2), .second, .val (.long lo), .second, .val (.long lp), .second, .val (.long hg), .second, .val (.long lw), .second, .unset, .unset] []))
  refine GoOn.step (fun t₀ k₀ => XS.lload X14.here hx rfl (hb hby at_90) rfl k₀) ?_
  show GoOn p e below _ (T14.setTop (mkF m 92 #[.val (.long q0), .second, .val (.int q1), .val (.int q2), .val (.long i), .second, .val (.int z), .val (.ref b), .val (.long r), .second, .val (.long (z.toInt64)), .second, .val (.long hi2), .second, .val (.long lo), .second, .val (.long lp), .second, .val (.long hg), .second, .val (.long lw), .second, .unset, .unset] [(.long hg)]))
  refine GoOn.step (fun t₀ k₀ => X14.ldc2Long hx hown (mvT hZ (hw _ (List.mem_of_getElem? (i := 31) rfl))) (g := (mkF m 92 #[.val (.long q0), .second, .val (.int q1), .val (.int q2), .val (.long i), .second, .val (.int z), .val (.ref b), .val (.long r), .second, .val (.long (z.toInt64)), .second, .val (.long hi2), .second, .val (.long lo), .second, .val (.long lp), .second, .val (.long hg), .second, .val (.long lw), .second, .unset, .unset] [(.long hg)])) rfl (hb hby at_92) t₀ k₀) ?_
  show GoOn p e below _ (T14.setTop (mkF m 95 #[.val (.long q0), .second, .val (.int q1), .val (.int q2), .val (.long i), .second, .val (.int z), .val (.ref b), .val (.long r), .second, .val (.long (z.toInt64)), .second, .val (.long hi2), .second, .val (.long lo), .second, .val (.long lp), .second, .val (.long hg), .second, .val (.long lw), .second, .unset, .unset] [(.long (2147483648 : Int64)), (.long hg)]))
  refine GoOn.step (fun t₀ k₀ => XS.lcmp X14.here hx rfl (hb hby at_95) rfl k₀) ?_
  show GoOn p e below _ (T14.setTop (mkF m 96 #[.val (.long q0), .second, .val (.int q1), .val (.int q2), .val (.long i), .second, .val (.int z), .val (.ref b), .val (.long r), .second, .val (.long (z.toInt64)), .second, .val (.long hi2), .second, .val (.long lo), .second, .val (.long lp), .second, .val (.long hg), .second, .val (.long lw), .second, .unset, .unset] [(.int (lcmpW hg (2147483648 : Int64)))]))
  by_cases hc : hg < (2147483648 : Int64)
  · refine GoOn.step (fun t₀ k₀ => XS.ifNo X14.here hx rfl (hb hby at_96) rfl ((if0 _ _).trans (tlt ((lw_lt _ _).mpr hc)).2.1) k₀) ?_
    show GoOn p e below _ (T14.setTop (mkF m 99 #[.val (.long q0), .second, .val (.int q1), .val (.int q2), .val (.long i), .second, .val (.int z), .val (.ref b), .val (.long r), .second, .val (.long (z.toInt64)), .second, .val (.long hi2), .second, .val (.long lo), .second, .val (.long lp), .second, .val (.long hg), .second, .val (.long lw), .second, .unset, .unset] []))
    refine GoOn.step (fun t₀ k₀ => XS.lload X14.here hx rfl (hb hby at_99) rfl k₀) ?_
    show GoOn p e below _ (T14.setTop (mkF m 101 #[.val (.long q0), .second, .val (.int q1), .val (.int q2), .val (.long i), .second, .val (.int z), .val (.ref b), .val (.long r), .second, .val (.long (z.toInt64)), .second, .val (.long hi2), .second, .val (.long lo), .second, .val (.long lp), .second, .val (.long hg), .second, .val (.long lw), .second, .unset, .unset] [(.long hg)]))
    refine GoOn.step (fun t₀ k₀ => XS.bipush X14.here hx rfl (hb hby at_101) k₀) ?_
    show GoOn p e below _ (T14.setTop (mkF m 103 #[.val (.long q0), .second, .val (.int q1), .val (.int q2), .val (.long i), .second, .val (.int z), .val (.ref b), .val (.long r), .second, .val (.long (z.toInt64)), .second, .val (.long hi2), .second, .val (.long lo), .second, .val (.long lp), .second, .val (.long hg), .second, .val (.long lw), .second, .unset, .unset] [(.int (32 : Int32)), (.long hg)]))
    refine GoOn.step (fun t₀ k₀ => XS.lshl X14.here hx rfl (hb hby at_103) rfl k₀) ?_
    show GoOn p e below _ (T14.setTop (mkF m 104 #[.val (.long q0), .second, .val (.int q1), .val (.int q2), .val (.long i), .second, .val (.int z), .val (.ref b), .val (.long r), .second, .val (.long (z.toInt64)), .second, .val (.long hi2), .second, .val (.long lo), .second, .val (.long lp), .second, .val (.long hg), .second, .val (.long lw), .second, .unset, .unset] [(.long (hg <<< ((32 : Int32) &&& 0x3f).toInt64))]))
    refine GoOn.step (fun t₀ k₀ => XS.lload X14.here hx rfl (hb hby at_104) rfl k₀) ?_
    show GoOn p e below _ (T14.setTop (mkF m 106 #[.val (.long q0), .second, .val (.int q1), .val (.int q2), .val (.long i), .second, .val (.int z), .val (.ref b), .val (.long r), .second, .val (.long (z.toInt64)), .second, .val (.long hi2), .second, .val (.long lo), .second, .val (.long lp), .second, .val (.long hg), .second, .val (.long lw), .second, .unset, .unset] [(.long lw), (.long (hg <<< ((32 : Int32) &&& 0x3f).toInt64))]))
    refine GoOn.step (fun t₀ k₀ => XS.lor X14.here hx rfl (hb hby at_106) rfl k₀) ?_
    show GoOn p e below _ (T14.setTop (mkF m 107 #[.val (.long q0), .second, .val (.int q1), .val (.int q2), .val (.long i), .second, .val (.int z), .val (.ref b), .val (.long r), .second, .val (.long (z.toInt64)), .second, .val (.long hi2), .second, .val (.long lo), .second, .val (.long lp), .second, .val (.long hg), .second, .val (.long lw), .second, .unset, .unset] [(.long ((hg <<< ((32 : Int32) &&& 0x3f).toInt64) ||| lw))]))
    refine GoOn.step (fun t₀ k₀ => XS.goto X14.here hx rfl (pc0 := 107) (pc' := 113) rfl (hb hby at_107) (by decide) (by decide) k₀) ?_
    show GoOn p e below _ (T14.setTop (mkF m 113 #[.val (.long q0), .second, .val (.int q1), .val (.int q2), .val (.long i), .second, .val (.int z), .val (.ref b), .val (.long r), .second, .val (.long (z.toInt64)), .second, .val (.long hi2), .second, .val (.long lo), .second, .val (.long lp), .second, .val (.long hg), .second, .val (.long lw), .second, .unset, .unset] [(.long ((hg <<< ((32 : Int32) &&& 0x3f).toInt64) ||| lw))]))
    refine GoOn.step (fun t₀ k₀ => XS.lstore X14.here hx rfl (hb hby at_113) rfl (l' := #[.val (.long q0), .second, .val (.int q1), .val (.int q2), .val (.long i), .second, .val (.int z), .val (.ref b), .val (.long r), .second, .val (.long (z.toInt64)), .second, .val (.long hi2), .second, .val (.long lo), .second, .val (.long lp), .second, .val (.long hg), .second, .val (.long lw), .second, .val (.long ((hg <<< ((32 : Int32) &&& 0x3f).toInt64) ||| lw)), .second]) rfl k₀) ?_
    show GoOn p e below _ (T14.setTop (mkF m 115 #[.val (.long q0), .second, .val (.int q1), .val (.int q2), .val (.long i), .second, .val (.int z), .val (.ref b), .val (.long r), .second, .val (.long (z.toInt64)), .second, .val (.long hi2), .second, .val (.long lo), .second, .val (.long lp), .second, .val (.long hg), .second, .val (.long lw), .second, .val (.long ((hg <<< ((32 : Int32) &&& 0x3f).toInt64) ||| lw)), .second] []))
    refine GoOn.step (fun t₀ k₀ => XS.lload X14.here hx rfl (hb hby at_115) rfl k₀) ?_
    show GoOn p e below _ (T14.setTop (mkF m 117 #[.val (.long q0), .second, .val (.int q1), .val (.int q2), .val (.long i), .second, .val (.int z), .val (.ref b), .val (.long r), .second, .val (.long (z.toInt64)), .second, .val (.long hi2), .second, .val (.long lo), .second, .val (.long lp), .second, .val (.long hg), .second, .val (.long lw), .second, .val (.long ((hg <<< ((32 : Int32) &&& 0x3f).toInt64) ||| lw)), .second] [(.long r)]))
    refine GoOn.step (fun t₀ k₀ => XS.lload X14.here hx rfl (hb hby at_117) rfl k₀) ?_
    show GoOn p e below _ (T14.setTop (mkF m 119 #[.val (.long q0), .second, .val (.int q1), .val (.int q2), .val (.long i), .second, .val (.int z), .val (.ref b), .val (.long r), .second, .val (.long (z.toInt64)), .second, .val (.long hi2), .second, .val (.long lo), .second, .val (.long lp), .second, .val (.long hg), .second, .val (.long lw), .second, .val (.long ((hg <<< ((32 : Int32) &&& 0x3f).toInt64) ||| lw)), .second] [(.long ((hg <<< ((32 : Int32) &&& 0x3f).toInt64) ||| lw)), (.long r)]))
    refine GoOn.step (fun t₀ k₀ => XS.lcmp X14.here hx rfl (hb hby at_119) rfl k₀) ?_
    show GoOn p e below _ (T14.setTop (mkF m 120 #[.val (.long q0), .second, .val (.int q1), .val (.int q2), .val (.long i), .second, .val (.int z), .val (.ref b), .val (.long r), .second, .val (.long (z.toInt64)), .second, .val (.long hi2), .second, .val (.long lo), .second, .val (.long lp), .second, .val (.long hg), .second, .val (.long lw), .second, .val (.long ((hg <<< ((32 : Int32) &&& 0x3f).toInt64) ||| lw)), .second] [(.int (lcmpW r ((hg <<< ((32 : Int32) &&& 0x3f).toInt64) ||| lw)))]))
    have hf15 : r = ((hg <<< ((32 : Int32) &&& 0x3f).toInt64) ||| lw) := (hr.symm.trans (y1 hc))
    refine GoOn.step (fun t₀ k₀ => XS.ifNo X14.here hx rfl (hb hby at_120) rfl ((if0 _ _).trans (teq ((lw_eq _ _).mpr hf15)).2) k₀) ?_
    show GoOn p e below _ (T14.setTop (mkF m 123 #[.val (.long q0), .second, .val (.int q1), .val (.int q2), .val (.long i), .second, .val (.int z), .val (.ref b), .val (.long r), .second, .val (.long (z.toInt64)), .second, .val (.long hi2), .second, .val (.long lo), .second, .val (.long lp), .second, .val (.long hg), .second, .val (.long lw), .second, .val (.long ((hg <<< ((32 : Int32) &&& 0x3f).toInt64) ||| lw)), .second] []))
    refine GoOn.step (fun t₀ k₀ => XS.iconst X14.here hx rfl (hb hby at_123) k₀) ?_
    show GoOn p e below _ (T14.setTop (mkF m 124 #[.val (.long q0), .second, .val (.int q1), .val (.int q2), .val (.long i), .second, .val (.int z), .val (.ref b), .val (.long r), .second, .val (.long (z.toInt64)), .second, .val (.long hi2), .second, .val (.long lo), .second, .val (.long lp), .second, .val (.long hg), .second, .val (.long lw), .second, .val (.long ((hg <<< ((32 : Int32) &&& 0x3f).toInt64) ||| lw)), .second] [(.int (1 : Int32))]))
    refine GoOn.step (fun t₀ k₀ => XS.goto X14.here hx rfl (pc0 := 124) (pc' := 128) rfl (hb hby at_124) (by decide) (by decide) k₀) ?_
    show GoOn p e below _ (T14.setTop (mkF m 128 #[.val (.long q0), .second, .val (.int q1), .val (.int q2), .val (.long i), .second, .val (.int z), .val (.ref b), .val (.long r), .second, .val (.long (z.toInt64)), .second, .val (.long hi2), .second, .val (.long lo), .second, .val (.long lp), .second, .val (.long hg), .second, .val (.long lw), .second, .val (.long ((hg <<< ((32 : Int32) &&& 0x3f).toInt64) ||| lw)), .second] [(.int (1 : Int32))]))
    exact GoOn.retN X14 hx hrt hlk (by simp) (hb hby at_128) (by decide) (by decide) (by first | exact ⟨rfl, N0⟩ | (rw [e14]; exact ⟨rfl, N0⟩))
  · refine GoOn.step (fun t₀ k₀ => XS.ifYes X14.here hx rfl (pc0 := 96) (pc' := 110) rfl (hb hby at_96) rfl ((if0 _ _).trans (flt (mt (lw_lt _ _).mp hc)).2.1) (by decide) (by decide) k₀) ?_
    show GoOn p e below _ (T14.setTop (mkF m 110 #[.val (.long q0), .second, .val (.int q1), .val (.int q2), .val (.long i), .second, .val (.int z), .val (.ref b), .val (.long r), .second, .val (.long (z.toInt64)), .second, .val (.long hi2), .second, .val (.long lo), .second, .val (.long lp), .second, .val (.long hg), .second, .val (.long lw), .second, .unset, .unset] []))
    refine GoOn.step (fun t₀ k₀ => X14.ldc2Long hx hown (mvT hZ (hw _ (List.mem_of_getElem? (i := 0) rfl))) (g := (mkF m 110 #[.val (.long q0), .second, .val (.int q1), .val (.int q2), .val (.long i), .second, .val (.int z), .val (.ref b), .val (.long r), .second, .val (.long (z.toInt64)), .second, .val (.long hi2), .second, .val (.long lo), .second, .val (.long lp), .second, .val (.long hg), .second, .val (.long lw), .second, .unset, .unset] [])) rfl (hb hby at_110) t₀ k₀) ?_
    show GoOn p e below _ (T14.setTop (mkF m 113 #[.val (.long q0), .second, .val (.int q1), .val (.int q2), .val (.long i), .second, .val (.int z), .val (.ref b), .val (.long r), .second, .val (.long (z.toInt64)), .second, .val (.long hi2), .second, .val (.long lo), .second, .val (.long lp), .second, .val (.long hg), .second, .val (.long lw), .second, .unset, .unset] [(.long (9223372036854775807 : Int64))]))
    refine GoOn.step (fun t₀ k₀ => XS.lstore X14.here hx rfl (hb hby at_113) rfl (l' := #[.val (.long q0), .second, .val (.int q1), .val (.int q2), .val (.long i), .second, .val (.int z), .val (.ref b), .val (.long r), .second, .val (.long (z.toInt64)), .second, .val (.long hi2), .second, .val (.long lo), .second, .val (.long lp), .second, .val (.long hg), .second, .val (.long lw), .second, .val (.long (9223372036854775807 : Int64)), .second]) rfl k₀) ?_
    show GoOn p e below _ (T14.setTop (mkF m 115 #[.val (.long q0), .second, .val (.int q1), .val (.int q2), .val (.long i), .second, .val (.int z), .val (.ref b), .val (.long r), .second, .val (.long (z.toInt64)), .second, .val (.long hi2), .second, .val (.long lo), .second, .val (.long lp), .second, .val (.long hg), .second, .val (.long lw), .second, .val (.long (9223372036854775807 : Int64)), .second] []))
    refine GoOn.step (fun t₀ k₀ => XS.lload X14.here hx rfl (hb hby at_115) rfl k₀) ?_
    show GoOn p e below _ (T14.setTop (mkF m 117 #[.val (.long q0), .second, .val (.int q1), .val (.int q2), .val (.long i), .second, .val (.int z), .val (.ref b), .val (.long r), .second, .val (.long (z.toInt64)), .second, .val (.long hi2), .second, .val (.long lo), .second, .val (.long lp), .second, .val (.long hg), .second, .val (.long lw), .second, .val (.long (9223372036854775807 : Int64)), .second] [(.long r)]))
    refine GoOn.step (fun t₀ k₀ => XS.lload X14.here hx rfl (hb hby at_117) rfl k₀) ?_
    show GoOn p e below _ (T14.setTop (mkF m 119 #[.val (.long q0), .second, .val (.int q1), .val (.int q2), .val (.long i), .second, .val (.int z), .val (.ref b), .val (.long r), .second, .val (.long (z.toInt64)), .second, .val (.long hi2), .second, .val (.long lo), .second, .val (.long lp), .second, .val (.long hg), .second, .val (.long lw), .second, .val (.long (9223372036854775807 : Int64)), .second] [(.long (9223372036854775807 : Int64)), (.long r)]))
    refine GoOn.step (fun t₀ k₀ => XS.lcmp X14.here hx rfl (hb hby at_119) rfl k₀) ?_
    show GoOn p e below _ (T14.setTop (mkF m 120 #[.val (.long q0), .second, .val (.int q1), .val (.int q2), .val (.long i), .second, .val (.int z), .val (.ref b), .val (.long r), .second, .val (.long (z.toInt64)), .second, .val (.long hi2), .second, .val (.long lo), .second, .val (.long lp), .second, .val (.long hg), .second, .val (.long lw), .second, .val (.long (9223372036854775807 : Int64)), .second] [(.int (lcmpW r (9223372036854775807 : Int64)))]))
    have hf16 : r = (9223372036854775807 : Int64) := (hr.symm.trans (y2 hc))
    refine GoOn.step (fun t₀ k₀ => XS.ifNo X14.here hx rfl (hb hby at_120) rfl ((if0 _ _).trans (teq ((lw_eq _ _).mpr hf16)).2) k₀) ?_
    show GoOn p e below _ (T14.setTop (mkF m 123 #[.val (.long q0), .second, .val (.int q1), .val (.int q2), .val (.long i), .second, .val (.int z), .val (.ref b), .val (.long r), .second, .val (.long (z.toInt64)), .second, .val (.long hi2), .second, .val (.long lo), .second, .val (.long lp), .second, .val (.long hg), .second, .val (.long lw), .second, .val (.long (9223372036854775807 : Int64)), .second] []))
    refine GoOn.step (fun t₀ k₀ => XS.iconst X14.here hx rfl (hb hby at_123) k₀) ?_
    show GoOn p e below _ (T14.setTop (mkF m 124 #[.val (.long q0), .second, .val (.int q1), .val (.int q2), .val (.long i), .second, .val (.int z), .val (.ref b), .val (.long r), .second, .val (.long (z.toInt64)), .second, .val (.long hi2), .second, .val (.long lo), .second, .val (.long lp), .second, .val (.long hg), .second, .val (.long lw), .second, .val (.long (9223372036854775807 : Int64)), .second] [(.int (1 : Int32))]))
    refine GoOn.step (fun t₀ k₀ => XS.goto X14.here hx rfl (pc0 := 124) (pc' := 128) rfl (hb hby at_124) (by decide) (by decide) k₀) ?_
    show GoOn p e below _ (T14.setTop (mkF m 128 #[.val (.long q0), .second, .val (.int q1), .val (.int q2), .val (.long i), .second, .val (.int z), .val (.ref b), .val (.long r), .second, .val (.long (z.toInt64)), .second, .val (.long hi2), .second, .val (.long lo), .second, .val (.long lp), .second, .val (.long hg), .second, .val (.long lw), .second, .val (.long (9223372036854775807 : Int64)), .second] [(.int (1 : Int32))]))
    exact GoOn.retN X14 hx hrt hlk (by simp) (hb hby at_128) (by decide) (by decide) (by first | exact ⟨rfl, N0⟩ | (rw [e14]; exact ⟨rfl, N0⟩))
set_option maxRecDepth 65536 in
set_option maxHeartbeats 40000000 in
theorem comes_1 {Post : Tables → Env → Array Value → State → Outcome → State → Prop} (hpost : ∀ tb e args s v u, (limb_1_1.after args s (.returned v) u = true ∧ limb_1_2.after args s (.returned v) u = true ∧ True) → FrameEnd s (.returned v) u (Jvm.fieldLocs frame_1_writes args s ++ Jvm.arrayLocs frame_1_arrays args s ++ Jvm.staticLocs frame_1_statics s) 16 128 → Post tb e args s (.returned v) u) :
    ArmFor flags0 classFile x code maxLocals ret World_1 tables_1 room_1 Calls_1 rest_1 Pre_1 Post := by
  intro l hfl _ _ p e ha hc hk s m args below hf hA hF happ hP
  obtain ⟨hcalls, hrest, hpre⟩ := hP
  obtain ⟨-, -, -, hnamed, -, -, -, hat⟩ := (Spec.applies_iff hf).mp happ
  obtain ⟨hg, hn⟩ := and_e (Cond.before_iff.mp (show (Jvm.Cond.and given_1 narrow_1).before args s = true from hpre))
  obtain ⟨g0, r0⟩ := and_e hg
  obtain ⟨g1, r1⟩ := and_e r0
  obtain ⟨g2, r2⟩ := and_e r1
  obtain ⟨w0, w1, w2, rfl⟩ : ∃ w0 w1 w2 : Value, args = #[w0, w1, w2] := by
    have hs : args.size = 3 := by simpa [Cond.value, given_1] using g0
    obtain ⟨L⟩ := args
    match L, hs with
    | [w0, w1, w2], _ => exact ⟨w0, w1, w2, rfl⟩
  have hw := fun d (hd : d ∈ tables_1) => atoms_spec (ws := Jvm.Cond.code x code maxLocals ret :: tables_1) hat d (List.mem_cons_of_mem _ hd)
  have hfit : Fit s := fun {y c} hc i hi => by
    obtain ⟨ha, rfl⟩ := Array.getElem?_eq_some_iff.mp hc
    have q := List.all_eq_true.mp ((Array.all_eq_true_iff_forall_mem.mp hF) _ (Array.getElem_mem ha)) i (List.mem_range.mpr hi)
    simpa [Array.getElem?_eq_getElem hi] using q
  obtain ⟨i0, ei0⟩ := isL_v g1
  obtain rfl : w0 = (.long i0) := Option.some.inj ei0
  obtain ⟨i1, ei1⟩ := is_v g2
  obtain rfl : w1 = (.int i1) := Option.some.inj ei1
  obtain ⟨i2, ei2⟩ := is_v r2
  obtain rfl : w2 = (.int i2) := Option.some.inj ei2
  obtain ⟨n, o, h1, h2, h3, _, L, rfl, ⟨rfl, N⟩, hq⟩ := law_ok l s _ hw i0 i1 i2 s.heap s.heap.size (Nat.le_refl _) tables_1 p e ha hc hk s m _ below hf ((Spec.applies_iff_loose hf).mp happ).1 ⟨rfl, State.Warmed39.refl s, rfl⟩ trivial
  refine ⟨n, _, h1, h2, h3, hpost _ _ _ _ _ _ ⟨Cond.after_iff.mpr rfl, Cond.after_iff.mpr (eq_i res_at (Term.int_eval (1)) rfl), trivial⟩ ⟨hq.1, hq.2.1, (hq.2.2.sift fun y hy => Or.inr (N y hy)).mono (by decide) (by decide)⟩⟩
theorem main_1_1 : Claimed_1_1 := comes_1 fun _ _ _ _ _ _ h hF => ⟨h.1, hF⟩
theorem main_1_2 : Claimed_1_2 := comes_1 fun _ _ _ _ _ _ h hF => ⟨h.2.1, hF⟩
end Jvm.Pilot.@@N@@
namespace Jvm.Pilot.@@N@@
open Jvm Jvm.ClassFile Sem Op Lib Jvm.Free Jvm.Stand Jvm.Pilot.@@N@@.Jvm.D
/-! MADE BY PROGRAM (witnessworld.py) out of the Statement's table words and the real class files: 9 classes; the members and pool entries that the words name. The judged class is class 1, her method 1. -/
namespace start1
open Jvm.ClassFile
def u (s : String) : CpInfo := .utf8 (stringToUtf16 s)
/-- a pool by its gaps: so many unusable entries, then the entry; so many at the end -/
def gap : Nat → List CpInfo → List CpInfo
  | 0, r => r
  | n + 1, r => .unusable :: gap n r
def poolList (es : List (Nat × CpInfo)) (last : Nat) : List CpInfo := es.foldr (fun e r => gap e.1 (e.2 :: r)) (gap last [])
def pool (es : List (Nat × CpInfo)) (last : Nat) : Array CpInfo := ⟨poolList es last⟩
def fileOf (pool : Array CpInfo) (this : Nat) (attrs : Array Attribute := #[]) (ms : Array MethodInfo := #[]) (fl : Nat := 33) (sup : Nat := 0) (ifs : Array Nat := #[]) (fds : Array FieldInfo := #[]) : ClassFile where
  minorVersion := 0
  majorVersion := 65
  constantPool := pool
  accessFlags := fl
  thisClass := this
  superClass := sup
  interfaces := ifs
  fields := fds
  methods := ms
  attributes := attrs
def plain (name : String) (sup : Option ClassId) : Class where
  name := name
  kind := .ordinary
  loader := none
  accessFlags := 33
  super := sup
  interfaces := #[]
  cf := none
  fields := #[]
  methods := #[]
  instanceTypes := #[]
  staticTypes := #[]
  resolved := #[]
  callSites := []
  init := .initialized
  statics := none
  mirror := none

def pool0 : Array CpInfo := pool [(5, u "<init>"), (0, u "()V"), (1, .class_ 10), (1, u "java/lang/Object")] 113

def k0c0 : Code := { maxStack := 0, maxLocals := 1, code := object_method_1_code, exceptionTable := #[], attributes := #[] }
def k0m0 : Method := { name := "<init>", desc := "()V", sig := { parameters := [], returnType := none }, accessFlags := 1, code := some k0c0 }
/-- java/lang/Object -/
def k0 : Class := { plain "java/lang/Object" none with
  accessFlags := 33
  interfaces := #[]
  cf := some (fileOf pool0 8 #[] #[{ accessFlags := 1, nameIndex := 5, descriptorIndex := 6, attributes := #[] }] 33 0 #[] #[])
  fields := #[]
  methods := #[k0m0]
  instanceTypes := #[]
  staticTypes := #[]
  resolved := Array.replicate 124 none
  statics := none }

def pool1 : Array CpInfo := pool [(2, .class_ 4), (1, u "java/lang/Object"), (0, u "<init>"), (0, u "()V"), (2, .long 9223372036854775807), (1, .integer 2147483647), (0, .methodref 13 14), (0, .class_ 15), (0, .nameAndType 16 17), (0, u "java/lang/Math"), (0, u "max"), (0, u "(II)I"), (0, .class_ 19), (0, u "com/example/ashlar_gate/ashlargate/query/Page"), (0, .methodref 18 21), (0, .nameAndType 5 22), (0, u "(JI)V"), (0, .methodref 18 24), (0, .nameAndType 25 26), (0, u "offset"), (0, u "()J"), (0, .long 4294967295), (1, .long 2147483648), (1, .class_ 32), (0, u "com/example/ashlar_gate/ashlargate/query/PageOffsetPinLaw"), (2, u "law"), (0, u "(JII)Z")] 3

def k1m0 : Method := { name := "<init>", desc := "()V", sig := { parameters := [], returnType := none }, accessFlags := 1, code := none }
def k1c1 : Code := { maxStack := 5, maxLocals := 24, code := code, exceptionTable := #[], attributes := #[] }
def k1m1 : Method := { name := "law", desc := "(JII)Z", sig := { parameters := [.long, .int, .int], returnType := some .boolean }, accessFlags := 9, code := some k1c1 }
/-- com/example/ashlar_gate/ashlargate/query/PageOffsetPinLaw -/
def k1 : Class := { plain "com/example/ashlar_gate/ashlargate/query/PageOffsetPinLaw" (some 0) with
  accessFlags := 49
  interfaces := #[]
  cf := some (fileOf pool1 31 #[] #[{ accessFlags := 1, nameIndex := 5, descriptorIndex := 6, attributes := #[] }, { accessFlags := 9, nameIndex := 35, descriptorIndex := 36, attributes := #[] }] 49 2 #[] #[])
  fields := #[]
  methods := #[k1m0, k1m1]
  instanceTypes := #[]
  staticTypes := #[]
  resolved := Array.replicate 40 none
  statics := none }

def pool2 : Array CpInfo := pool [(1, .class_ 2), (0, u "java/lang/Math"), (1, .class_ 6), (1, u "java/lang/Object"), (0, u "<init>"), (0, u "()V"), (89, .class_ 100), (1, u "java/lang/Math$RandomNumberGeneratorHolder"), (71, u "negativeZeroFloatBits"), (0, u "J"), (2, u "negativeZeroDoubleBits"), (21, u "max"), (46, u "$assertionsDisabled"), (0, u "Z"), (88, u "(II)I"), (2, u "twoToTheDoubleScaleDown"), (0, u "D"), (4, u "twoToTheDoubleScaleUp"), (9, u "E"), (3, u "PI"), (2, u "TAU"), (2, u "DEGREES_TO_RADIANS"), (0, u "RADIANS_TO_DEGREES")] 94

def k2m0 : Method := { name := "<init>", desc := "()V", sig := { parameters := [], returnType := none }, accessFlags := 2, code := none }
def k2c1 : Code := { maxStack := 2, maxLocals := 2, code := jdk_29_method_65_code, exceptionTable := #[], attributes := #[] }
def k2m1 : Method := { name := "max", desc := "(II)I", sig := { parameters := [.int, .int], returnType := some .int }, accessFlags := 9, code := some k2c1 }
/-- java/lang/Math -/
def k2 : Class := { plain "java/lang/Math" (some 0) with
  accessFlags := 49
  interfaces := #[]
  cf := some (fileOf pool2 1 #[.nestMembers #[98]] #[{ accessFlags := 2, nameIndex := 7, descriptorIndex := 8, attributes := #[] }, { accessFlags := 9, nameIndex := 198, descriptorIndex := 335, attributes := #[] }] 49 4 #[] #[{ accessFlags := 25, nameIndex := 354, descriptorIndex := 339, attributes := #[] }, { accessFlags := 25, nameIndex := 358, descriptorIndex := 339, attributes := #[] }, { accessFlags := 25, nameIndex := 361, descriptorIndex := 339, attributes := #[] }, { accessFlags := 26, nameIndex := 364, descriptorIndex := 339, attributes := #[] }, { accessFlags := 26, nameIndex := 365, descriptorIndex := 339, attributes := #[] }, { accessFlags := 26, nameIndex := 172, descriptorIndex := 173, attributes := #[] }, { accessFlags := 26, nameIndex := 176, descriptorIndex := 173, attributes := #[] }, { accessFlags := 8, nameIndex := 344, descriptorIndex := 339, attributes := #[] }, { accessFlags := 8, nameIndex := 338, descriptorIndex := 339, attributes := #[] }, { accessFlags := 4120, nameIndex := 245, descriptorIndex := 246, attributes := #[] }])
  fields := #[{ name := "E", type := .double, accessFlags := 25, slot := 0, constantValue := 0 }, { name := "PI", type := .double, accessFlags := 25, slot := 1, constantValue := 0 }, { name := "TAU", type := .double, accessFlags := 25, slot := 2, constantValue := 0 }, { name := "DEGREES_TO_RADIANS", type := .double, accessFlags := 26, slot := 3, constantValue := 0 }, { name := "RADIANS_TO_DEGREES", type := .double, accessFlags := 26, slot := 4, constantValue := 0 }, { name := "negativeZeroFloatBits", type := .long, accessFlags := 26, slot := 5, constantValue := 0 }, { name := "negativeZeroDoubleBits", type := .long, accessFlags := 26, slot := 6, constantValue := 0 }, { name := "twoToTheDoubleScaleUp", type := .double, accessFlags := 8, slot := 7, constantValue := 0 }, { name := "twoToTheDoubleScaleDown", type := .double, accessFlags := 8, slot := 8, constantValue := 0 }, { name := "$assertionsDisabled", type := .boolean, accessFlags := 4120, slot := 9, constantValue := 0 }]
  methods := #[k2m0, k2m1]
  instanceTypes := #[]
  staticTypes := #[.double, .double, .double, .double, .double, .long, .long, .double, .double, .boolean]
  resolved := Array.replicate 460 none
  statics := none }

def pool3 : Array CpInfo := pool [(1, .methodref 2 3), (0, .class_ 4), (0, .nameAndType 5 6), (0, u "java/lang/Object"), (0, u "<init>"), (0, u "()V"), (0, .class_ 8), (0, u "java/lang/Record")] 13

def k3c0 : Code := { maxStack := 1, maxLocals := 1, code := jdk_30_method_1_code, exceptionTable := #[], attributes := #[] }
def k3m0 : Method := { name := "<init>", desc := "()V", sig := { parameters := [], returnType := none }, accessFlags := 4, code := some k3c0 }
/-- java/lang/Record -/
def k3 : Class := { plain "java/lang/Record" (some 0) with
  accessFlags := 1057
  interfaces := #[]
  cf := some (fileOf pool3 7 #[] #[{ accessFlags := 4, nameIndex := 5, descriptorIndex := 6, attributes := #[] }] 1057 2 #[] #[])
  fields := #[]
  methods := #[k3m0]
  instanceTypes := #[]
  staticTypes := #[]
  resolved := Array.replicate 22 none
  statics := none }

def pool4 : Array CpInfo := pool [(1, .methodref 2 3), (0, .class_ 4), (0, .nameAndType 5 6), (0, u "java/lang/Record"), (0, u "<init>"), (0, u "()V"), (12, .fieldref 20 21), (0, .class_ 22), (0, .nameAndType 23 24), (0, u "com/example/ashlar_gate/ashlargate/query/Page"), (0, u "pageIndex"), (0, u "J"), (0, .fieldref 20 26), (0, .nameAndType 27 28), (0, u "pageSize"), (0, u "I"), (2, .long 9223372036854775807), (14, u "(JI)V"), (4, u "offset"), (0, u "()J")] 38

def k4c0 : Code := { maxStack := 4, maxLocals := 4, code := prog_16_method_1_code, exceptionTable := #[], attributes := #[] }
def k4m0 : Method := { name := "<init>", desc := "(JI)V", sig := { parameters := [.long, .int], returnType := none }, accessFlags := 1, code := some k4c0 }
def k4c1 : Code := { maxStack := 6, maxLocals := 1, code := prog_16_method_2_code, exceptionTable := #[], attributes := #[] }
def k4m1 : Method := { name := "offset", desc := "()J", sig := { parameters := [], returnType := some .long }, accessFlags := 1, code := some k4c1 }
/-- com/example/ashlar_gate/ashlargate/query/Page -/
def k4 : Class := { plain "com/example/ashlar_gate/ashlargate/query/Page" (some 3) with
  accessFlags := 49
  interfaces := #[]
  cf := some (fileOf pool4 20 #[] #[{ accessFlags := 1, nameIndex := 5, descriptorIndex := 46, attributes := #[] }, { accessFlags := 1, nameIndex := 51, descriptorIndex := 52, attributes := #[] }] 49 2 #[] #[{ accessFlags := 18, nameIndex := 23, descriptorIndex := 24, attributes := #[] }, { accessFlags := 18, nameIndex := 27, descriptorIndex := 28, attributes := #[] }])
  fields := #[{ name := "pageIndex", type := .long, accessFlags := 18, slot := 0, constantValue := 0 }, { name := "pageSize", type := .int, accessFlags := 18, slot := 1, constantValue := 0 }]
  methods := #[k4m0, k4m1]
  instanceTypes := #[.long, .int]
  staticTypes := #[]
  resolved := Array.replicate 91 none
  statics := none }

def pool5 : Array CpInfo := pool [(1, u "java/lang/Cloneable"), (0, .class_ 1), (0, u "java/lang/Object"), (0, .class_ 3)] 3

/-- java/lang/Cloneable -/
def k5 : Class := { plain "java/lang/Cloneable" (some 0) with
  accessFlags := 1537
  interfaces := #[]
  cf := some (fileOf pool5 2 #[] #[] 1537 4 #[] #[])
  fields := #[]
  methods := #[]
  instanceTypes := #[]
  staticTypes := #[]
  resolved := Array.replicate 8 none
  statics := none }

def pool6 : Array CpInfo := pool [(1, u "java/io/Serializable"), (0, .class_ 1), (0, u "java/lang/Object"), (0, .class_ 3)] 3

/-- java/io/Serializable -/
def k6 : Class := { plain "java/io/Serializable" (some 0) with
  accessFlags := 1537
  interfaces := #[]
  cf := some (fileOf pool6 2 #[] #[] 1537 4 #[] #[])
  fields := #[]
  methods := #[]
  instanceTypes := #[]
  staticTypes := #[]
  resolved := Array.replicate 8 none
  statics := none }

/-- the primitive byte -/
def k7 : Class := { plain "byte" none with kind := .primitive 'B', accessFlags := 0x411 }
/-- [B -/
def k8 : Class := { plain "[B" (some 0) with kind := .array 7 .byte, interfaces := #[5, 6], accessFlags := 1041 }

def heap : Heap := #[]
def classes : Array Class := #[k0, k1, k2, k3, k4, k5, k6, k7, k8]
def interned : List (Array UInt16 × Addr) := []
def slotsUsed : Nat := 0
def theMethod : MethodId := ⟨1, 1⟩
def args0 : Array Value := #[.long 50, .int 7, .int 2]
def aboutOver (below : List Frame) : State where
  vm := { classes := classes, interned := interned.toArray }
  heap := heap
  slotsUsed := slotsUsed
  threads := #[{ frames := .invoking theMethod args0 :: below }]
def below0 : List Frame := [.native { method := ⟨0, 0⟩, args := #[] }]
def about1 : State := aboutOver below0
def p0 : Program := .bare "" "" ""
def e0 : Env := launch0.env 0 0 0
theorem w_frames : about1.frames = Frame.invoking theMethod args0 :: below0 := rfl
set_option maxRecDepth 65536 in
theorem w_args : argsFit about1.vm theMethod args0 = true := by decide +kernel
set_option maxRecDepth 65536 in
theorem w_heap : heapFits about1 = true := by decide +kernel
set_option maxRecDepth 65536 in
theorem w_runnable : about1.curStatus? = some .runnable := by decide +kernel
set_option maxRecDepth 65536 in
theorem w_alone : about1.alone = true := by decide +kernel
set_option maxRecDepth 65536 in
theorem w_named : about1.methodNamed? x = some theMethod := by decide +kernel
set_option maxRecDepth 65536 in
theorem w_hears : about1.hears theMethod below0 = true := by decide +kernel
set_option maxRecDepth 65536 in
theorem w_ripe : about1.ripe theMethod args0 below0 = true := by decide +kernel
theorem w_running : about1.status = .running := rfl
set_option maxRecDepth 65536 in
theorem w_room : about1.hasRoom e0.platform room_1 = true :=
  launch0.hasRoom_least _ room_1 (by decide +kernel) (by decide +kernel) (by decide +kernel) (by decide +kernel) (by decide +kernel) (by decide +kernel)
theorem allAtoms_all (ts : List Jvm.Cond) (a : Array Jvm.Value) (st : Jvm.State) : (allAtoms ts).before a st = ts.all (fun c => c.before a st) := by
  induction ts with
  | nil => rfl
  | cons c t ih =>
    show (Jvm.Cond.and c (allAtoms t)).before a st = _
    rw [Jvm.Cond.before_and, ih, List.all_cons]
def words1 : List Jvm.Cond := Jvm.Cond.code x code maxLocals ret :: tables_1
/-- a 'code' word, met by the world's own term for the bytes: nothing is compared byte by byte -/
theorem code_word {y : MethodName} {bytes : ByteArray} {mx : Nat} {rt : Option FieldType} {a : Array Value} {s : State} {m : MethodId} {meth : Method} {c : Code} (h1 : s.methodNamed? y = some m) (h2 : s.vm.method? m = some meth) (h3 : meth.code = some c) (h4 : c.code = bytes)
    (h5 : (c.maxLocals == mx && c.exceptionTable.isEmpty && decide (c.maxStack ≤ mostOperands) && decide (meth.sig.returnType = rt) && !meth.locks && decide (parseMethodDescriptor y.desc = some meth.sig)) = true) : (Jvm.Cond.code y bytes mx rt).before a s = true := by
  simp only [Bool.and_eq_true, beq_iff_eq, Bool.not_eq_true', decide_eq_true_eq] at h5
  obtain ⟨⟨⟨⟨⟨g1, g2⟩, g3⟩, g4⟩, g5⟩, g6⟩ := h5
  simp [Cond.before, Cond.holds, Cond.value, h1, h2, h3, h4, g1, g2, g3, g4, g5, g6]
def isCode : Jvm.Cond → Bool
  | .code _ _ _ _ => true
  | _ => false
theorem all_split {L : List Jvm.Cond} {P : Jvm.Cond → Bool} (h1 : L.all (fun c => isCode c || P c) = true) (h2 : ∀ c ∈ L.filter isCode, P c = true) : L.all P = true := by
  refine List.all_eq_true.mpr fun c hc => ?_
  have h := List.all_eq_true.mp h1 c hc
  rcases Bool.eq_false_or_eq_true (isCode c) with hi | hi
  · exact h2 c (List.mem_filter.mpr ⟨hc, hi⟩)
  · simpa [hi] using h
set_option maxRecDepth 65536 in
theorem w_c0 : (Jvm.Cond.code x code maxLocals ret).before args0 about1 = true := code_word (m := ⟨1, 1⟩) (meth := k1m1) (c := k1c1) (by decide +kernel) rfl rfl rfl (by decide +kernel)
set_option maxRecDepth 65536 in
theorem w_c1 : (Jvm.Cond.code ({ cls := "java/lang/Math", name := "max", desc := "(II)I" } : Jvm.MethodName) jdk_29_method_65_code (2 : Nat) (Option.some Jvm.ClassFile.FieldType.int)).before args0 about1 = true := code_word (m := ⟨2, 1⟩) (meth := k2m1) (c := k2c1) (by decide +kernel) rfl rfl rfl (by decide +kernel)
set_option maxRecDepth 65536 in
theorem w_c2 : (Jvm.Cond.code ({ cls := "com/example/ashlar_gate/ashlargate/query/Page", name := "<init>", desc := "(JI)V" } : Jvm.MethodName) prog_16_method_1_code (4 : Nat) (Option.none : Option Jvm.ClassFile.FieldType)).before args0 about1 = true := code_word (m := ⟨4, 0⟩) (meth := k4m0) (c := k4c0) (by decide +kernel) rfl rfl rfl (by decide +kernel)
set_option maxRecDepth 65536 in
theorem w_c3 : (Jvm.Cond.code ({ cls := "java/lang/Record", name := "<init>", desc := "()V" } : Jvm.MethodName) jdk_30_method_1_code (1 : Nat) (Option.none : Option Jvm.ClassFile.FieldType)).before args0 about1 = true := code_word (m := ⟨3, 0⟩) (meth := k3m0) (c := k3c0) (by decide +kernel) rfl rfl rfl (by decide +kernel)
set_option maxRecDepth 65536 in
theorem w_c4 : (Jvm.Cond.code ({ cls := "java/lang/Object", name := "<init>", desc := "()V" } : Jvm.MethodName) object_method_1_code (1 : Nat) (Option.none : Option Jvm.ClassFile.FieldType)).before args0 about1 = true := code_word (m := ⟨0, 0⟩) (meth := k0m0) (c := k0c0) (by decide +kernel) rfl rfl rfl (by decide +kernel)
set_option maxRecDepth 65536 in
theorem w_c5 : (Jvm.Cond.code ({ cls := "com/example/ashlar_gate/ashlargate/query/Page", name := "offset", desc := "()J" } : Jvm.MethodName) prog_16_method_2_code (1 : Nat) (Option.some Jvm.ClassFile.FieldType.long)).before args0 about1 = true := code_word (m := ⟨4, 1⟩) (meth := k4m1) (c := k4c1) (by decide +kernel) rfl rfl rfl (by decide +kernel)
def codes1 : List Jvm.Cond := [Jvm.Cond.code x code maxLocals ret, Jvm.Cond.code ({ cls := "java/lang/Math", name := "max", desc := "(II)I" } : Jvm.MethodName) jdk_29_method_65_code (2 : Nat) (Option.some Jvm.ClassFile.FieldType.int), Jvm.Cond.code ({ cls := "com/example/ashlar_gate/ashlargate/query/Page", name := "<init>", desc := "(JI)V" } : Jvm.MethodName) prog_16_method_1_code (4 : Nat) (Option.none : Option Jvm.ClassFile.FieldType), Jvm.Cond.code ({ cls := "java/lang/Record", name := "<init>", desc := "()V" } : Jvm.MethodName) jdk_30_method_1_code (1 : Nat) (Option.none : Option Jvm.ClassFile.FieldType), Jvm.Cond.code ({ cls := "java/lang/Object", name := "<init>", desc := "()V" } : Jvm.MethodName) object_method_1_code (1 : Nat) (Option.none : Option Jvm.ClassFile.FieldType), Jvm.Cond.code ({ cls := "com/example/ashlar_gate/ashlargate/query/Page", name := "offset", desc := "()J" } : Jvm.MethodName) prog_16_method_2_code (1 : Nat) (Option.some Jvm.ClassFile.FieldType.long)]
set_option maxRecDepth 65536 in
theorem codes_eq : words1.filter isCode = codes1 := rfl
theorem w_codes : ∀ c ∈ words1.filter isCode, c.before args0 about1 = true := by
  rw [codes_eq]
  intro c hc
  simp only [codes1, List.mem_cons, List.not_mem_nil, or_false] at hc
  rcases hc with rfl | rfl | rfl | rfl | rfl | rfl
  · exact w_c0
  · exact w_c1
  · exact w_c2
  · exact w_c3
  · exact w_c4
  · exact w_c5
set_option maxRecDepth 65536 in
theorem w_t1 : (words1.take 24).all (fun c => isCode c || c.before args0 about1) = true := by decide +kernel
set_option maxRecDepth 65536 in
theorem w_t2 : (words1.drop 24).all (fun c => isCode c || c.before args0 about1) = true := by decide +kernel
theorem w_tables : (allAtoms (Jvm.Cond.code x code maxLocals ret :: tables_1)).before args0 about1 = true := by
  rw [allAtoms_all]
  show words1.all (fun c => c.before args0 about1) = true
  refine all_split ?_ w_codes
  rw [← List.take_append_drop 24 words1, List.all_append, w_t1, w_t2]
  rfl
set_option maxRecDepth 65536 in
theorem w_case : (Jvm.Cond.and given_1 narrow_1).before args0 about1 = true := by decide +kernel
theorem w_applies : (headSpec (Jvm.Cond.code x code maxLocals ret :: tables_1) room_1).applies x e0.platform about1 = true :=
  (Spec.applies_iff w_frames).mpr ⟨w_running, w_runnable, w_alone, w_named, w_hears, w_ripe, w_room, w_tables⟩
theorem atStart : AtStart classFile x code maxLocals ret World_1 tables_1 room_1 Calls_1 rest_1 Pre_1 launch0 p0 e0 about1 theMethod args0 below0 :=
  ⟨lists_1, trivial, launch0.admits_env _ _ _, launch0.least_env, fairChoices_fair.cas, fairChoices_fair.clock, w_frames, w_args, w_heap, w_applies, trivial, trivial, w_case⟩
end start1
theorem witness_1 : WitnessClaimed_1 := ⟨start1.p0, start1.e0, start1.about1, start1.theMethod, start1.args0, start1.below0, start1.atStart⟩
end Jvm.Pilot.@@N@@
