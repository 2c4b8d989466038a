import JvmDerived
import JvmDerived.Pilot.@@N@@Statement
import JvmDerived.Pilot.@@N@@Code
set_option linter.unusedVariables false
set_option linter.unusedSimpArgs false
namespace Jvm.Pilot.@@N@@
open Jvm Jvm.ClassFile Sem Op Lib Jvm.Free Jvm.Stand Jvm.LawKit Jvm.RoadKit Bundle Jvm.Pilot.@@N@@.Jvm.D
/-! ## own kit: a walk in continuation style over the library's steps -/
section OwnKit
variable {p : Program} {l : Launch} {e : Env} {R : Room} {s : State} {m : MethodId} {args : Array Value} {below : List Frame} {meth : Method} {c : Code} {T : State} {locs : List Loc} {cells slots : Nat} {Z : State} {a0 : Array Value} {h h' : Heap}
/-- from U the run ends, and then E holds -/
def GoOn (p : Program) (e : Env) (below : List Frame) (E : State → Outcome → Prop) (U : State) : Prop :=
  ∃ t o, Steps p.tables e below U t ∧ t.status = .running ∧ Ended t below o ∧ E t o
theorem GoOn.step {E : State → Outcome → Prop} {U U' : State} (hs : ∀ t, Steps p.tables e below U' t → Steps p.tables e below U t) (g : GoOn p e below E U') : GoOn p e below E U := by
  obtain ⟨t, o, h1, h2⟩ := g
  exact ⟨t, o, hs _ h1, h2⟩
/-- how a body ends: what it returns, its heap, the places that it wrote -/
abbrev EndQ (s : State) (rm : Room) (Q : Option Value → Heap → List Loc → Prop) : State → Outcome → Prop :=
  fun U o => ∃ v L, o = .returned v ∧ Q v U.heap L ∧ FrameEnd s o U L rm.cells rm.slots
/-- a body's contract at one array of arguments and one heap -/
def Con (l : Launch) (Z : State) (y : MethodName) (bytes : ByteArray) (mx : Nat) (rt : Option FieldType) (rm : Room) (as : Array Value) (h : Heap) (Q : Option Value → Heap → List Loc → Prop) : Prop :=
  ∀ ws : List Jvm.Cond, MetFree l y (head1 (Jvm.Cond.code y bytes mx rt :: ws) rm) (fun a U => a = as ∧ Z.Warmed39 U.vm ∧ U.heap = h) (fun _ _ _ _ _ => True) (fun _ U o U' => ∃ v L, o = .returned v ∧ Q v U'.heap L ∧ FrameEnd U o U' L rm.cells rm.slots)
theorem Con.intro {y : MethodName} {bytes : ByteArray} {mx : Nat} {rt : Option FieldType} {rm : Room} {as : Array Value} {Q : Option Value → Heap → List Loc → Prop} (hp : plainFor y = true)
    (body : ∀ (p : Program) (e : Env) (s : State) (m : MethodId) (below : List Frame) (meth : Method) (c : Code) (s₁ : State), p.tables.exec = Jvm.exec → c.code = bytes → c.maxLocals = mx → meth.sig.returnType = rt → meth.locks = false → Z.Warmed39 s.vm → s.vm.findClass y.cls = some m.cls → meth.name = y.name →
      Stand p l e rm s m as below meth c s₁ [] 0 0 → s₁.heap = h → GoOn p e below (EndQ s rm Q) (s₁.setTop (entryFrame m as mx))) : Con l Z y bytes mx rt rm as h Q := fun ws => by
  refine MetFree.of_bodySF hp hisR ?_
  intro p e s m args below meth c s₁ Bd hml0 hP hK
  obtain ⟨rfl, hZ, hh⟩ := hP
  have X0 : Stand p l e rm s m args below meth c s₁ [] 0 0 := Stand.of_body Bd
  obtain ⟨t, o, h1, h2, h3, h4⟩ := body p e s m below meth c s₁ Bd.exec Bd.bytes hml0 Bd.returns Bd.notSynchronized hZ (findClass_of_methodNamed Bd.named) (name_of_methodNamed Bd.named Bd.method).1 X0 (by rw [← hh, Bd.state]; rfl)
  exact ⟨t, o, h1, h2, h3, h4⟩
theorem GoOn.cast {E : State → Outcome → Prop} {g g' : JFrame} (q : g = g') (k : GoOn p e below E (T.setTop g')) : GoOn p e below E (T.setTop g) := q ▸ k
theorem GoOn.retI (X : Stand p l e R s m args below meth c T locs cells slots) (hx : p.tables.exec = Jvm.exec) (hrt : meth.sig.returnType = some .int) (hlk : meth.locks = false) {rm : Room} {Q : Option Value → Heap → List Loc → Prop} {pc : Nat} {Ls : Array Slot} {z : Int32} {rest : List Value}
    (hd : decode c.code pc = .ok (.ireturn, 1)) (hc : cells ≤ rm.cells) (hs : slots ≤ rm.slots) (hQ : Q (some (.int z)) T.heap locs) : GoOn p e below (EndQ s rm Q) (T.setTop (mkF m pc Ls (.int z :: rest))) := by
  obtain ⟨fs, hr, hrun, hended, hW, hsame⟩ := X.leave (v := some (.int z)) (fun h => by rw [hrt] at h; cases h) hlk
  exact ⟨_, _, Jvm.RoadKit.retOut X hx hrt rfl (Or.inl ⟨rfl, Or.inl rfl, _, rfl⟩) hd hr, hrun, hended, _, _, rfl, hQ, ⟨_, rfl⟩, hW, hsame.mono hc hs⟩
theorem GoOn.retN (X : Stand p l e R s m args below meth c T locs cells slots) (hx : p.tables.exec = Jvm.exec) {t : FieldType} (hrt : meth.sig.returnType = some t) (hlk : meth.locks = false) {rm : Room} {Q : Option Value → Heap → List Loc → Prop} {pc : Nat} {Ls : Array Slot} {z : Int32} {rest : List Value} (ht : t = .boolean ∨ t = .byte ∨ t = .char ∨ t = .short)
    (hd : decode c.code pc = .ok (.ireturn, 1)) (hc : cells ≤ rm.cells) (hs : slots ≤ rm.slots) (hQ : Q (some (.int (nar t z))) T.heap locs) : GoOn p e below (EndQ s rm Q) (T.setTop (mkF m pc Ls (.int z :: rest))) := by
  obtain ⟨fs, hr, hrun, hended, hW, hsame⟩ := X.leave (v := some (.int (nar t z))) (fun h => by rw [hrt] at h; cases h) hlk
  exact ⟨_, _, Jvm.RoadKit.retN X hx hrt ht hd hr, hrun, hended, _, _, rfl, hQ, ⟨_, rfl⟩, hW, hsame.mono hc hs⟩
theorem GoOn.retJ (X : Stand p l e R s m args below meth c T locs cells slots) (hx : p.tables.exec = Jvm.exec) (hrt : meth.sig.returnType = some .long) (hlk : meth.locks = false) {rm : Room} {Q : Option Value → Heap → List Loc → Prop} {pc : Nat} {Ls : Array Slot} {z : Int64} {rest : List Value}
    (hd : decode c.code pc = .ok (.lreturn, 1)) (hc : cells ≤ rm.cells) (hs : slots ≤ rm.slots) (hQ : Q (some (.long z)) T.heap locs) : GoOn p e below (EndQ s rm Q) (T.setTop (mkF m pc Ls (.long z :: rest))) := by
  obtain ⟨fs, hr, hrun, hended, hW, hsame⟩ := X.leave (v := some (.long z)) (fun h => by rw [hrt] at h; cases h) hlk
  exact ⟨_, _, Jvm.RoadKit.retOut X hx hrt rfl (Or.inr (Or.inl ⟨rfl, rfl, _, rfl⟩)) hd hr, hrun, hended, _, _, rfl, hQ, ⟨_, rfl⟩, hW, hsame.mono hc hs⟩
theorem GoOn.retR (X : Stand p l e R s m args below meth c T locs cells slots) (hx : p.tables.exec = Jvm.exec) {t : FieldType} (hrt : meth.sig.returnType = some t) (htr : t.isReference = true) (hlk : meth.locks = false) {rm : Room} {Q : Option Value → Heap → List Loc → Prop} {pc : Nat} {Ls : Array Slot} {z : Value} (hz : z.isRef = true) {rest : List Value}
    (hd : decode c.code pc = .ok (.areturn, 1)) (hc : cells ≤ rm.cells) (hs : slots ≤ rm.slots) (hQ : Q (some z) T.heap locs) : GoOn p e below (EndQ s rm Q) (T.setTop (mkF m pc Ls (z :: rest))) := by
  obtain ⟨fs, hr, hrun, hended, hW, hsame⟩ := X.leave (v := some z) (fun h => by rw [hrt] at h; cases h) hlk
  refine ⟨_, _, Jvm.RoadKit.retOut X hx hrt ?_ (Or.inr (Or.inr (Or.inr (Or.inr ⟨rfl, htr, hz⟩)))) hd hr, hrun, hended, _, _, rfl, hQ, ⟨_, rfl⟩, hW, hsame.mono hc hs⟩
  cases z <;> first | (cases t <;> rfl) | (simp [Value.isRef] at hz)
theorem GoOn.ret0 (X : Stand p l e R s m args below meth c T locs cells slots) (hx : p.tables.exec = Jvm.exec) (hrt : meth.sig.returnType = none) (hlk : meth.locks = false) {rm : Room} {Q : Option Value → Heap → List Loc → Prop} {pc : Nat} {Ls : Array Slot}
    (hd : decode c.code pc = .ok (.return_, 1)) (hc : cells ≤ rm.cells) (hs : slots ≤ rm.slots) (hQ : Q none T.heap locs) : GoOn p e below (EndQ s rm Q) (T.setTop (mkF m pc Ls [])) := by
  obtain ⟨fs, hr, hrun, hended, hW, hsame⟩ := X.leave (v := none) (fun _ => rfl) hlk
  exact ⟨_, _, X.returnOut hx hrt hd hr, hrun, hended, _, _, rfl, hQ, ⟨_, rfl⟩, hW, hsame.mono hc hs⟩
/-- a static call by its contract -/
theorem kCallS (X : Stand p l e R s m args below meth c T locs cells slots) (hx : p.tables.exec = Jvm.exec) (hZ : Z.Warmed39 s.vm) {own : String} {index : Nat} {y : MethodName} {bytes : ByteArray} {mx : Nat} {rt : Option FieldType} {rm : Room} {Q : Option Value → Heap → List Loc → Prop} {argsL rest : List Value}
    (K : Con l Z y bytes mx rt rm argsL.toArray h Q) (hown : s.vm.findClass own = some m.cls) (w1 : (Jvm.Cond.methodLink own index y).before a0 Z = true) (w2 : (Jvm.Cond.static y).before a0 Z = true) (w3 : (Jvm.Cond.initialized y.cls).before a0 Z = true) (w4 : (Jvm.Cond.code y bytes mx rt).before a0 Z = true)
    (hy : y.cls ≠ "java/lang/invoke/MethodHandle" ∧ y.cls ≠ "java/lang/invoke/VarHandle") (eT : T.heap = h) {g : JFrame} (hg : g.method = m) (hsize : g.locals.size = c.maxLocals) (hlen : ∀ sig, parseMethodDescriptor y.desc = some sig → argsL.length = sig.parameters.length) (hstack : g.stack = argsL.reverse ++ rest)
    {W : Nat} (hW : 2 * g.monitorRoom + (rest.map fun v => v.category).sum ≤ W) (hd : decode c.code g.pc = .ok (.invokestatic index, 3)) (hf : rm.frames + 1 ≤ R.frames) (hl : W + (mx + 11) + rm.locals ≤ R.locals) (hc : cells + rm.cells ≤ R.cells) (hs : slots + rm.slots ≤ R.slots) :
    ∃ v T' L, Stand p l e R s m args below meth c T' (locs ++ L) (cells + rm.cells) (slots + rm.slots) ∧ Q v T'.heap L ∧ ∀ target, Steps p.tables e below (T'.setTop { g with pc := g.pc + 3, stack := v.toList ++ rest }) target → Steps p.tables e below (T.setTop g) target := by
  obtain ⟨v, _, ⟨T', L', k', n'⟩, -, X', ⟨L, hQ, l1, l2, l3⟩, st⟩ := Jvm.LawKit.callS X hx (y := y) hown (mvT hZ w1) (mvT hZ w2) (mvT hZ w3) (mvT hZ w4) hy (backOf (W := W) (K []) hZ w4 w3 hf hl) hg hsize hlen hstack hW hd (fun _ _ => ⟨rfl, eT, hc, hs⟩)
  dsimp only [Pt.U, Pt.locs, Pt.cells, Pt.slots] at X' l1 l2 l3 hQ st
  subst l1 l2 l3
  exact ⟨v, T', L, X', hQ, fun t k => st _ k⟩
/-- a constructor by its contract -/
theorem kCallI (X : Stand p l e R s m args below meth c T locs cells slots) (hx : p.tables.exec = Jvm.exec) (hZ : Z.Warmed39 s.vm) {own : String} {index : Nat} {y : MethodName} {bytes : ByteArray} {mx : Nat} {rm : Room} {Q : Option Value → Heap → List Loc → Prop} {a : Addr} {argsL rest : List Value}
    (K : Con l Z y bytes mx none rm (.ref a :: argsL).toArray h Q) (hy1 : y.name = "<init>") (hown : s.vm.findClass own = some m.cls) (w1 : (Jvm.Cond.methodLink own index y).before a0 Z = true) (w2 : (Jvm.Cond.instanceMethod y).before a0 Z = true) (w3 : (Jvm.Cond.initialized y.cls).before a0 Z = true) (w4 : (Jvm.Cond.code y bytes mx none).before a0 Z = true)
    (hy : y.cls ≠ "java/lang/invoke/MethodHandle" ∧ y.cls ≠ "java/lang/invoke/VarHandle") (eT : T.heap = h) {g : JFrame} (hg : g.method = m) (hsize : g.locals.size = c.maxLocals) (hlen : ∀ sig, parseMethodDescriptor y.desc = some sig → argsL.length = sig.parameters.length) (hstack : g.stack = argsL.reverse ++ .ref a :: rest)
    {W : Nat} (hW : 2 * g.monitorRoom + (rest.map fun v => v.category).sum ≤ W) (hd : decode c.code g.pc = .ok (.invokespecial index, 3)) (hf : rm.frames + 1 ≤ R.frames) (hl : W + (mx + 11) + rm.locals ≤ R.locals) (hc : cells + rm.cells ≤ R.cells) (hs : slots + rm.slots ≤ R.slots) :
    ∃ v T' L, Stand p l e R s m args below meth c T' (locs ++ L) (cells + rm.cells) (slots + rm.slots) ∧ Q v T'.heap L ∧ ∀ target, Steps p.tables e below (T'.setTop { g with pc := g.pc + 3, stack := v.toList ++ rest }) target → Steps p.tables e below (T.setTop g) target := by
  obtain ⟨v, _, ⟨T', L', k', n'⟩, -, X', ⟨L, hQ, l1, l2, l3⟩, st⟩ := X.specialBack hx (y := y) hy1 hown (mvT hZ w1) (mvT hZ w2) (mvT hZ w4) hy (backOf (W := W) (K []) hZ w4 w3 hf hl) hg hsize (Steps.refl _) (a := a) hlen hstack hW hd (fun _ _ => ⟨rfl, eT, hc, hs⟩)
  dsimp only [Pt.U, Pt.locs, Pt.cells, Pt.slots] at X' l1 l2 l3 hQ st
  subst l1 l2 l3
  exact ⟨v, T', L, X', hQ, fun t k => st.trans k⟩
/-- an instance method by its contract, on an object of that very class -/
theorem kCallV (X : Stand p l e R s m args below meth c T locs cells slots) (hx : p.tables.exec = Jvm.exec) (hZ : Z.Warmed39 s.vm) {own C : String} {index : Nat} {y z : MethodName} {bytes : ByteArray} {mx : Nat} {rt : Option FieldType} {rm : Room} {Q : Option Value → Heap → List Loc → Prop} {a : Addr} {argsL rest : List Value}
    (K : Con l Z z bytes mx rt rm (.ref a :: argsL).toArray h Q) (hown : s.vm.findClass own = some m.cls) (w1 : (Jvm.Cond.methodLink own index y).before a0 Z = true) (wd : (Jvm.Cond.declares y).before a0 Z = true) (hnf : NotFace s y) (ws : (Jvm.Cond.selects C y z).before a0 Z = true) (w2 : (Jvm.Cond.instanceMethod z).before a0 Z = true) (w3 : (Jvm.Cond.initialized z.cls).before a0 Z = true) (w4 : (Jvm.Cond.code z bytes mx rt).before a0 Z = true)
    (hy : y.cls ≠ "java/lang/invoke/MethodHandle" ∧ y.cls ≠ "java/lang/invoke/VarHandle") (eT : T.heap = h) (E : Exa Z h a C) {g : JFrame} (hg : g.method = m) (hsize : g.locals.size = c.maxLocals) (hlen : ∀ sig, parseMethodDescriptor y.desc = some sig → argsL.length = sig.parameters.length) (hstack : g.stack = argsL.reverse ++ .ref a :: rest)
    {W : Nat} (hW : 2 * g.monitorRoom + (rest.map fun v => v.category).sum ≤ W) (hd : decode c.code g.pc = .ok (.invokevirtual index, 3)) (hf : rm.frames + 1 ≤ R.frames) (hl : W + (mx + 11) + rm.locals ≤ R.locals) (hc : cells + rm.cells ≤ R.cells) (hs : slots + rm.slots ≤ R.slots) :
    ∃ v T' L, Stand p l e R s m args below meth c T' (locs ++ L) (cells + rm.cells) (slots + rm.slots) ∧ Q v T'.heap L ∧ ∀ target, Steps p.tables e below (T'.setTop { g with pc := g.pc + 3, stack := v.toList ++ rest }) target → Steps p.tables e below (T.setTop g) target := by
  obtain ⟨cB, kB, q1, q2, q3⟩ := isOf hZ eT E
  obtain ⟨v, _, ⟨T', L', k', n'⟩, -, X', ⟨L, hQ, l1, l2, l3⟩, st⟩ := X.virtualBack hx (y := y) (z := z) hown (mvT hZ w1) (mvT hZ wd) hnf (mvT hZ ws) (mvT hZ w2) hy (backOf (W := W) (K []) hZ w4 w3 hf hl) q1 q3 hg hsize (Steps.refl _) hlen hstack hW hd (fun _ _ => ⟨rfl, eT, hc, hs⟩)
  dsimp only [Pt.U, Pt.locs, Pt.cells, Pt.slots] at X' l1 l2 l3 hQ st
  subst l1 l2 l3
  exact ⟨v, T', L, X', hQ, fun t k => st.trans k⟩
/-- a private method by its contract ('invokevirtual'); y2: a method of the same class of which is known that its class is no interface -/
theorem kCallP (X : Stand p l e R s m args below meth c T locs cells slots) (hx : p.tables.exec = Jvm.exec) (hZ : Z.Warmed39 s.vm) {own C : String} {index : Nat} {y y2 : MethodName} {bytes : ByteArray} {mx : Nat} {rt : Option FieldType} {rm : Room} {Q : Option Value → Heap → List Loc → Prop} {a : Addr} {argsL rest : List Value}
    (K : Con l Z y bytes mx rt rm (.ref a :: argsL).toArray h Q) (hown : s.vm.findClass own = some m.cls) (w1 : (Jvm.Cond.methodLink own index y).before a0 Z = true) (w2 : (Jvm.Cond.instanceMethod y).before a0 Z = true) (wp : (Jvm.Cond.privateMethod y).before a0 Z = true) (w3 : (Jvm.Cond.initialized y.cls).before a0 Z = true) (w4 : (Jvm.Cond.code y bytes mx rt).before a0 Z = true)
    (hnf : NotFace s y2) (hcl : y2.cls = y.cls) (w5 : (Jvm.Cond.instanceMethod y2).before a0 Z = true)
    (hy : y.cls ≠ "java/lang/invoke/MethodHandle" ∧ y.cls ≠ "java/lang/invoke/VarHandle") (eT : T.heap = h) (E : Exa Z h a C) {g : JFrame} (hg : g.method = m) (hsize : g.locals.size = c.maxLocals) (hlen : ∀ sig, parseMethodDescriptor y.desc = some sig → argsL.length = sig.parameters.length) (hstack : g.stack = argsL.reverse ++ .ref a :: rest)
    {W : Nat} (hW : 2 * g.monitorRoom + (rest.map fun v => v.category).sum ≤ W) (hd : decode c.code g.pc = .ok (.invokevirtual index, 3)) (hf : rm.frames + 1 ≤ R.frames) (hl : W + (mx + 11) + rm.locals ≤ R.locals) (hc : cells + rm.cells ≤ R.cells) (hs : slots + rm.slots ≤ R.slots) :
    ∃ v T' L, Stand p l e R s m args below meth c T' (locs ++ L) (cells + rm.cells) (slots + rm.slots) ∧ Q v T'.heap L ∧ ∀ target, Steps p.tables e below (T'.setTop { g with pc := g.pc + 3, stack := v.toList ++ rest }) target → Steps p.tables e below (T.setTop g) target := by
  obtain ⟨cB, kB, q1, q2, cell, q3, q4, q5⟩ := isOf hZ eT E
  obtain ⟨mk, methM, hnamed, hmethM, hstM, habM⟩ := Cond.instanceMethod_spec (mvT (args := args) hZ w2)
  obtain ⟨methM', cM, hmethM', -, -, -, -, -, -, hsigM⟩ := Cond.code_spec hnamed (mvT (args := args) hZ w4)
  cases hmethM.symm.trans hmethM'
  obtain ⟨mk2, methM2, hnamed2, -⟩ := Cond.instanceMethod_spec (mvT (args := args) hZ w5)
  obtain ⟨kP, hkP, hkPi⟩ := hnf mk2 hnamed2
  have hcc : mk2.cls = mk.cls := by
    have u1 := findClass_of_methodNamed hnamed2
    rw [hcl] at u1
    exact Option.some.inj (u1.symm.trans (findClass_of_methodNamed hnamed))
  rw [hcc] at hkP
  have hpriv : s.PrivateAt y := Cond.privateMethod_at (mvP hZ wp (args := args))
  obtain ⟨vm₁, X₁, hstep₁⟩ := X.invokevirtual hx hown (mvT hZ w1) hnamed hmethM hstM hkP hkPi hy (a := a) (cell := cell) q3 (fun q z => by rw [z] at q5; cases q5) (selectMethod_private hmethM (hpriv mk methM hnamed hmethM)) hmethM habM hkP hkPi (g := g) hg (argsL := argsL) (rest := rest) (hlen _ hsigM) hstack hd
  obtain ⟨v, ⟨T', L', k', n'⟩, X', ⟨L, hQ, l1, l2, l3⟩, st⟩ := (backOf (W := W) (K []) hZ w4 w3 hf hl) m meth c ⟨T.setVm vm₁, locs, cells, slots⟩ { g with stack := rest } (.invokevirtual index) mk (.ref a :: argsL).toArray X₁ hg hsize hd hW (X₁.named hnamed) ⟨rfl, eT, hc, hs⟩
  dsimp only [Pt.U, Pt.locs, Pt.cells, Pt.slots] at X' l1 l2 l3 hQ st
  subst l1 l2 l3
  exact ⟨v, T', L, X', hQ, fun t k => (hstep₁ _ fun acts => by rw [doInvoke_state]; exact Steps.refl _).trans (st.trans k)⟩
/-- an array: its kind, its length, what each place holds -/
def Jar (Z : State) (h : Heap) (a : Addr) (ty : FieldType) (n : Nat) (f : Nat → Value) : Prop := ∃ cl : Cell, Arr Z h a cl ty ∧ cl.slots.size = n ∧ ∀ i, i < n → cl.slots[i]? = some (f i)
section JarS
variable {a b : Addr} {ty : FieldType} {n : Nat} {f g : Nat → Value} {v : Value} {sl : Nat} {ws : List Addr}
theorem Jar.lt (F : Jar Z h a ty n f) : a < h.size := by obtain ⟨cl, A, -⟩ := F; exact A.lt
theorem Jar.ext (F : Jar Z h a ty n f) (E : Ext h h') : Jar Z h' a ty n f := by obtain ⟨cl, A, r⟩ := F; exact ⟨cl, A.ext E, r⟩
theorem Jar.other (F : Jar Z h b ty n f) (W : Wr h h' a sl v) (q : b ≠ a) : Jar Z h' b ty n f := by obtain ⟨cl, A, r⟩ := F; exact ⟨cl, A.other W q, r⟩
theorem Jar.keep (F : Jar Z h a ty n f) (K : Keep h h' ws) (q : a ∉ ws) : Jar Z h' a ty n f := by obtain ⟨cl, A, r⟩ := F; exact ⟨cl, ⟨K.2.1 a cl A.1 q, A.2⟩, r⟩
theorem Jar.congr (F : Jar Z h a ty n f) (q : ∀ i, i < n → f i = g i) : Jar Z h a ty n g := by obtain ⟨cl, A, s1, s2⟩ := F; exact ⟨cl, A, s1, fun i hi => by rw [s2 i hi, q i hi]⟩
theorem Jar.new {k : ClassId} {z : Int32} (A : Arr Z h a (newA k ty z) ty) (hz : z.toNatClampNeg = n) : Jar Z h a ty n (fun _ => defaultValue ty) := ⟨_, A, (sz_new _ _ _).trans hz, fun i hi => by simp [newA, hz, hi]⟩
theorem Jar.set (F : Jar Z h a ty n f) (W : Wr h h' a sl v) : Jar Z h' a ty n (fun i => if i = sl then v else f i) := by
  obtain ⟨cl, A, s1, s2⟩ := F
  obtain ⟨c2, q1, -, q3, -⟩ := id W
  cases A.1.symm.trans q1
  refine ⟨_, Arr.same W A, by simp [Cell.setSlot, s1], fun i hi => ?_⟩
  by_cases q : i = sl
  · subst q; simp [Cell.setSlot, q3]
  · show (cl.slots.setIfInBounds sl v)[i]? = some (if i = sl then v else f i)
    rw [if_neg q, ← s2 i hi, Array.getElem?_setIfInBounds_ne (Ne.symm q)]
theorem Jar.ints (F : Jar Z h a ty n f) (H : ∀ i, ∃ x, f i = .int x) : ∃ g : Nat → Int32, Jar Z h a ty n (fun i => .int (g i)) := ⟨fun i => Classical.choose (H i), F.congr fun i _ => Classical.choose_spec (H i)⟩
theorem Jar.longs (F : Jar Z h a ty n f) (H : ∀ i, ∃ x, f i = .long x) : ∃ g : Nat → Int64, Jar Z h a ty n (fun i => .long (g i)) := ⟨fun i => Classical.choose (H i), F.congr fun i _ => Classical.choose_spec (H i)⟩
theorem inJ {cl : Cell} {j : Int32} (s1 : cl.slots.size = n) (hj : 0 ≤ j.toInt ∧ j.toInt < n) : ¬ (j < 0 ∨ cl.slots.size ≤ j.toNatClampNeg) := by
  rw [s1, Int32.lt_iff_toInt_lt]
  have e1 : (0 : Int32).toInt = 0 := rfl
  have e2 : j.toNatClampNeg = j.toInt.toNat := rfl
  omega
theorem natJ {j : Int32} (hj : 0 ≤ j.toInt ∧ j.toInt < n) : j.toNatClampNeg < n := by
  have e2 : j.toNatClampNeg = j.toInt.toNat := rfl
  omega
end JarS
theorem kLdI (X : Stand p l e R s m args below meth c T locs cells slots) (hx : p.tables.exec = Jvm.exec) (hZ : Z.Warmed39 s.vm) (eT : T.heap = h) {a : Addr} {n : Nat} {f : Nat → Value} (F : Jar Z h a .int n f) {j : Int32} {v : Value} (hj : 0 ≤ j.toInt ∧ j.toInt < n) (hv : f j.toNatClampNeg = v) {g : JFrame} (hg : g.method = m) {rest : List Value} (hs : g.stack = .int j :: .ref a :: rest) (hd : decode c.code g.pc = .ok (.iaload, 1)) :
    ∀ t, Steps p.tables e below (T.setTop { g with pc := g.pc + 1, stack := v :: rest }) t → Steps p.tables e below (T.setTop g) t := by
  obtain ⟨cl, A, s1, s2⟩ := F
  exact X.iaload hx (j := j) (v := v) (by rw [eT]; exact A.1) (State.isArrayOf_alike hZ.alike A.2.1) A.2.2 (inJ s1 hj) (by rw [s2 _ (natJ hj), hv]) hg hs hd
theorem kLdJ (X : Stand p l e R s m args below meth c T locs cells slots) (hx : p.tables.exec = Jvm.exec) (hZ : Z.Warmed39 s.vm) (eT : T.heap = h) {a : Addr} {n : Nat} {f : Nat → Value} (F : Jar Z h a .long n f) {j : Int32} {v : Value} (hj : 0 ≤ j.toInt ∧ j.toInt < n) (hv : f j.toNatClampNeg = v) {g : JFrame} (hg : g.method = m) {rest : List Value} (hs : g.stack = .int j :: .ref a :: rest) (hd : decode c.code g.pc = .ok (.laload, 1)) :
    ∀ t, Steps p.tables e below (T.setTop { g with pc := g.pc + 1, stack := v :: rest }) t → Steps p.tables e below (T.setTop g) t := by
  obtain ⟨cl, A, s1, s2⟩ := F
  exact X.laload hx (j := j) (v := v) (by rw [eT]; exact A.1) (State.isArrayOf_alike hZ.alike A.2.1) A.2.2 (inJ s1 hj) (by rw [s2 _ (natJ hj), hv]) hg hs hd
theorem kLdB (X : Stand p l e R s m args below meth c T locs cells slots) (hx : p.tables.exec = Jvm.exec) (hZ : Z.Warmed39 s.vm) (eT : T.heap = h) {a : Addr} {n : Nat} {f : Nat → Value} (F : Jar Z h a .byte n f) {j : Int32} {v : Value} (hj : 0 ≤ j.toInt ∧ j.toInt < n) (hv : f j.toNatClampNeg = v) {g : JFrame} (hg : g.method = m) {rest : List Value} (hs : g.stack = .int j :: .ref a :: rest) (hd : decode c.code g.pc = .ok (.baload, 1)) :
    ∀ t, Steps p.tables e below (T.setTop { g with pc := g.pc + 1, stack := v :: rest }) t → Steps p.tables e below (T.setTop g) t := by
  obtain ⟨cl, A, s1, s2⟩ := F
  exact X.baloadBytes hx (j := j) (v := v) (by rw [eT]; exact A.1) (State.isArrayOf_alike hZ.alike A.2.1) A.2.2 (inJ s1 hj) (by rw [s2 _ (natJ hj), hv]) hg hs hd
theorem kLdA (X : Stand p l e R s m args below meth c T locs cells slots) (hx : p.tables.exec = Jvm.exec) (hZ : Z.Warmed39 s.vm) (eT : T.heap = h) {a : Addr} {ty : FieldType} {n : Nat} {f : Nat → Value} (F : Jar Z h a ty n f) (hty : ty.isReference = true) {j : Int32} {v : Value} (hj : 0 ≤ j.toInt ∧ j.toInt < n) (hv : f j.toNatClampNeg = v) {g : JFrame} (hg : g.method = m) {rest : List Value} (hs : g.stack = .int j :: .ref a :: rest) (hd : decode c.code g.pc = .ok (.aaload, 1)) :
    ∀ t, Steps p.tables e below (T.setTop { g with pc := g.pc + 1, stack := v :: rest }) t → Steps p.tables e below (T.setTop g) t := by
  obtain ⟨cl, A, s1, s2⟩ := F
  exact X.aaload hx (j := j) (v := v) (by rw [eT]; exact A.1) (State.isArrayOf_alike hZ.alike A.2.1) hty A.2.2 (inJ s1 hj) (by rw [s2 _ (natJ hj), hv]) hg hs hd
theorem kLen (X : Stand p l e R s m args below meth c T locs cells slots) (hx : p.tables.exec = Jvm.exec) (hZ : Z.Warmed39 s.vm) (eT : T.heap = h) {a : Addr} {ty : FieldType} {n : Nat} {f : Nat → Value} (F : Jar Z h a ty n f) {z : Int32} (hz : n.toInt32 = z) {g : JFrame} (hg : g.method = m) {rest : List Value} (hs : g.stack = .ref a :: rest) (hd : decode c.code g.pc = .ok (.arraylength, 1)) :
    ∀ t, Steps p.tables e below (T.setTop { g with pc := g.pc + 1, stack := .int z :: rest }) t → Steps p.tables e below (T.setTop g) t := by
  obtain ⟨cl, A, s1, s2⟩ := F
  subst hz s1
  exact X.arraylength hx (by rw [eT]; exact A.1) (State.isArrayOf_alike hZ.alike A.2.1) hg hs hd
/-- a store: what the three kinds say alike -/
theorem kStI (X : Stand p l e R s m args below meth c T locs cells slots) (hx : p.tables.exec = Jvm.exec) (hZ : Z.Warmed39 s.vm) (eT : T.heap = h) {a : Addr} {n : Nat} {f : Nat → Value} (F : Jar Z h a .int n f) {j x : Int32} (hj : 0 ≤ j.toInt ∧ j.toInt < n) {g : JFrame} (hg : g.method = m) {rest : List Value} (hs : g.stack = .int x :: .int j :: .ref a :: rest) (hd : decode c.code g.pc = .ok (.iastore, 1)) :
    ∃ T' h', Stand p l e R s m args below meth c T' (locs ++ [⟨a, j.toNatClampNeg⟩]) cells slots ∧ T'.heap = h' ∧ Wr h h' a j.toNatClampNeg (.int x) ∧ ∀ target, Steps p.tables e below (T'.setTop { g with pc := g.pc + 1, stack := rest }) target → Steps p.tables e below (T.setTop g) target := by
  obtain ⟨cl, A, s1, s2⟩ := F
  exact stI X hx hZ eT A (inJ s1 hj) hg hs hd
theorem kStJ (X : Stand p l e R s m args below meth c T locs cells slots) (hx : p.tables.exec = Jvm.exec) (hZ : Z.Warmed39 s.vm) (eT : T.heap = h) {a : Addr} {n : Nat} {f : Nat → Value} (F : Jar Z h a .long n f) {j : Int32} {x : Int64} (hj : 0 ≤ j.toInt ∧ j.toInt < n) {g : JFrame} (hg : g.method = m) {rest : List Value} (hs : g.stack = .long x :: .int j :: .ref a :: rest) (hd : decode c.code g.pc = .ok (.lastore, 1)) :
    ∃ T' h', Stand p l e R s m args below meth c T' (locs ++ [⟨a, j.toNatClampNeg⟩]) cells slots ∧ T'.heap = h' ∧ Wr h h' a j.toNatClampNeg (.long x) ∧ ∀ target, Steps p.tables e below (T'.setTop { g with pc := g.pc + 1, stack := rest }) target → Steps p.tables e below (T.setTop g) target := by
  obtain ⟨cl, A, s1, s2⟩ := F
  exact stJ X hx hZ eT A (inJ s1 hj) hg hs hd
theorem kStB (X : Stand p l e R s m args below meth c T locs cells slots) (hx : p.tables.exec = Jvm.exec) (hZ : Z.Warmed39 s.vm) (eT : T.heap = h) {a : Addr} {n : Nat} {f : Nat → Value} (F : Jar Z h a .byte n f) {j x : Int32} (hj : 0 ≤ j.toInt ∧ j.toInt < n) {g : JFrame} (hg : g.method = m) {rest : List Value} (hs : g.stack = .int x :: .int j :: .ref a :: rest) (hd : decode c.code g.pc = .ok (.bastore, 1)) :
    ∃ T' h', Stand p l e R s m args below meth c T' (locs ++ [⟨a, j.toNatClampNeg⟩]) cells slots ∧ T'.heap = h' ∧ Wr h h' a j.toNatClampNeg (.int (x.toInt8.toInt32)) ∧ ∀ target, Steps p.tables e below (T'.setTop { g with pc := g.pc + 1, stack := rest }) target → Steps p.tables e below (T.setTop g) target := by
  obtain ⟨cl, A, s1, s2⟩ := F
  exact stB X hx hZ eT A (inJ s1 hj) hg hs hd
theorem kClone (X : Stand p l e R s m args below meth c T locs cells slots) (hx : p.tables.exec = Jvm.exec) (hZ : Z.Warmed39 s.vm) {own ad : String} {index : Nat} (hown : s.vm.findClass own = some m.cls)
    (w1 : (Jvm.Cond.methodLink own index ⟨ad, "clone", "()Ljava/lang/Object;"⟩).before a0 Z = true) (w2 : (Jvm.Cond.sameMethod ad "java/lang/Object" "clone" "()Ljava/lang/Object;").before a0 Z = true) (w3 : (Jvm.Cond.native ⟨"java/lang/Object", "clone", "()Ljava/lang/Object;"⟩).before a0 Z = true)
    (w4 : (Jvm.Cond.instanceMethod ⟨"java/lang/Object", "clone", "()Ljava/lang/Object;"⟩).before a0 Z = true) (w5 : (Jvm.Cond.selects ad ⟨ad, "clone", "()Ljava/lang/Object;"⟩ ⟨"java/lang/Object", "clone", "()Ljava/lang/Object;"⟩).before a0 Z = true) (w6 : (Jvm.Cond.castable ad "java/lang/Cloneable").before a0 Z = true)
    (eT : T.heap = h) {a : Addr} {ty : FieldType} {n : Nat} {f : Nat → Value} (F : Jar Z h a ty n f) (E : Exa Z h a ad) (hft : ∀ i, i < n → fits ty (f i) = true) {g : JFrame} (hg : g.method = m) (hsize : g.locals.size = c.maxLocals) {rest : List Value} (hs : g.stack = .ref a :: rest) (hd : decode c.code g.pc = .ok (.invokevirtual index, 3))
    (hf : 1 ≤ R.frames) {W cap : Nat} (hW : 2 * g.monitorRoom + (rest.map fun v => v.category).sum ≤ W) (hl : W + 14 ≤ R.locals) (hcap : n ≤ cap) (hc : cells + 1 ≤ R.cells) (hsl : slots + cap ≤ R.slots) :
    ∃ T' h', Stand p l e R s m args below meth c T' locs (cells + 1) (slots + cap) ∧ T'.heap = h' ∧ Ext h h' ∧ Jar Z h' h.size ty n f ∧ Exa Z h' h.size ad ∧
      ∀ target, Steps p.tables e below (T'.setTop { g with pc := g.pc + 3, stack := .ref h.size :: rest }) target → Steps p.tables e below (T.setTop g) target := by
  obtain ⟨cl, A, s1, s2⟩ := F
  have FC : FitC Z cl := fitC_of A fun i hi v hv => by rw [s2 i (s1 ▸ hi)] at hv; cases hv; exact hft i (s1 ▸ hi)
  obtain ⟨T', h', X', e', ex, A', E', st⟩ := cloneA X hx hZ hown w1 w2 w3 w4 w5 w6 eT A E FC hg hsize hs hd hf hW hl (by rw [s1]; exact hcap) hc hsl
  exact ⟨T', h', X', e', ex, ⟨cloneOf cl, A', s1, s2⟩, E', st⟩
theorem narO {C : String} (v : Value) : narrow (.object C) v = v := by cases v <;> rfl
theorem fitO {C : String} {v : Value} (h : v.isRef = true) : fits (.object C) v = true := by cases v <;> first | rfl | (simp [Value.isRef] at h)
/-- what a body that writes nothing and makes nothing leaves -/
def PQ (r : Option Value) (h0 : Heap) : Option Value → Heap → List Loc → Prop := fun v h L => v = r ∧ L = [] ∧ h = h0
/-- what the law leaves -/
def LQ (n0 : Nat) : Option Value → Heap → List Loc → Prop := fun v _ L => v = some (.int 1) ∧ Fr n0 L
end OwnKit
theorem pn_0 : plainName "java/lang/Record" = true := by first | (simp [plainName, overriddenIn]; done) | decide +kernel
theorem d2_0 : decode jdk_30_method_1_code 0 = .ok (.aload_n 0, 1) := by decide +kernel
theorem d2_1 : decode jdk_30_method_1_code 1 = .ok (.invokespecial 1, 3) := by decide +kernel
theorem d2_4 : decode jdk_30_method_1_code 4 = .ok (.return_, 1) := by decide +kernel
theorem pn_1 : plainName "com/example/ashlar_gate/ashlargate/query/Page" = true := by first | (simp [plainName, overriddenIn]; done) | decide +kernel
theorem d1_0 : decode prog_16_method_1_code 0 = .ok (.aload_n 0, 1) := by decide +kernel
theorem pd_0 : parseMethodDescriptor "()V" = some ⟨[], none⟩ := by decide +kernel
theorem d1_1 : decode prog_16_method_1_code 1 = .ok (.invokespecial 1, 3) := by decide +kernel
theorem d1_4 : decode prog_16_method_1_code 4 = .ok (.lload_n 1, 1) := by decide +kernel
theorem d1_5 : decode prog_16_method_1_code 5 = .ok (.lconst 0, 1) := by decide +kernel
theorem d1_6 : decode prog_16_method_1_code 6 = .ok (.lcmp, 1) := by decide +kernel
theorem d1_7 : decode prog_16_method_1_code 7 = .ok (.ifCond .ge 17, 3) := by decide +kernel
theorem d1_24 : decode prog_16_method_1_code 24 = .ok (.iload_n 3, 1) := by decide +kernel
theorem d1_25 : decode prog_16_method_1_code 25 = .ok (.iconst 1, 1) := by decide +kernel
theorem d1_26 : decode prog_16_method_1_code 26 = .ok (.if_icmp .ge 17, 3) := by decide +kernel
theorem d1_43 : decode prog_16_method_1_code 43 = .ok (.aload_n 0, 1) := by decide +kernel
theorem d1_44 : decode prog_16_method_1_code 44 = .ok (.lload_n 1, 1) := by decide +kernel
theorem d1_45 : decode prog_16_method_1_code 45 = .ok (.putfield 19, 3) := by decide +kernel
theorem d1_48 : decode prog_16_method_1_code 48 = .ok (.aload_n 0, 1) := by decide +kernel
theorem d1_49 : decode prog_16_method_1_code 49 = .ok (.iload_n 3, 1) := by decide +kernel
theorem d1_50 : decode prog_16_method_1_code 50 = .ok (.putfield 25, 3) := by decide +kernel
theorem d1_53 : decode prog_16_method_1_code 53 = .ok (.return_, 1) := by decide +kernel
theorem d4_0 : decode prog_16_method_3_code 0 = .ok (.lload_n 1, 1) := by decide +kernel
theorem d4_1 : decode prog_16_method_3_code 1 = .ok (.lconst 0, 1) := by decide +kernel
theorem d4_2 : decode prog_16_method_3_code 2 = .ok (.lcmp, 1) := by decide +kernel
theorem d4_3 : decode prog_16_method_3_code 3 = .ok (.ifCond .ge 17, 3) := by decide +kernel
theorem d4_20 : decode prog_16_method_3_code 20 = .ok (.lload_n 1, 1) := by decide +kernel
theorem d4_21 : decode prog_16_method_3_code 21 = .ok (.lconst 0, 1) := by decide +kernel
theorem d4_22 : decode prog_16_method_3_code 22 = .ok (.lcmp, 1) := by decide +kernel
theorem d4_23 : decode prog_16_method_3_code 23 = .ok (.ifCond .ne 5, 3) := by decide +kernel
theorem d4_26 : decode prog_16_method_3_code 26 = .ok (.lconst 0, 1) := by decide +kernel
theorem d4_27 : decode prog_16_method_3_code 27 = .ok (.lreturn, 1) := by decide +kernel
theorem d4_28 : decode prog_16_method_3_code 28 = .ok (.lload_n 1, 1) := by decide +kernel
theorem d4_29 : decode prog_16_method_3_code 29 = .ok (.lconst 1, 1) := by decide +kernel
theorem d4_30 : decode prog_16_method_3_code 30 = .ok (.lsub, 1) := by decide +kernel
theorem d4_31 : decode prog_16_method_3_code 31 = .ok (.aload_n 0, 1) := by decide +kernel
theorem d4_32 : decode prog_16_method_3_code 32 = .ok (.getfield 25, 3) := by decide +kernel
theorem d4_35 : decode prog_16_method_3_code 35 = .ok (.i2l, 1) := by decide +kernel
theorem d4_36 : decode prog_16_method_3_code 36 = .ok (.ldiv, 1) := by decide +kernel
theorem d4_37 : decode prog_16_method_3_code 37 = .ok (.lreturn, 1) := by decide +kernel
theorem pn_2 : plainName "com/example/ashlar_gate/ashlargate/query/PageMaxIndexPinLaw" = true := by first | (simp [plainName, overriddenIn]; done) | decide +kernel
theorem pd_1 : parseMethodDescriptor "(JI)V" = some ⟨[.long, .int], none⟩ := by decide +kernel
theorem pd_2 : parseMethodDescriptor "(J)J" = some ⟨[.long], some .long⟩ := by decide +kernel
theorem ef_c_rec (m : MethodId) (x0 : Addr) : entryFrame m #[(.ref x0)] 1 = mkF m 0 #[.val (.ref x0)] [] := by first | (simp [entryFrame, mkF, argsToLocals, Value.category]; done) | rfl
set_option maxRecDepth 65536 in
set_option maxHeartbeats 40000000 in
theorem c_rec (l : Launch) (Z : State) (a0 : Array Value) (hw : ∀ d ∈ tables_1, d.before a0 Z = true) (a : Addr) (h0 : Heap)  :
    Con l Z (⟨"java/lang/Record", "<init>", "()V"⟩ : MethodName) jdk_30_method_1_code 1 none ({ frames := 1, cells := 0, slots := 0, locals := 12 } : Room) #[(.ref a)] h0 (PQ none h0) := by
  refine Con.intro (plainFor_of_name pn_0) ?_
  intro p e s m below meth c s₁ hx hby hml hrt hlk hZ hown hnm X0 e0
  replace hown : s.vm.findClass "java/lang/Record" = some m.cls := hown
  refine GoOn.cast (ef_c_rec m a) ?_
  show GoOn p e below _ (s₁.setTop (mkF m 0 #[.val (.ref a)] []))
  refine GoOn.step (fun t₀ k₀ => XS.aloadN X0.here hx rfl (hb hby d2_0) rfl rfl k₀) ?_
  show GoOn p e below _ (s₁.setTop (mkF m 1 #[.val (.ref a)] [(.ref a)]))
  obtain ⟨T1, X1, e1, st1⟩ := initO X0 hx hZ hown (hw _ (List.mem_of_getElem? (i := 13) rfl)) (hw _ (List.mem_of_getElem? (i := 14) rfl)) (hw _ (List.mem_of_getElem? (i := 15) rfl)) e0 (g := (mkF m 1 #[.val (.ref a)] [(.ref a)])) rfl (by rw [hml]; rfl) rfl (hb hby d2_1) (by decide) (W := 0) (by show 2 * 0 + _ ≤ _; exact Nat.le_of_eq rfl) (by decide)
  refine GoOn.step st1 ?_
  show GoOn p e below _ (T1.setTop (mkF m 4 #[.val (.ref a)] []))
  exact GoOn.ret0 X1 hx hrt hlk (hb hby d2_4) (by decide) (by decide) (by first | exact ⟨rfl, rfl, rfl⟩ | (rw [e1]; exact ⟨rfl, rfl, rfl⟩))
def PgQ (Z : State) (a : Addr) (i : Int64) (z : Int32) (h0 : Heap) (n0 : Nat) : Option Value → Heap → List Loc → Prop := fun v h L => v = none ∧ Fr n0 L ∧ Keep h0 h [a] ∧ Fld Z h a "com/example/ashlar_gate/ashlargate/query/Page" "pageIndex" "J" (.long i) ∧ Fld Z h a "com/example/ashlar_gate/ashlargate/query/Page" "pageSize" "I" (.int z)
theorem ef_c_pg (m : MethodId) (x0 : Addr) (x1 : Int64) (x2 : Int32) : entryFrame m #[(.ref x0), (.long x1), (.int x2)] 4 = mkF m 0 #[.val (.ref x0), .val (.long x1), .second, .val (.int x2)] [] := by first | (simp [entryFrame, mkF, argsToLocals, Value.category]; done) | rfl
set_option maxRecDepth 65536 in
set_option maxHeartbeats 40000000 in
theorem c_pg (l : Launch) (Z : State) (a0 : Array Value) (hw : ∀ d ∈ tables_1, d.before a0 Z = true) (a : Addr) (i : Int64) (z : Int32) (h0 : Heap) (n0 : Nat) (Z0 : n0 ≤ h0.size) (Ex : Exa Z h0 a "com/example/ashlar_gate/ashlargate/query/Page") (Fi : Fld Z h0 a "com/example/ashlar_gate/ashlargate/query/Page" "pageIndex" "J" (.long (0 : Int64))) (Fs : Fld Z h0 a "com/example/ashlar_gate/ashlargate/query/Page" "pageSize" "I" (.int (0 : Int32))) (ga : n0 ≤ a) (hi : ¬ i < 0) (hz : ¬ z < 1) :
    Con l Z (⟨"com/example/ashlar_gate/ashlargate/query/Page", "<init>", "(JI)V"⟩ : MethodName) prog_16_method_1_code 4 none ({ frames := 2, cells := 0, slots := 0, locals := 24 } : Room) #[(.ref a), (.long i), (.int z)] h0 (PgQ Z a i z h0 n0) := by
  refine Con.intro (plainFor_of_name pn_1) ?_
  intro p e s m below meth c s₁ hx hby hml hrt hlk hZ hown hnm X0 e0
  replace hown : s.vm.findClass "com/example/ashlar_gate/ashlargate/query/Page" = some m.cls := hown
  have N0 := Fr.nil n0
  refine GoOn.cast (ef_c_pg m a i z) ?_
  show GoOn p e below _ (s₁.setTop (mkF m 0 #[.val (.ref a), .val (.long i), .second, .val (.int z)] []))
  have K0 : Keep h0 h0 [a] := Keep.refl _ _
  refine GoOn.step (fun t₀ k₀ => XS.aloadN X0.here hx rfl (hb hby d1_0) rfl rfl k₀) ?_
  show GoOn p e below _ (s₁.setTop (mkF m 1 #[.val (.ref a), .val (.long i), .second, .val (.int z)] [(.ref a)]))
  obtain ⟨_, T2, L2, X2, hQ2, st2⟩ := kCallI X0 hx hZ (a := a) (argsL := []) (rest := []) (c_rec l Z a0 hw a h0) rfl hown (hw _ (List.mem_of_getElem? (i := 8) rfl)) (hw _ (List.mem_of_getElem? (i := 9) rfl)) (hw _ (List.mem_of_getElem? (i := 11) rfl)) (hw _ (List.mem_of_getElem? (i := 12) rfl)) (by decide) e0 (g := (mkF m 1 #[.val (.ref a), .val (.long i), .second, .val (.int z)] [(.ref a)])) rfl (by rw [hml]; rfl) (lenOf pd_0 rfl) rfl (W := 0) (by show 2 * 0 + _ ≤ _; exact Nat.le_of_eq rfl) (hb hby d1_1) (by decide) (by decide) (by decide) (by decide)
  obtain ⟨rfl, rfl, e2⟩ := hQ2
  rw [List.append_nil] at X2
  refine GoOn.step st2 ?_
  show GoOn p e below _ (T2.setTop (mkF m 4 #[.val (.ref a), .val (.long i), .second, .val (.int z)] []))
  refine GoOn.step (fun t₀ k₀ => XS.lloadN X2.here hx rfl (hb hby d1_4) rfl k₀) ?_
  show GoOn p e below _ (T2.setTop (mkF m 5 #[.val (.ref a), .val (.long i), .second, .val (.int z)] [(.long i)]))
  refine GoOn.step (fun t₀ k₀ => XS.lconst X2.here hx rfl (hb hby d1_5) k₀) ?_
  show GoOn p e below _ (T2.setTop (mkF m 6 #[.val (.ref a), .val (.long i), .second, .val (.int z)] [(.long (0 : Int64)), (.long i)]))
  refine GoOn.step (fun t₀ k₀ => XS.lcmp X2.here hx rfl (hb hby d1_6) rfl k₀) ?_
  show GoOn p e below _ (T2.setTop (mkF m 7 #[.val (.ref a), .val (.long i), .second, .val (.int z)] [(.int (lcmpW i (0 : Int64)))]))
  have hf3 : ¬ (i < (0 : Int64)) := hi
  refine GoOn.step (fun t₀ k₀ => XS.ifYes X2.here hx rfl (pc0 := 7) (pc' := 24) rfl (hb hby d1_7) rfl ((if0 _ _).trans (flt (mt (lw_lt _ _).mp hf3)).2.1) (by decide) (by decide) k₀) ?_
  show GoOn p e below _ (T2.setTop (mkF m 24 #[.val (.ref a), .val (.long i), .second, .val (.int z)] []))
  refine GoOn.step (fun t₀ k₀ => XS.iloadN X2.here hx rfl (hb hby d1_24) rfl k₀) ?_
  show GoOn p e below _ (T2.setTop (mkF m 25 #[.val (.ref a), .val (.long i), .second, .val (.int z)] [(.int z)]))
  refine GoOn.step (fun t₀ k₀ => XS.iconst X2.here hx rfl (hb hby d1_25) k₀) ?_
  show GoOn p e below _ (T2.setTop (mkF m 26 #[.val (.ref a), .val (.long i), .second, .val (.int z)] [(.int (1 : Int32)), (.int z)]))
  have hf4 : ¬ (z < (1 : Int32)) := hz
  refine GoOn.step (fun t₀ k₀ => XS.icmpYes X2.here hx rfl (pc0 := 26) (pc' := 43) rfl (hb hby d1_26) rfl (flt hf4).2.1 (by decide) (by decide) k₀) ?_
  show GoOn p e below _ (T2.setTop (mkF m 43 #[.val (.ref a), .val (.long i), .second, .val (.int z)] []))
  refine GoOn.step (fun t₀ k₀ => XS.aloadN X2.here hx rfl (hb hby d1_43) rfl rfl k₀) ?_
  show GoOn p e below _ (T2.setTop (mkF m 44 #[.val (.ref a), .val (.long i), .second, .val (.int z)] [(.ref a)]))
  refine GoOn.step (fun t₀ k₀ => XS.lloadN X2.here hx rfl (hb hby d1_44) rfl k₀) ?_
  show GoOn p e below _ (T2.setTop (mkF m 45 #[.val (.ref a), .val (.long i), .second, .val (.int z)] [(.long i), (.ref a)]))
  obtain ⟨T5, h5, X5, e5, W5, st5⟩ := putF X2 hx hZ hown (host := "") (Or.inl (hw _ (List.mem_of_getElem? (i := 16) rfl))) Via.refl e2 Fi Ex (Or.inr ⟨(hw _ (List.mem_of_getElem? (i := 17) rfl)), rfl, hnm⟩) (hw _ (List.mem_of_getElem? (i := 3) rfl)) (ty := .long) (by decide) rfl rfl (g := (mkF m 45 #[.val (.ref a), .val (.long i), .second, .val (.int z)] [(.long i), (.ref a)])) rfl rfl (hb hby d1_45)
  replace N0 := Fr.snoc X5 N0 ga
  replace Ex := Ex.wr W5
  replace Fi := Fld.same W5 Fi
  replace Fs := Fs.other W5 (Or.inr (slot_ne (Or.inr (hw _ (List.mem_of_getElem? (i := 19) rfl))) (Or.inr (hw _ (List.mem_of_getElem? (i := 17) rfl))) (by decide) (t := .int) (t' := .long) (by decide) (by decide)))
  replace Z0 := Nat.le_trans Z0 (Nat.le_of_eq W5.size.symm)
  replace K0 := K0.wr W5 (Or.inl (by simp))
  refine GoOn.step st5 ?_
  show GoOn p e below _ (T5.setTop (mkF m 48 #[.val (.ref a), .val (.long i), .second, .val (.int z)] []))
  refine GoOn.step (fun t₀ k₀ => XS.aloadN X5.here hx rfl (hb hby d1_48) rfl rfl k₀) ?_
  show GoOn p e below _ (T5.setTop (mkF m 49 #[.val (.ref a), .val (.long i), .second, .val (.int z)] [(.ref a)]))
  refine GoOn.step (fun t₀ k₀ => XS.iloadN X5.here hx rfl (hb hby d1_49) rfl k₀) ?_
  show GoOn p e below _ (T5.setTop (mkF m 50 #[.val (.ref a), .val (.long i), .second, .val (.int z)] [(.int z), (.ref a)]))
  obtain ⟨T6, h6, X6, e6, W6, st6⟩ := putF X5 hx hZ hown (host := "") (Or.inl (hw _ (List.mem_of_getElem? (i := 18) rfl))) Via.refl e5 Fs Ex (Or.inr ⟨(hw _ (List.mem_of_getElem? (i := 19) rfl)), rfl, hnm⟩) (hw _ (List.mem_of_getElem? (i := 3) rfl)) (ty := .int) (by decide) rfl rfl (g := (mkF m 50 #[.val (.ref a), .val (.long i), .second, .val (.int z)] [(.int z), (.ref a)])) rfl rfl (hb hby d1_50)
  replace N0 := Fr.snoc X6 N0 ga
  replace Ex := Ex.wr W6
  replace Fi := Fi.other W6 (Or.inr (slot_ne (Or.inr (hw _ (List.mem_of_getElem? (i := 17) rfl))) (Or.inr (hw _ (List.mem_of_getElem? (i := 19) rfl))) (by decide) (t := .long) (t' := .int) (by decide) (by decide)))
  replace Fs := Fld.same W6 Fs
  replace Z0 := Nat.le_trans Z0 (Nat.le_of_eq W6.size.symm)
  replace K0 := K0.wr W6 (Or.inl (by simp))
  refine GoOn.step st6 ?_
  show GoOn p e below _ (T6.setTop (mkF m 53 #[.val (.ref a), .val (.long i), .second, .val (.int z)] []))
  exact GoOn.ret0 X6 hx hrt hlk (hb hby d1_53) (by decide) (by decide) (by first | exact ⟨rfl, N0, K0, Fi, Fs⟩ | (rw [e6]; exact ⟨rfl, N0, K0, Fi, Fs⟩))
theorem pl_div (x e : Int64) (hx : 0 ≤ x.toInt) (he : 0 < e.toInt) : (x / e).toInt = x.toInt / e.toInt := by
  have hne : e ≠ -1 := fun h => by subst h; revert he; decide
  rw [Int64.toInt_div_of_ne_right x e hne]
  exact Int.tdiv_eq_ediv_of_nonneg hx
theorem pl_ne (e : Int64) (h : 0 < e.toInt) : e ≠ 0 := fun q => by subst q; revert h; decide
def maxV (n : Int64) (z : Int32) : Int64 := if n = 0 then 0 else (n - 1) / z.toInt64
theorem pl_max (n : Int64) (z : Int32) (hn : 0 ≤ n.toInt) (hn0 : ¬ n = 0) (hz : 1 ≤ z.toInt) (k : Int64) (hk : maxV n z = k) :
    ¬ k < 0 ∧ ¬ ((9223372036854775807 : Int64) / z.toInt64) < k ∧ ¬ (n - 1) < k * z.toInt64 ∧ (n - 1) - k * z.toInt64 < z.toInt64 := by
  rw [maxV, if_neg hn0] at hk
  have hz1 := c_i2l z; have hzr := rng32 z; have hnr := rng64 n
  have k0 : (0 : Int64).toInt = 0 := by decide
  have k1 : (1 : Int64).toInt = 1 := by decide
  have kM : (9223372036854775807 : Int64).toInt = 9223372036854775807 := by decide
  have hnp : n.toInt ≠ 0 := fun q => hn0 (Int64.toInt_inj.mp (by rw [q, k0]))
  have f1 : (n - 1).toInt = n.toInt - 1 := by have := c_lsub n 1; have := rng64 (n - 1); omega
  have f2 := pl_div (n - 1) z.toInt64 (by omega) (by omega)
  rw [hk, f1, hz1] at f2
  have f3 := pl_div 9223372036854775807 z.toInt64 (by omega) (by omega)
  rw [kM, hz1] at f3
  have g1 : k.toInt * z.toInt ≤ n.toInt - 1 := by rw [f2]; exact Int.ediv_mul_le _ (by omega)
  have g2 : n.toInt - 1 < k.toInt * z.toInt + z.toInt := by
    have := Int.lt_ediv_add_one_mul_self (n.toInt - 1) (b := z.toInt) (by omega)
    rw [← f2, Int.add_mul, Int.one_mul] at this; exact this
  have g3 : 0 ≤ k.toInt := by rw [f2]; exact Int.ediv_nonneg (by omega) (by omega)
  have g4 : k.toInt ≤ 9223372036854775807 / z.toInt := by rw [f2]; exact Int.ediv_le_ediv (by omega) (by omega)
  have g5 : 0 ≤ k.toInt * z.toInt := Int.mul_nonneg g3 (by omega)
  have g6 : (k * z.toInt64).toInt = k.toInt * z.toInt := by
    have := c_lmul k z.toInt64; rw [hz1] at this; have := rng64 (k * z.toInt64); omega
  have g7 := c_lsub (n - 1) (k * z.toInt64); have g8 := rng64 ((n - 1) - k * z.toInt64)
  simp only [Int64.lt_iff_toInt_lt, k0, f3]
  refine ⟨by omega, by omega, by omega, by omega⟩
theorem ef_c_max (m : MethodId) (x0 : Addr) (x1 : Int64) : entryFrame m #[(.ref x0), (.long x1)] 3 = mkF m 0 #[.val (.ref x0), .val (.long x1), .second] [] := by first | (simp [entryFrame, mkF, argsToLocals, Value.category]; done) | rfl
set_option maxRecDepth 65536 in
set_option maxHeartbeats 40000000 in
theorem c_max (l : Launch) (Z : State) (a0 : Array Value) (hw : ∀ d ∈ tables_1, d.before a0 Z = true) (a : Addr) (n : Int64) (z : Int32) (h0 : Heap) (hn : ¬ n < 0) (hz : 1 ≤ z.toInt) (F : Fld Z h0 a "com/example/ashlar_gate/ashlargate/query/Page" "pageSize" "I" (.int z)) :
    Con l Z (⟨"com/example/ashlar_gate/ashlargate/query/Page", "maxIndex", "(J)J"⟩ : MethodName) prog_16_method_3_code 3 (some .long) ({ frames := 0, cells := 0, slots := 0, locals := 0 } : Room) #[(.ref a), (.long n)] h0 (PQ (some (.long (maxV n z))) h0) := by
  refine Con.intro (plainFor_of_name pn_1) ?_
  intro p e s m below meth c s₁ hx hby hml hrt hlk hZ hown hnm X0 e0
  replace hown : s.vm.findClass "com/example/ashlar_gate/ashlargate/query/Page" = some m.cls := hown
  refine GoOn.cast (ef_c_max m a n) ?_
  show GoOn p e below _ (s₁.setTop (mkF m 0 #[.val (.ref a), .val (.long n), .second] []))
  have hz1 := c_i2l z
  refine GoOn.step (fun t₀ k₀ => XS.lloadN X0.here hx rfl (hb hby d4_0) rfl k₀) ?_
  show GoOn p e below _ (s₁.setTop (mkF m 1 #[.val (.ref a), .val (.long n), .second] [(.long n)]))
  refine GoOn.step (fun t₀ k₀ => XS.lconst X0.here hx rfl (hb hby d4_1) k₀) ?_
  show GoOn p e below _ (s₁.setTop (mkF m 2 #[.val (.ref a), .val (.long n), .second] [(.long (0 : Int64)), (.long n)]))
  refine GoOn.step (fun t₀ k₀ => XS.lcmp X0.here hx rfl (hb hby d4_2) rfl k₀) ?_
  show GoOn p e below _ (s₁.setTop (mkF m 3 #[.val (.ref a), .val (.long n), .second] [(.int (lcmpW n (0 : Int64)))]))
  have hf7 : ¬ (n < (0 : Int64)) := hn
  refine GoOn.step (fun t₀ k₀ => XS.ifYes X0.here hx rfl (pc0 := 3) (pc' := 20) rfl (hb hby d4_3) rfl ((if0 _ _).trans (flt (mt (lw_lt _ _).mp hf7)).2.1) (by decide) (by decide) k₀) ?_
  show GoOn p e below _ (s₁.setTop (mkF m 20 #[.val (.ref a), .val (.long n), .second] []))
  refine GoOn.step (fun t₀ k₀ => XS.lloadN X0.here hx rfl (hb hby d4_20) rfl k₀) ?_
  show GoOn p e below _ (s₁.setTop (mkF m 21 #[.val (.ref a), .val (.long n), .second] [(.long n)]))
  refine GoOn.step (fun t₀ k₀ => XS.lconst X0.here hx rfl (hb hby d4_21) k₀) ?_
  show GoOn p e below _ (s₁.setTop (mkF m 22 #[.val (.ref a), .val (.long n), .second] [(.long (0 : Int64)), (.long n)]))
  refine GoOn.step (fun t₀ k₀ => XS.lcmp X0.here hx rfl (hb hby d4_22) rfl k₀) ?_
  show GoOn p e below _ (s₁.setTop (mkF m 23 #[.val (.ref a), .val (.long n), .second] [(.int (lcmpW n (0 : Int64)))]))
  by_cases hc : n = (0 : Int64)
  · refine GoOn.step (fun t₀ k₀ => XS.ifNo X0.here hx rfl (hb hby d4_23) rfl ((if0 _ _).trans (teq ((lw_eq _ _).mpr hc)).2) k₀) ?_
    show GoOn p e below _ (s₁.setTop (mkF m 26 #[.val (.ref a), .val (.long n), .second] []))
    refine GoOn.step (fun t₀ k₀ => XS.lconst X0.here hx rfl (hb hby d4_26) k₀) ?_
    show GoOn p e below _ (s₁.setTop (mkF m 27 #[.val (.ref a), .val (.long n), .second] [(.long (0 : Int64))]))
    exact GoOn.retJ X0 hx hrt hlk (hb hby d4_27) (by decide) (by decide) (by first | exact ⟨by rw [maxV, if_pos hc], rfl, rfl⟩ | (rw [e0]; exact ⟨by rw [maxV, if_pos hc], rfl, rfl⟩))
  · refine GoOn.step (fun t₀ k₀ => XS.ifYes X0.here hx rfl (pc0 := 23) (pc' := 28) rfl (hb hby d4_23) rfl ((if0 _ _).trans (feq (mt (lw_eq _ _).mp hc)).2) (by decide) (by decide) k₀) ?_
    show GoOn p e below _ (s₁.setTop (mkF m 28 #[.val (.ref a), .val (.long n), .second] []))
    refine GoOn.step (fun t₀ k₀ => XS.lloadN X0.here hx rfl (hb hby d4_28) rfl k₀) ?_
    show GoOn p e below _ (s₁.setTop (mkF m 29 #[.val (.ref a), .val (.long n), .second] [(.long n)]))
    refine GoOn.step (fun t₀ k₀ => XS.lconst X0.here hx rfl (hb hby d4_29) k₀) ?_
    show GoOn p e below _ (s₁.setTop (mkF m 30 #[.val (.ref a), .val (.long n), .second] [(.long (1 : Int64)), (.long n)]))
    refine GoOn.step (fun t₀ k₀ => XS.lsub X0.here hx rfl (hb hby d4_30) rfl k₀) ?_
    show GoOn p e below _ (s₁.setTop (mkF m 31 #[.val (.ref a), .val (.long n), .second] [(.long (n - (1 : Int64)))]))
    refine GoOn.step (fun t₀ k₀ => XS.aloadN X0.here hx rfl (hb hby d4_31) rfl rfl k₀) ?_
    show GoOn p e below _ (s₁.setTop (mkF m 32 #[.val (.ref a), .val (.long n), .second] [(.ref a), (.long (n - (1 : Int64)))]))
    obtain ⟨T8, X8, e8, st8⟩ := getF X0 hx hZ hown (host := "") (Or.inl (hw _ (List.mem_of_getElem? (i := 18) rfl))) Via.refl e0 F (g := (mkF m 32 #[.val (.ref a), .val (.long n), .second] [(.ref a), (.long (n - (1 : Int64)))])) rfl rfl (hb hby d4_32)
    refine GoOn.step st8 ?_
    show GoOn p e below _ (T8.setTop (mkF m 35 #[.val (.ref a), .val (.long n), .second] [(.int z), (.long (n - (1 : Int64)))]))
    refine GoOn.step (fun t₀ k₀ => XS.i2l X8.here hx rfl (hb hby d4_35) rfl k₀) ?_
    show GoOn p e below _ (T8.setTop (mkF m 36 #[.val (.ref a), .val (.long n), .second] [(.long (z.toInt64)), (.long (n - (1 : Int64)))]))
    refine GoOn.step (fun t₀ k₀ => XS.ldiv X8.here hx rfl (hb hby d4_36) rfl (pl_ne _ (by omega)) k₀) ?_
    show GoOn p e below _ (T8.setTop (mkF m 37 #[.val (.ref a), .val (.long n), .second] [(.long ((n - (1 : Int64)) / (z.toInt64)))]))
    exact GoOn.retJ X8 hx hrt hlk (hb hby d4_37) (by decide) (by decide) (by first | exact ⟨by rw [maxV, if_neg hc], rfl, rfl⟩ | (rw [e8]; exact ⟨by rw [maxV, if_neg hc], rfl, rfl⟩))
theorem ef_law_ok (m : MethodId) (x0 : Int64) (x1 : Int32) (x2 : Int64) : entryFrame m #[(.long x0), (.int x1), (.long x2)] maxLocals = mkF m 0 #[.val (.long x0), .second, .val (.int x1), .val (.long x2), .second, .unset, .unset, .unset, .unset, .unset, .unset, .unset, .unset, .unset, .unset, .unset, .unset] [] := by first | (simp [entryFrame, mkF, argsToLocals, Value.category, maxLocals]; done) | rfl
set_option maxRecDepth 65536 in
set_option maxHeartbeats 40000000 in
theorem law_ok (l : Launch) (Z : State) (a0 : Array Value) (hw : ∀ d ∈ tables_1, d.before a0 Z = true) (q0 : Int64) (q1 : Int32) (q2 : Int64) (h0 : Heap) (n0 : Nat) (Z0 : n0 ≤ h0.size)  :
    Con l Z x code maxLocals ret room_1 #[(.long q0), (.int q1), (.long q2)] h0 (LQ n0) := by
  refine Con.intro (plainFor_of_name pn_2) ?_
  intro p e s m below meth c s₁ hx hby hml hrt hlk hZ hown hnm X0 e0
  replace hown : s.vm.findClass "com/example/ashlar_gate/ashlargate/query/PageMaxIndexPinLaw" = some m.cls := hown
  have N0 := Fr.nil n0
  refine GoOn.cast (ef_law_ok m q0 q1 q2) ?_
  show GoOn p e below _ (s₁.setTop (mkF m 0 #[.val (.long q0), .second, .val (.int q1), .val (.long q2), .second, .unset, .unset, .unset, .unset, .unset, .unset, .unset, .unset, .unset, .unset, .unset, .unset] []))
  refine GoOn.step (fun t₀ k₀ => XS.lloadN X0.here hx rfl (hb hby at_0) rfl k₀) ?_
  show GoOn p e below _ (s₁.setTop (mkF m 1 #[.val (.long q0), .second, .val (.int q1), .val (.long q2), .second, .unset, .unset, .unset, .unset, .unset, .unset, .unset, .unset, .unset, .unset, .unset, .unset] [(.long q0)]))
  refine GoOn.step (fun t₀ k₀ => X0.ldc2Long hx hown (mvT hZ (hw _ (List.mem_of_getElem? (i := 0) rfl))) (g := (mkF m 1 #[.val (.long q0), .second, .val (.int q1), .val (.long q2), .second, .unset, .unset, .unset, .unset, .unset, .unset, .unset, .unset, .unset, .unset, .unset, .unset] [(.long q0)])) rfl (hb hby at_1) t₀ k₀) ?_
  show GoOn p e below _ (s₁.setTop (mkF m 4 #[.val (.long q0), .second, .val (.int q1), .val (.long q2), .second, .unset, .unset, .unset, .unset, .unset, .unset, .unset, .unset, .unset, .unset, .unset, .unset] [(.long (9223372036854775807 : Int64)), (.long q0)]))
  refine GoOn.step (fun t₀ k₀ => XS.land X0.here hx rfl (hb hby at_4) rfl k₀) ?_
  show GoOn p e below _ (s₁.setTop (mkF m 5 #[.val (.long q0), .second, .val (.int q1), .val (.long q2), .second, .unset, .unset, .unset, .unset, .unset, .unset, .unset, .unset, .unset, .unset, .unset, .unset] [(.long (q0 &&& (9223372036854775807 : Int64)))]))
  have hm : (q0 &&& (9223372036854775807 : Int64)).toInt = q0.toInt % 9223372036854775808 := c_maskL q0 9223372036854775807 63 (by decide) (by decide)
  generalize hv : (q0 &&& (9223372036854775807 : Int64)) = n
  have hvI := congrArg Int64.toInt hv
  have hn : 0 ≤ n.toInt := by omega
  have hn' : ¬ n < 0 := by simp only [Int64.lt_iff_toInt_lt, Int64.le_iff_toInt_le, Int64.reduceToInt]; omega
  refine GoOn.step (fun t₀ k₀ => XS.lstore X0.here hx rfl (hb hby at_5) rfl (l' := #[.val (.long q0), .second, .val (.int q1), .val (.long q2), .second, .val (.long n), .second, .unset, .unset, .unset, .unset, .unset, .unset, .unset, .unset, .unset, .unset]) rfl k₀) ?_
  show GoOn p e below _ (s₁.setTop (mkF m 7 #[.val (.long q0), .second, .val (.int q1), .val (.long q2), .second, .val (.long n), .second, .unset, .unset, .unset, .unset, .unset, .unset, .unset, .unset, .unset, .unset] []))
  refine GoOn.step (fun t₀ k₀ => XS.iloadN X0.here hx rfl (hb hby at_7) rfl k₀) ?_
  show GoOn p e below _ (s₁.setTop (mkF m 8 #[.val (.long q0), .second, .val (.int q1), .val (.long q2), .second, .val (.long n), .second, .unset, .unset, .unset, .unset, .unset, .unset, .unset, .unset, .unset, .unset] [(.int q1)]))
  refine GoOn.step (fun t₀ k₀ => X0.ldcInt hx hown (mvT hZ (hw _ (List.mem_of_getElem? (i := 1) rfl))) (g := (mkF m 8 #[.val (.long q0), .second, .val (.int q1), .val (.long q2), .second, .val (.long n), .second, .unset, .unset, .unset, .unset, .unset, .unset, .unset, .unset, .unset, .unset] [(.int q1)])) rfl (hb hby at_8) t₀ k₀) ?_
  show GoOn p e below _ (s₁.setTop (mkF m 10 #[.val (.long q0), .second, .val (.int q1), .val (.long q2), .second, .val (.long n), .second, .unset, .unset, .unset, .unset, .unset, .unset, .unset, .unset, .unset, .unset] [(.int (2147483647 : Int32)), (.int q1)]))
  refine GoOn.step (fun t₀ k₀ => XS.iand X0.here hx rfl (hb hby at_10) rfl k₀) ?_
  show GoOn p e below _ (s₁.setTop (mkF m 11 #[.val (.long q0), .second, .val (.int q1), .val (.long q2), .second, .val (.long n), .second, .unset, .unset, .unset, .unset, .unset, .unset, .unset, .unset, .unset, .unset] [(.int (q1 &&& (2147483647 : Int32)))]))
  have hm1 : (q1 &&& (2147483647 : Int32)).toInt = q1.toInt % 2147483648 := c_mask q1 2147483647 31 (by decide) (by decide)
  generalize hv1 : (q1 &&& (2147483647 : Int32)) = z0
  have hv1I := congrArg Int32.toInt hv1
  refine GoOn.step (fun t₀ k₀ => XS.istore X0.here hx rfl (hb hby at_11) rfl (l' := #[.val (.long q0), .second, .val (.int q1), .val (.long q2), .second, .val (.long n), .second, .val (.int z0), .unset, .unset, .unset, .unset, .unset, .unset, .unset, .unset, .unset]) rfl k₀) ?_
  show GoOn p e below _ (s₁.setTop (mkF m 13 #[.val (.long q0), .second, .val (.int q1), .val (.long q2), .second, .val (.long n), .second, .val (.int z0), .unset, .unset, .unset, .unset, .unset, .unset, .unset, .unset, .unset] []))
  refine GoOn.step (fun t₀ k₀ => XS.iload X0.here hx rfl (hb hby at_13) rfl k₀) ?_
  show GoOn p e below _ (s₁.setTop (mkF m 15 #[.val (.long q0), .second, .val (.int q1), .val (.long q2), .second, .val (.long n), .second, .val (.int z0), .unset, .unset, .unset, .unset, .unset, .unset, .unset, .unset, .unset] [(.int z0)]))
  have J : ∀ (z : Int32) (_ : 1 ≤ z.toInt), GoOn p e below (EndQ s room_1 (LQ n0)) (s₁.setTop (mkF m 21 #[.val (.long q0), .second, .val (.int q1), .val (.long q2), .second, .val (.long n), .second, .val (.int z), .unset, .unset, .unset, .unset, .unset, .unset, .unset, .unset, .unset] [])) := by
    intro z hz
    refine GoOn.step (fun t₀ k₀ => XS.lloadN X0.here hx rfl (hb hby at_21) rfl k₀) ?_
    show GoOn p e below _ (s₁.setTop (mkF m 22 #[.val (.long q0), .second, .val (.int q1), .val (.long q2), .second, .val (.long n), .second, .val (.int z), .unset, .unset, .unset, .unset, .unset, .unset, .unset, .unset, .unset] [(.long q2)]))
    refine GoOn.step (fun t₀ k₀ => X0.ldc2Long hx hown (mvT hZ (hw _ (List.mem_of_getElem? (i := 0) rfl))) (g := (mkF m 22 #[.val (.long q0), .second, .val (.int q1), .val (.long q2), .second, .val (.long n), .second, .val (.int z), .unset, .unset, .unset, .unset, .unset, .unset, .unset, .unset, .unset] [(.long q2)])) rfl (hb hby at_22) t₀ k₀) ?_
    show GoOn p e below _ (s₁.setTop (mkF m 25 #[.val (.long q0), .second, .val (.int q1), .val (.long q2), .second, .val (.long n), .second, .val (.int z), .unset, .unset, .unset, .unset, .unset, .unset, .unset, .unset, .unset] [(.long (9223372036854775807 : Int64)), (.long q2)]))
    refine GoOn.step (fun t₀ k₀ => XS.land X0.here hx rfl (hb hby at_25) rfl k₀) ?_
    show GoOn p e below _ (s₁.setTop (mkF m 26 #[.val (.long q0), .second, .val (.int q1), .val (.long q2), .second, .val (.long n), .second, .val (.int z), .unset, .unset, .unset, .unset, .unset, .unset, .unset, .unset, .unset] [(.long (q2 &&& (9223372036854775807 : Int64)))]))
    have hm2 : (q2 &&& (9223372036854775807 : Int64)).toInt = q2.toInt % 9223372036854775808 := c_maskL q2 9223372036854775807 63 (by decide) (by decide)
    generalize hv2 : (q2 &&& (9223372036854775807 : Int64)) = i
    have hv2I := congrArg Int64.toInt hv2
    have hi : ¬ i < 0 := by simp only [Int64.lt_iff_toInt_lt, Int64.le_iff_toInt_le, Int64.reduceToInt]; omega
    have hz' : ¬ z < 1 := by simp only [Int32.lt_iff_toInt_lt, Int32.le_iff_toInt_le, Int32.reduceToInt]; omega
    refine GoOn.step (fun t₀ k₀ => XS.lstore X0.here hx rfl (hb hby at_26) rfl (l' := #[.val (.long q0), .second, .val (.int q1), .val (.long q2), .second, .val (.long n), .second, .val (.int z), .val (.long i), .second, .unset, .unset, .unset, .unset, .unset, .unset, .unset]) rfl k₀) ?_
    show GoOn p e below _ (s₁.setTop (mkF m 28 #[.val (.long q0), .second, .val (.int q1), .val (.long q2), .second, .val (.long n), .second, .val (.int z), .val (.long i), .second, .unset, .unset, .unset, .unset, .unset, .unset, .unset] []))
    obtain ⟨T9, h9, X9, e9, E9, A9, D9, -, st9⟩ := newO X0 hx hZ hown (hw _ (List.mem_of_getElem? (i := 2) rfl)) (hw _ (List.mem_of_getElem? (i := 3) rfl)) (hw _ (List.mem_of_getElem? (i := 4) rfl)) e0 (g := (mkF m 28 #[.val (.long q0), .second, .val (.int q1), .val (.long q2), .second, .val (.long n), .second, .val (.int z), .val (.long i), .second, .unset, .unset, .unset, .unset, .unset, .unset, .unset] [])) rfl (hb hby at_28) (by decide) (by decide)
    obtain ⟨b, g9⟩ : ∃ z, z = h0.size := ⟨_, rfl⟩
    rw [← g9] at A9 D9 st9
    have le_b : n0 ≤ b := by rw [g9]; exact Z0
    replace Z0 := Nat.le_trans Z0 E9.1
    have Ex_b : Exa Z h9 b "com/example/ashlar_gate/ashlargate/query/Page" := A9
    have F_pageIndex_b : Fld Z h9 b "com/example/ashlar_gate/ashlargate/query/Page" "pageIndex" "J" (.long (0 : Int64)) := D9 (Or.inr (hw _ (List.mem_of_getElem? (i := 17) rfl))) (ty := .long) (by decide)
    have F_pageSize_b : Fld Z h9 b "com/example/ashlar_gate/ashlargate/query/Page" "pageSize" "I" (.int (0 : Int32)) := D9 (Or.inr (hw _ (List.mem_of_getElem? (i := 19) rfl))) (ty := .int) (by decide)
    refine GoOn.step st9 ?_
    show GoOn p e below _ (T9.setTop (mkF m 31 #[.val (.long q0), .second, .val (.int q1), .val (.long q2), .second, .val (.long n), .second, .val (.int z), .val (.long i), .second, .unset, .unset, .unset, .unset, .unset, .unset, .unset] [(.ref b)]))
    refine GoOn.step (fun t₀ k₀ => XS.dup X9.here hx rfl (hb hby at_31) rfl rfl k₀) ?_
    show GoOn p e below _ (T9.setTop (mkF m 32 #[.val (.long q0), .second, .val (.int q1), .val (.long q2), .second, .val (.long n), .second, .val (.int z), .val (.long i), .second, .unset, .unset, .unset, .unset, .unset, .unset, .unset] [(.ref b), (.ref b)]))
    refine GoOn.step (fun t₀ k₀ => XS.lload X9.here hx rfl (hb hby at_32) rfl k₀) ?_
    show GoOn p e below _ (T9.setTop (mkF m 34 #[.val (.long q0), .second, .val (.int q1), .val (.long q2), .second, .val (.long n), .second, .val (.int z), .val (.long i), .second, .unset, .unset, .unset, .unset, .unset, .unset, .unset] [(.long i), (.ref b), (.ref b)]))
    refine GoOn.step (fun t₀ k₀ => XS.iload X9.here hx rfl (hb hby at_34) rfl k₀) ?_
    show GoOn p e below _ (T9.setTop (mkF m 36 #[.val (.long q0), .second, .val (.int q1), .val (.long q2), .second, .val (.long n), .second, .val (.int z), .val (.long i), .second, .unset, .unset, .unset, .unset, .unset, .unset, .unset] [(.int z), (.long i), (.ref b), (.ref b)]))
    obtain ⟨_, T10, L10, X10, hQ10, st10⟩ := kCallI X9 hx hZ (a := b) (argsL := [(.long i), (.int z)]) (rest := [(.ref b)]) (c_pg l Z a0 hw b i z h9 n0 Z0 Ex_b F_pageIndex_b F_pageSize_b le_b hi hz') rfl hown (hw _ (List.mem_of_getElem? (i := 5) rfl)) (hw _ (List.mem_of_getElem? (i := 6) rfl)) (hw _ (List.mem_of_getElem? (i := 4) rfl)) (hw _ (List.mem_of_getElem? (i := 7) rfl)) (by decide) e9 (g := (mkF m 36 #[.val (.long q0), .second, .val (.int q1), .val (.long q2), .second, .val (.long n), .second, .val (.int z), .val (.long i), .second, .unset, .unset, .unset, .unset, .unset, .unset, .unset] [(.int z), (.long i), (.ref b), (.ref b)])) rfl (by rw [hml]; rfl) (lenOf pd_1 rfl) rfl (W := 1) (by show 2 * 0 + _ ≤ _; exact Nat.le_of_eq rfl) (hb hby at_36) (by decide) (by decide) (by decide) (by decide)
    obtain ⟨rfl, N10, K10, Fi, Fs⟩ := hQ10
    replace N0 := Fr.app N0 N10
    replace Ex_b := Ex_b.keep K10
    clear F_pageIndex_b
    clear F_pageSize_b
    replace Z0 := Nat.le_trans Z0 K10.1
    refine GoOn.step st10 ?_
    show GoOn p e below _ (T10.setTop (mkF m 39 #[.val (.long q0), .second, .val (.int q1), .val (.long q2), .second, .val (.long n), .second, .val (.int z), .val (.long i), .second, .unset, .unset, .unset, .unset, .unset, .unset, .unset] [(.ref b)]))
    refine GoOn.step (fun t₀ k₀ => XS.astore X10.here hx rfl (hb hby at_39) rfl rfl (l' := #[.val (.long q0), .second, .val (.int q1), .val (.long q2), .second, .val (.long n), .second, .val (.int z), .val (.long i), .second, .val (.ref b), .unset, .unset, .unset, .unset, .unset, .unset]) rfl k₀) ?_
    show GoOn p e below _ (T10.setTop (mkF m 41 #[.val (.long q0), .second, .val (.int q1), .val (.long q2), .second, .val (.long n), .second, .val (.int z), .val (.long i), .second, .val (.ref b), .unset, .unset, .unset, .unset, .unset, .unset] []))
    refine GoOn.step (fun t₀ k₀ => XS.aload X10.here hx rfl (hb hby at_41) rfl rfl k₀) ?_
    show GoOn p e below _ (T10.setTop (mkF m 43 #[.val (.long q0), .second, .val (.int q1), .val (.long q2), .second, .val (.long n), .second, .val (.int z), .val (.long i), .second, .val (.ref b), .unset, .unset, .unset, .unset, .unset, .unset] [(.ref b)]))
    refine GoOn.step (fun t₀ k₀ => XS.lload X10.here hx rfl (hb hby at_43) rfl k₀) ?_
    show GoOn p e below _ (T10.setTop (mkF m 45 #[.val (.long q0), .second, .val (.int q1), .val (.long q2), .second, .val (.long n), .second, .val (.int z), .val (.long i), .second, .val (.ref b), .unset, .unset, .unset, .unset, .unset, .unset] [(.long n), (.ref b)]))
    obtain ⟨_, T11, L11, X11, hQ11, st11⟩ := kCallV X10 hx hZ (a := b) (argsL := [(.long n)]) (rest := []) (c_max l Z a0 hw b n z _ hn' hz Fs) hown (hw _ (List.mem_of_getElem? (i := 20) rfl)) (hw _ (List.mem_of_getElem? (i := 21) rfl)) (notFace_of_selects (args := #[]) (mvT hZ (hw _ (List.mem_of_getElem? (i := 23) rfl)))) (hw _ (List.mem_of_getElem? (i := 23) rfl)) (hw _ (List.mem_of_getElem? (i := 22) rfl)) (hw _ (List.mem_of_getElem? (i := 4) rfl)) (hw _ (List.mem_of_getElem? (i := 24) rfl)) (by decide) rfl Ex_b (g := (mkF m 45 #[.val (.long q0), .second, .val (.int q1), .val (.long q2), .second, .val (.long n), .second, .val (.int z), .val (.long i), .second, .val (.ref b), .unset, .unset, .unset, .unset, .unset, .unset] [(.long n), (.ref b)])) rfl (by rw [hml]; rfl) (lenOf pd_2 rfl) rfl (W := 0) (by show 2 * 0 + _ ≤ _; exact Nat.le_of_eq rfl) (hb hby at_45) (by decide) (by decide) (by decide) (by decide)
    obtain ⟨rfl, rfl, e11⟩ := hQ11
    rw [List.append_nil] at X11
    refine GoOn.step st11 ?_
    show GoOn p e below _ (T11.setTop (mkF m 48 #[.val (.long q0), .second, .val (.int q1), .val (.long q2), .second, .val (.long n), .second, .val (.int z), .val (.long i), .second, .val (.ref b), .unset, .unset, .unset, .unset, .unset, .unset] [(.long (maxV n z))]))
    generalize hk : (maxV n z) = k
    have hkI := congrArg Int64.toInt hk
    refine GoOn.step (fun t₀ k₀ => XS.lstore X11.here hx rfl (hb hby at_48) rfl (l' := #[.val (.long q0), .second, .val (.int q1), .val (.long q2), .second, .val (.long n), .second, .val (.int z), .val (.long i), .second, .val (.ref b), .val (.long k), .second, .unset, .unset, .unset, .unset]) rfl k₀) ?_
    show GoOn p e below _ (T11.setTop (mkF m 50 #[.val (.long q0), .second, .val (.int q1), .val (.long q2), .second, .val (.long n), .second, .val (.int z), .val (.long i), .second, .val (.ref b), .val (.long k), .second, .unset, .unset, .unset, .unset] []))
    refine GoOn.step (fun t₀ k₀ => XS.lload X11.here hx rfl (hb hby at_50) rfl k₀) ?_
    show GoOn p e below _ (T11.setTop (mkF m 52 #[.val (.long q0), .second, .val (.int q1), .val (.long q2), .second, .val (.long n), .second, .val (.int z), .val (.long i), .second, .val (.ref b), .val (.long k), .second, .unset, .unset, .unset, .unset] [(.long n)]))
    refine GoOn.step (fun t₀ k₀ => XS.lconst X11.here hx rfl (hb hby at_52) k₀) ?_
    show GoOn p e below _ (T11.setTop (mkF m 53 #[.val (.long q0), .second, .val (.int q1), .val (.long q2), .second, .val (.long n), .second, .val (.int z), .val (.long i), .second, .val (.ref b), .val (.long k), .second, .unset, .unset, .unset, .unset] [(.long (0 : Int64)), (.long n)]))
    refine GoOn.step (fun t₀ k₀ => XS.lcmp X11.here hx rfl (hb hby at_53) rfl k₀) ?_
    show GoOn p e below _ (T11.setTop (mkF m 54 #[.val (.long q0), .second, .val (.int q1), .val (.long q2), .second, .val (.long n), .second, .val (.int z), .val (.long i), .second, .val (.ref b), .val (.long k), .second, .unset, .unset, .unset, .unset] [(.int (lcmpW n (0 : Int64)))]))
    by_cases hn0 : n = (0 : Int64)
    · refine GoOn.step (fun t₀ k₀ => XS.ifNo X11.here hx rfl (hb hby at_54) rfl ((if0 _ _).trans (teq ((lw_eq _ _).mpr hn0)).2) k₀) ?_
      show GoOn p e below _ (T11.setTop (mkF m 57 #[.val (.long q0), .second, .val (.int q1), .val (.long q2), .second, .val (.long n), .second, .val (.int z), .val (.long i), .second, .val (.ref b), .val (.long k), .second, .unset, .unset, .unset, .unset] []))
      refine GoOn.step (fun t₀ k₀ => XS.lload X11.here hx rfl (hb hby at_57) rfl k₀) ?_
      show GoOn p e below _ (T11.setTop (mkF m 59 #[.val (.long q0), .second, .val (.int q1), .val (.long q2), .second, .val (.long n), .second, .val (.int z), .val (.long i), .second, .val (.ref b), .val (.long k), .second, .unset, .unset, .unset, .unset] [(.long k)]))
      refine GoOn.step (fun t₀ k₀ => XS.lconst X11.here hx rfl (hb hby at_59) k₀) ?_
      show GoOn p e below _ (T11.setTop (mkF m 60 #[.val (.long q0), .second, .val (.int q1), .val (.long q2), .second, .val (.long n), .second, .val (.int z), .val (.long i), .second, .val (.ref b), .val (.long k), .second, .unset, .unset, .unset, .unset] [(.long (0 : Int64)), (.long k)]))
      refine GoOn.step (fun t₀ k₀ => XS.lcmp X11.here hx rfl (hb hby at_60) rfl k₀) ?_
      show GoOn p e below _ (T11.setTop (mkF m 61 #[.val (.long q0), .second, .val (.int q1), .val (.long q2), .second, .val (.long n), .second, .val (.int z), .val (.long i), .second, .val (.ref b), .val (.long k), .second, .unset, .unset, .unset, .unset] [(.int (lcmpW k (0 : Int64)))]))
      have hf12 : k = (0 : Int64) := (by rw [← hk, maxV, if_pos hn0])
      refine GoOn.step (fun t₀ k₀ => XS.ifNo X11.here hx rfl (hb hby at_61) rfl ((if0 _ _).trans (teq ((lw_eq _ _).mpr hf12)).2) k₀) ?_
      show GoOn p e below _ (T11.setTop (mkF m 64 #[.val (.long q0), .second, .val (.int q1), .val (.long q2), .second, .val (.long n), .second, .val (.int z), .val (.long i), .second, .val (.ref b), .val (.long k), .second, .unset, .unset, .unset, .unset] []))
      refine GoOn.step (fun t₀ k₀ => XS.iconst X11.here hx rfl (hb hby at_64) k₀) ?_
      show GoOn p e below _ (T11.setTop (mkF m 65 #[.val (.long q0), .second, .val (.int q1), .val (.long q2), .second, .val (.long n), .second, .val (.int z), .val (.long i), .second, .val (.ref b), .val (.long k), .second, .unset, .unset, .unset, .unset] [(.int (1 : Int32))]))
      refine GoOn.step (fun t₀ k₀ => XS.goto X11.here hx rfl (pc0 := 65) (pc' := 69) rfl (hb hby at_65) (by decide) (by decide) k₀) ?_
      show GoOn p e below _ (T11.setTop (mkF m 69 #[.val (.long q0), .second, .val (.int q1), .val (.long q2), .second, .val (.long n), .second, .val (.int z), .val (.long i), .second, .val (.ref b), .val (.long k), .second, .unset, .unset, .unset, .unset] [(.int (1 : Int32))]))
      exact GoOn.retN X11 hx hrt hlk (by simp) (hb hby at_69) (by decide) (by decide) (by first | exact ⟨rfl, N0⟩ | (rw [e11]; exact ⟨rfl, N0⟩))
    · refine GoOn.step (fun t₀ k₀ => XS.ifYes X11.here hx rfl (pc0 := 54) (pc' := 70) rfl (hb hby at_54) rfl ((if0 _ _).trans (feq (mt (lw_eq _ _).mp hn0)).2) (by decide) (by decide) k₀) ?_
      show GoOn p e below _ (T11.setTop (mkF m 70 #[.val (.long q0), .second, .val (.int q1), .val (.long q2), .second, .val (.long n), .second, .val (.int z), .val (.long i), .second, .val (.ref b), .val (.long k), .second, .unset, .unset, .unset, .unset] []))
      obtain ⟨y1, y2, y3, y4⟩ := pl_max n z hn hn0 hz k hk
      have hz1 := c_i2l z
      refine GoOn.step (fun t₀ k₀ => XS.lload X11.here hx rfl (hb hby at_70) rfl k₀) ?_
      show GoOn p e below _ (T11.setTop (mkF m 72 #[.val (.long q0), .second, .val (.int q1), .val (.long q2), .second, .val (.long n), .second, .val (.int z), .val (.long i), .second, .val (.ref b), .val (.long k), .second, .unset, .unset, .unset, .unset] [(.long k)]))
      refine GoOn.step (fun t₀ k₀ => XS.lconst X11.here hx rfl (hb hby at_72) k₀) ?_
      show GoOn p e below _ (T11.setTop (mkF m 73 #[.val (.long q0), .second, .val (.int q1), .val (.long q2), .second, .val (.long n), .second, .val (.int z), .val (.long i), .second, .val (.ref b), .val (.long k), .second, .unset, .unset, .unset, .unset] [(.long (0 : Int64)), (.long k)]))
      refine GoOn.step (fun t₀ k₀ => XS.lcmp X11.here hx rfl (hb hby at_73) rfl k₀) ?_
      show GoOn p e below _ (T11.setTop (mkF m 74 #[.val (.long q0), .second, .val (.int q1), .val (.long q2), .second, .val (.long n), .second, .val (.int z), .val (.long i), .second, .val (.ref b), .val (.long k), .second, .unset, .unset, .unset, .unset] [(.int (lcmpW k (0 : Int64)))]))
      have hf13 : ¬ (k < (0 : Int64)) := y1
      refine GoOn.step (fun t₀ k₀ => XS.ifYes X11.here hx rfl (pc0 := 74) (pc' := 79) rfl (hb hby at_74) rfl ((if0 _ _).trans (flt (mt (lw_lt _ _).mp hf13)).2.1) (by decide) (by decide) k₀) ?_
      show GoOn p e below _ (T11.setTop (mkF m 79 #[.val (.long q0), .second, .val (.int q1), .val (.long q2), .second, .val (.long n), .second, .val (.int z), .val (.long i), .second, .val (.ref b), .val (.long k), .second, .unset, .unset, .unset, .unset] []))
      refine GoOn.step (fun t₀ k₀ => XS.lload X11.here hx rfl (hb hby at_79) rfl k₀) ?_
      show GoOn p e below _ (T11.setTop (mkF m 81 #[.val (.long q0), .second, .val (.int q1), .val (.long q2), .second, .val (.long n), .second, .val (.int z), .val (.long i), .second, .val (.ref b), .val (.long k), .second, .unset, .unset, .unset, .unset] [(.long k)]))
      refine GoOn.step (fun t₀ k₀ => X11.ldc2Long hx hown (mvT hZ (hw _ (List.mem_of_getElem? (i := 0) rfl))) (g := (mkF m 81 #[.val (.long q0), .second, .val (.int q1), .val (.long q2), .second, .val (.long n), .second, .val (.int z), .val (.long i), .second, .val (.ref b), .val (.long k), .second, .unset, .unset, .unset, .unset] [(.long k)])) rfl (hb hby at_81) t₀ k₀) ?_
      show GoOn p e below _ (T11.setTop (mkF m 84 #[.val (.long q0), .second, .val (.int q1), .val (.long q2), .second, .val (.long n), .second, .val (.int z), .val (.long i), .second, .val (.ref b), .val (.long k), .second, .unset, .unset, .unset, .unset] [(.long (9223372036854775807 : Int64)), (.long k)]))
      refine GoOn.step (fun t₀ k₀ => XS.iload X11.here hx rfl (hb hby at_84) rfl k₀) ?_
      show GoOn p e below _ (T11.setTop (mkF m 86 #[.val (.long q0), .second, .val (.int q1), .val (.long q2), .second, .val (.long n), .second, .val (.int z), .val (.long i), .second, .val (.ref b), .val (.long k), .second, .unset, .unset, .unset, .unset] [(.int z), (.long (9223372036854775807 : Int64)), (.long k)]))
      refine GoOn.step (fun t₀ k₀ => XS.i2l X11.here hx rfl (hb hby at_86) rfl k₀) ?_
      show GoOn p e below _ (T11.setTop (mkF m 87 #[.val (.long q0), .second, .val (.int q1), .val (.long q2), .second, .val (.long n), .second, .val (.int z), .val (.long i), .second, .val (.ref b), .val (.long k), .second, .unset, .unset, .unset, .unset] [(.long (z.toInt64)), (.long (9223372036854775807 : Int64)), (.long k)]))
      refine GoOn.step (fun t₀ k₀ => XS.ldiv X11.here hx rfl (hb hby at_87) rfl (pl_ne _ (by omega)) k₀) ?_
      show GoOn p e below _ (T11.setTop (mkF m 88 #[.val (.long q0), .second, .val (.int q1), .val (.long q2), .second, .val (.long n), .second, .val (.int z), .val (.long i), .second, .val (.ref b), .val (.long k), .second, .unset, .unset, .unset, .unset] [(.long ((9223372036854775807 : Int64) / (z.toInt64))), (.long k)]))
      refine GoOn.step (fun t₀ k₀ => XS.lcmp X11.here hx rfl (hb hby at_88) rfl k₀) ?_
      show GoOn p e below _ (T11.setTop (mkF m 89 #[.val (.long q0), .second, .val (.int q1), .val (.long q2), .second, .val (.long n), .second, .val (.int z), .val (.long i), .second, .val (.ref b), .val (.long k), .second, .unset, .unset, .unset, .unset] [(.int (lcmpW k ((9223372036854775807 : Int64) / (z.toInt64))))]))
      have hf14 : ¬ (((9223372036854775807 : Int64) / (z.toInt64)) < k) := y2
      refine GoOn.step (fun t₀ k₀ => XS.ifYes X11.here hx rfl (pc0 := 89) (pc' := 94) rfl (hb hby at_89) rfl ((if0 _ _).trans (flt (mt (lw_gt _ _).mp hf14)).2.2.2) (by decide) (by decide) k₀) ?_
      show GoOn p e below _ (T11.setTop (mkF m 94 #[.val (.long q0), .second, .val (.int q1), .val (.long q2), .second, .val (.long n), .second, .val (.int z), .val (.long i), .second, .val (.ref b), .val (.long k), .second, .unset, .unset, .unset, .unset] []))
      refine GoOn.step (fun t₀ k₀ => XS.lload X11.here hx rfl (hb hby at_94) rfl k₀) ?_
      show GoOn p e below _ (T11.setTop (mkF m 96 #[.val (.long q0), .second, .val (.int q1), .val (.long q2), .second, .val (.long n), .second, .val (.int z), .val (.long i), .second, .val (.ref b), .val (.long k), .second, .unset, .unset, .unset, .unset] [(.long k)]))
      refine GoOn.step (fun t₀ k₀ => XS.iload X11.here hx rfl (hb hby at_96) rfl k₀) ?_
      show GoOn p e below _ (T11.setTop (mkF m 98 #[.val (.long q0), .second, .val (.int q1), .val (.long q2), .second, .val (.long n), .second, .val (.int z), .val (.long i), .second, .val (.ref b), .val (.long k), .second, .unset, .unset, .unset, .unset] [(.int z), (.long k)]))
      refine GoOn.step (fun t₀ k₀ => XS.i2l X11.here hx rfl (hb hby at_98) rfl k₀) ?_
      show GoOn p e below _ (T11.setTop (mkF m 99 #[.val (.long q0), .second, .val (.int q1), .val (.long q2), .second, .val (.long n), .second, .val (.int z), .val (.long i), .second, .val (.ref b), .val (.long k), .second, .unset, .unset, .unset, .unset] [(.long (z.toInt64)), (.long k)]))
      refine GoOn.step (fun t₀ k₀ => XS.lmul X11.here hx rfl (hb hby at_99) rfl k₀) ?_
      show GoOn p e below _ (T11.setTop (mkF m 100 #[.val (.long q0), .second, .val (.int q1), .val (.long q2), .second, .val (.long n), .second, .val (.int z), .val (.long i), .second, .val (.ref b), .val (.long k), .second, .unset, .unset, .unset, .unset] [(.long (k * (z.toInt64)))]))
      refine GoOn.step (fun t₀ k₀ => XS.lstore X11.here hx rfl (hb hby at_100) rfl (l' := #[.val (.long q0), .second, .val (.int q1), .val (.long q2), .second, .val (.long n), .second, .val (.int z), .val (.long i), .second, .val (.ref b), .val (.long k), .second, .val (.long (k * (z.toInt64))), .second, .unset, .unset]) rfl k₀) ?_
      show GoOn p e below _ (T11.setTop (mkF m 102 #[.val (.long q0), .second, .val (.int q1), .val (.long q2), .second, .val (.long n), .second, .val (.int z), .val (.long i), .second, .val (.ref b), .val (.long k), .second, .val (.long (k * (z.toInt64))), .second, .unset, .unset] []))
      refine GoOn.step (fun t₀ k₀ => XS.lload X11.here hx rfl (hb hby at_102) rfl k₀) ?_
      show GoOn p e below _ (T11.setTop (mkF m 104 #[.val (.long q0), .second, .val (.int q1), .val (.long q2), .second, .val (.long n), .second, .val (.int z), .val (.long i), .second, .val (.ref b), .val (.long k), .second, .val (.long (k * (z.toInt64))), .second, .unset, .unset] [(.long n)]))
      refine GoOn.step (fun t₀ k₀ => XS.lconst X11.here hx rfl (hb hby at_104) k₀) ?_
      show GoOn p e below _ (T11.setTop (mkF m 105 #[.val (.long q0), .second, .val (.int q1), .val (.long q2), .second, .val (.long n), .second, .val (.int z), .val (.long i), .second, .val (.ref b), .val (.long k), .second, .val (.long (k * (z.toInt64))), .second, .unset, .unset] [(.long (1 : Int64)), (.long n)]))
      refine GoOn.step (fun t₀ k₀ => XS.lsub X11.here hx rfl (hb hby at_105) rfl k₀) ?_
      show GoOn p e below _ (T11.setTop (mkF m 106 #[.val (.long q0), .second, .val (.int q1), .val (.long q2), .second, .val (.long n), .second, .val (.int z), .val (.long i), .second, .val (.ref b), .val (.long k), .second, .val (.long (k * (z.toInt64))), .second, .unset, .unset] [(.long (n - (1 : Int64)))]))
      refine GoOn.step (fun t₀ k₀ => XS.lstore X11.here hx rfl (hb hby at_106) rfl (l' := #[.val (.long q0), .second, .val (.int q1), .val (.long q2), .second, .val (.long n), .second, .val (.int z), .val (.long i), .second, .val (.ref b), .val (.long k), .second, .val (.long (k * (z.toInt64))), .second, .val (.long (n - (1 : Int64))), .second]) rfl k₀) ?_
      show GoOn p e below _ (T11.setTop (mkF m 108 #[.val (.long q0), .second, .val (.int q1), .val (.long q2), .second, .val (.long n), .second, .val (.int z), .val (.long i), .second, .val (.ref b), .val (.long k), .second, .val (.long (k * (z.toInt64))), .second, .val (.long (n - (1 : Int64))), .second] []))
      refine GoOn.step (fun t₀ k₀ => XS.lload X11.here hx rfl (hb hby at_108) rfl k₀) ?_
      show GoOn p e below _ (T11.setTop (mkF m 110 #[.val (.long q0), .second, .val (.int q1), .val (.long q2), .second, .val (.long n), .second, .val (.int z), .val (.long i), .second, .val (.ref b), .val (.long k), .second, .val (.long (k * (z.toInt64))), .second, .val (.long (n - (1 : Int64))), .second] [(.long (k * (z.toInt64)))]))
      refine GoOn.step (fun t₀ k₀ => XS.lload X11.here hx rfl (hb hby at_110) rfl k₀) ?_
      show GoOn p e below _ (T11.setTop (mkF m 112 #[.val (.long q0), .second, .val (.int q1), .val (.long q2), .second, .val (.long n), .second, .val (.int z), .val (.long i), .second, .val (.ref b), .val (.long k), .second, .val (.long (k * (z.toInt64))), .second, .val (.long (n - (1 : Int64))), .second] [(.long (n - (1 : Int64))), (.long (k * (z.toInt64)))]))
      refine GoOn.step (fun t₀ k₀ => XS.lcmp X11.here hx rfl (hb hby at_112) rfl k₀) ?_
      show GoOn p e below _ (T11.setTop (mkF m 113 #[.val (.long q0), .second, .val (.int q1), .val (.long q2), .second, .val (.long n), .second, .val (.int z), .val (.long i), .second, .val (.ref b), .val (.long k), .second, .val (.long (k * (z.toInt64))), .second, .val (.long (n - (1 : Int64))), .second] [(.int (lcmpW (k * (z.toInt64)) (n - (1 : Int64))))]))
      have hf15 : ¬ ((n - (1 : Int64)) < (k * (z.toInt64))) := y3
      refine GoOn.step (fun t₀ k₀ => XS.ifYes X11.here hx rfl (pc0 := 113) (pc' := 118) rfl (hb hby at_113) rfl ((if0 _ _).trans (flt (mt (lw_gt _ _).mp hf15)).2.2.2) (by decide) (by decide) k₀) ?_
      show GoOn p e below _ (T11.setTop (mkF m 118 #[.val (.long q0), .second, .val (.int q1), .val (.long q2), .second, .val (.long n), .second, .val (.int z), .val (.long i), .second, .val (.ref b), .val (.long k), .second, .val (.long (k * (z.toInt64))), .second, .val (.long (n - (1 : Int64))), .second] []))
      refine GoOn.step (fun t₀ k₀ => XS.lload X11.here hx rfl (hb hby at_118) rfl k₀) ?_
      show GoOn p e below _ (T11.setTop (mkF m 120 #[.val (.long q0), .second, .val (.int q1), .val (.long q2), .second, .val (.long n), .second, .val (.int z), .val (.long i), .second, .val (.ref b), .val (.long k), .second, .val (.long (k * (z.toInt64))), .second, .val (.long (n - (1 : Int64))), .second] [(.long (n - (1 : Int64)))]))
      refine GoOn.step (fun t₀ k₀ => XS.lload X11.here hx rfl (hb hby at_120) rfl k₀) ?_
      show GoOn p e below _ (T11.setTop (mkF m 122 #[.val (.long q0), .second, .val (.int q1), .val (.long q2), .second, .val (.long n), .second, .val (.int z), .val (.long i), .second, .val (.ref b), .val (.long k), .second, .val (.long (k * (z.toInt64))), .second, .val (.long (n - (1 : Int64))), .second] [(.long (k * (z.toInt64))), (.long (n - (1 : Int64)))]))
      refine GoOn.step (fun t₀ k₀ => XS.lsub X11.here hx rfl (hb hby at_122) rfl k₀) ?_
      show GoOn p e below _ (T11.setTop (mkF m 123 #[.val (.long q0), .second, .val (.int q1), .val (.long q2), .second, .val (.long n), .second, .val (.int z), .val (.long i), .second, .val (.ref b), .val (.long k), .second, .val (.long (k * (z.toInt64))), .second, .val (.long (n - (1 : Int64))), .second] [(.long ((n - (1 : Int64)) - (k * (z.toInt64))))]))
      refine GoOn.step (fun t₀ k₀ => XS.iload X11.here hx rfl (hb hby at_123) rfl k₀) ?_
      show GoOn p e below _ (T11.setTop (mkF m 125 #[.val (.long q0), .second, .val (.int q1), .val (.long q2), .second, .val (.long n), .second, .val (.int z), .val (.long i), .second, .val (.ref b), .val (.long k), .second, .val (.long (k * (z.toInt64))), .second, .val (.long (n - (1 : Int64))), .second] [(.int z), (.long ((n - (1 : Int64)) - (k * (z.toInt64))))]))
      refine GoOn.step (fun t₀ k₀ => XS.i2l X11.here hx rfl (hb hby at_125) rfl k₀) ?_
      show GoOn p e below _ (T11.setTop (mkF m 126 #[.val (.long q0), .second, .val (.int q1), .val (.long q2), .second, .val (.long n), .second, .val (.int z), .val (.long i), .second, .val (.ref b), .val (.long k), .second, .val (.long (k * (z.toInt64))), .second, .val (.long (n - (1 : Int64))), .second] [(.long (z.toInt64)), (.long ((n - (1 : Int64)) - (k * (z.toInt64))))]))
      refine GoOn.step (fun t₀ k₀ => XS.lcmp X11.here hx rfl (hb hby at_126) rfl k₀) ?_
      show GoOn p e below _ (T11.setTop (mkF m 127 #[.val (.long q0), .second, .val (.int q1), .val (.long q2), .second, .val (.long n), .second, .val (.int z), .val (.long i), .second, .val (.ref b), .val (.long k), .second, .val (.long (k * (z.toInt64))), .second, .val (.long (n - (1 : Int64))), .second] [(.int (lcmpW ((n - (1 : Int64)) - (k * (z.toInt64))) (z.toInt64)))]))
      have hf16 : ((n - (1 : Int64)) - (k * (z.toInt64))) < (z.toInt64) := y4
      refine GoOn.step (fun t₀ k₀ => XS.ifNo X11.here hx rfl (hb hby at_127) rfl ((if0 _ _).trans (tlt ((lw_lt _ _).mpr hf16)).2.1) k₀) ?_
      show GoOn p e below _ (T11.setTop (mkF m 130 #[.val (.long q0), .second, .val (.int q1), .val (.long q2), .second, .val (.long n), .second, .val (.int z), .val (.long i), .second, .val (.ref b), .val (.long k), .second, .val (.long (k * (z.toInt64))), .second, .val (.long (n - (1 : Int64))), .second] []))
      refine GoOn.step (fun t₀ k₀ => XS.iconst X11.here hx rfl (hb hby at_130) k₀) ?_
      show GoOn p e below _ (T11.setTop (mkF m 131 #[.val (.long q0), .second, .val (.int q1), .val (.long q2), .second, .val (.long n), .second, .val (.int z), .val (.long i), .second, .val (.ref b), .val (.long k), .second, .val (.long (k * (z.toInt64))), .second, .val (.long (n - (1 : Int64))), .second] [(.int (1 : Int32))]))
      refine GoOn.step (fun t₀ k₀ => XS.goto X11.here hx rfl (pc0 := 131) (pc' := 135) rfl (hb hby at_131) (by decide) (by decide) k₀) ?_
      show GoOn p e below _ (T11.setTop (mkF m 135 #[.val (.long q0), .second, .val (.int q1), .val (.long q2), .second, .val (.long n), .second, .val (.int z), .val (.long i), .second, .val (.ref b), .val (.long k), .second, .val (.long (k * (z.toInt64))), .second, .val (.long (n - (1 : Int64))), .second] [(.int (1 : Int32))]))
      exact GoOn.retN X11 hx hrt hlk (by simp) (hb hby at_135) (by decide) (by decide) (by first | exact ⟨rfl, N0⟩ | (rw [e11]; exact ⟨rfl, N0⟩))
  by_cases hc0 : z0 = (0 : Int32)
  · refine GoOn.step (fun t₀ k₀ => XS.ifNo X0.here hx rfl (hb hby at_15) rfl ((if0 _ _).trans (teq hc0).2) k₀) ?_
    show GoOn p e below _ (s₁.setTop (mkF m 18 #[.val (.long q0), .second, .val (.int q1), .val (.long q2), .second, .val (.long n), .second, .val (.int z0), .unset, .unset, .unset, .unset, .unset, .unset, .unset, .unset, .unset] []))
    refine GoOn.step (fun t₀ k₀ => XS.iconst X0.here hx rfl (hb hby at_18) k₀) ?_
    show GoOn p e below _ (s₁.setTop (mkF m 19 #[.val (.long q0), .second, .val (.int q1), .val (.long q2), .second, .val (.long n), .second, .val (.int z0), .unset, .unset, .unset, .unset, .unset, .unset, .unset, .unset, .unset] [(.int (1 : Int32))]))
    refine GoOn.step (fun t₀ k₀ => XS.istore X0.here hx rfl (hb hby at_19) rfl (l' := #[.val (.long q0), .second, .val (.int q1), .val (.long q2), .second, .val (.long n), .second, .val (.int (1 : Int32)), .unset, .unset, .unset, .unset, .unset, .unset, .unset, .unset, .unset]) rfl k₀) ?_
    show GoOn p e below _ (s₁.setTop (mkF m 21 #[.val (.long q0), .second, .val (.int q1), .val (.long q2), .second, .val (.long n), .second, .val (.int (1 : Int32)), .unset, .unset, .unset, .unset, .unset, .unset, .unset, .unset, .unset] []))
    exact J _ (by decide)
  · refine GoOn.step (fun t₀ k₀ => XS.ifYes X0.here hx rfl (pc0 := 15) (pc' := 21) rfl (hb hby at_15) rfl ((if0 _ _).trans (feq hc0).2) (by decide) (by decide) k₀) ?_
    show GoOn p e below _ (s₁.setTop (mkF m 21 #[.val (.long q0), .second, .val (.int q1), .val (.long q2), .second, .val (.long n), .second, .val (.int z0), .unset, .unset, .unset, .unset, .unset, .unset, .unset, .unset, .unset] []))
    have k0 : (0 : Int32).toInt = 0 := by decide
    have : z0.toInt ≠ 0 := fun q => hc0 (Int32.toInt_inj.mp (by rw [q, k0]))
    exact J _ (by omega)
set_option maxRecDepth 65536 in
set_option maxHeartbeats 40000000 in
theorem comes_1 {Post : Tables → Env → Array Value → State → Outcome → State → Prop} (hpost : ∀ tb e args s v u, (limb_1_1.after args s (.returned v) u = true ∧ limb_1_2.after args s (.returned v) u = true ∧ True) → FrameEnd s (.returned v) u (Jvm.fieldLocs frame_1_writes args s ++ Jvm.arrayLocs frame_1_arrays args s ++ Jvm.staticLocs frame_1_statics s) 16 128 → Post tb e args s (.returned v) u) :
    ArmFor flags0 classFile x code maxLocals ret World_1 tables_1 room_1 Calls_1 rest_1 Pre_1 Post := by
  intro l hfl _ _ p e ha hc hk s m args below hf hA hF happ hP
  obtain ⟨hcalls, hrest, hpre⟩ := hP
  obtain ⟨-, -, -, hnamed, -, -, -, hat⟩ := (Spec.applies_iff hf).mp happ
  obtain ⟨hg, hn⟩ := and_e (Cond.before_iff.mp (show (Jvm.Cond.and given_1 narrow_1).before args s = true from hpre))
  obtain ⟨g0, r0⟩ := and_e hg
  obtain ⟨g1, r1⟩ := and_e r0
  obtain ⟨g2, r2⟩ := and_e r1
  obtain ⟨w0, w1, w2, rfl⟩ : ∃ w0 w1 w2 : Value, args = #[w0, w1, w2] := by
    have hs : args.size = 3 := by simpa [Cond.value, given_1] using g0
    obtain ⟨L⟩ := args
    match L, hs with
    | [w0, w1, w2], _ => exact ⟨w0, w1, w2, rfl⟩
  have hw := fun d (hd : d ∈ tables_1) => atoms_spec (ws := Jvm.Cond.code x code maxLocals ret :: tables_1) hat d (List.mem_cons_of_mem _ hd)
  have hfit : Fit s := fun {y c} hc i hi => by
    obtain ⟨ha, rfl⟩ := Array.getElem?_eq_some_iff.mp hc
    have q := List.all_eq_true.mp ((Array.all_eq_true_iff_forall_mem.mp hF) _ (Array.getElem_mem ha)) i (List.mem_range.mpr hi)
    simpa [Array.getElem?_eq_getElem hi] using q
  obtain ⟨i0, ei0⟩ := isL_v g1
  obtain rfl : w0 = (.long i0) := Option.some.inj ei0
  obtain ⟨i1, ei1⟩ := is_v g2
  obtain rfl : w1 = (.int i1) := Option.some.inj ei1
  obtain ⟨i2, ei2⟩ := isL_v r2
  obtain rfl : w2 = (.long i2) := Option.some.inj ei2
  obtain ⟨n, o, h1, h2, h3, _, L, rfl, ⟨rfl, N⟩, hq⟩ := law_ok l s _ hw i0 i1 i2 s.heap s.heap.size (Nat.le_refl _) tables_1 p e ha hc hk s m _ below hf ((Spec.applies_iff_loose hf).mp happ).1 ⟨rfl, State.Warmed39.refl s, rfl⟩ trivial
  refine ⟨n, _, h1, h2, h3, hpost _ _ _ _ _ _ ⟨Cond.after_iff.mpr rfl, Cond.after_iff.mpr (eq_i res_at (Term.int_eval (1)) rfl), trivial⟩ ⟨hq.1, hq.2.1, (hq.2.2.sift fun y hy => Or.inr (N y hy)).mono (by decide) (by decide)⟩⟩
theorem main_1_1 : Claimed_1_1 := comes_1 fun _ _ _ _ _ _ h hF => ⟨h.1, hF⟩
theorem main_1_2 : Claimed_1_2 := comes_1 fun _ _ _ _ _ _ h hF => ⟨h.2.1, hF⟩
end Jvm.Pilot.@@N@@
namespace Jvm.Pilot.@@N@@
open Jvm Jvm.ClassFile Sem Op Lib Jvm.Free Jvm.Stand Jvm.Pilot.@@N@@.Jvm.D
/-! MADE BY PROGRAM (witnessworld.py) out of the Statement's table words and the real class files: 8 classes; the members and pool entries that the words name. The judged class is class 1, her method 1. -/
namespace start1
open Jvm.ClassFile
def u (s : String) : CpInfo := .utf8 (stringToUtf16 s)
/-- a pool by its gaps: so many unusable entries, then the entry; so many at the end -/
def gap : Nat → List CpInfo → List CpInfo
  | 0, r => r
  | n + 1, r => .unusable :: gap n r
def poolList (es : List (Nat × CpInfo)) (last : Nat) : List CpInfo := es.foldr (fun e r => gap e.1 (e.2 :: r)) (gap last [])
def pool (es : List (Nat × CpInfo)) (last : Nat) : Array CpInfo := ⟨poolList es last⟩
def fileOf (pool : Array CpInfo) (this : Nat) (attrs : Array Attribute := #[]) (ms : Array MethodInfo := #[]) (fl : Nat := 33) (sup : Nat := 0) (ifs : Array Nat := #[]) (fds : Array FieldInfo := #[]) : ClassFile where
  minorVersion := 0
  majorVersion := 65
  constantPool := pool
  accessFlags := fl
  thisClass := this
  superClass := sup
  interfaces := ifs
  fields := fds
  methods := ms
  attributes := attrs
def plain (name : String) (sup : Option ClassId) : Class where
  name := name
  kind := .ordinary
  loader := none
  accessFlags := 33
  super := sup
  interfaces := #[]
  cf := none
  fields := #[]
  methods := #[]
  instanceTypes := #[]
  staticTypes := #[]
  resolved := #[]
  callSites := []
  init := .initialized
  statics := none
  mirror := none

def pool0 : Array CpInfo := pool [(5, u "<init>"), (0, u "()V"), (1, .class_ 10), (1, u "java/lang/Object")] 113

def k0c0 : Code := { maxStack := 0, maxLocals := 1, code := object_method_1_code, exceptionTable := #[], attributes := #[] }
def k0m0 : Method := { name := "<init>", desc := "()V", sig := { parameters := [], returnType := none }, accessFlags := 1, code := some k0c0 }
/-- java/lang/Object -/
def k0 : Class := { plain "java/lang/Object" none with
  accessFlags := 33
  interfaces := #[]
  cf := some (fileOf pool0 8 #[] #[{ accessFlags := 1, nameIndex := 5, descriptorIndex := 6, attributes := #[] }] 33 0 #[] #[])
  fields := #[]
  methods := #[k0m0]
  instanceTypes := #[]
  staticTypes := #[]
  resolved := Array.replicate 124 none
  statics := none }

def pool1 : Array CpInfo := pool [(2, .class_ 4), (1, u "java/lang/Object"), (0, u "<init>"), (0, u "()V"), (2, .long 9223372036854775807), (1, .integer 2147483647), (0, .class_ 13), (0, u "com/example/ashlar_gate/ashlargate/query/Page"), (0, .methodref 12 15), (0, .nameAndType 5 16), (0, u "(JI)V"), (0, .methodref 12 18), (0, .nameAndType 19 20), (0, u "maxIndex"), (0, u "(J)J"), (0, .class_ 22), (0, u "com/example/ashlar_gate/ashlargate/query/PageMaxIndexPinLaw"), (2, u "law"), (0, u "(JIJ)Z")] 3

def k1m0 : Method := { name := "<init>", desc := "()V", sig := { parameters := [], returnType := none }, accessFlags := 1, code := none }
def k1c1 : Code := { maxStack := 6, maxLocals := 17, code := code, exceptionTable := #[], attributes := #[] }
def k1m1 : Method := { name := "law", desc := "(JIJ)Z", sig := { parameters := [.long, .int, .long], returnType := some .boolean }, accessFlags := 9, code := some k1c1 }
/-- com/example/ashlar_gate/ashlargate/query/PageMaxIndexPinLaw -/
def k1 : Class := { plain "com/example/ashlar_gate/ashlargate/query/PageMaxIndexPinLaw" (some 0) with
  accessFlags := 49
  interfaces := #[]
  cf := some (fileOf pool1 21 #[] #[{ accessFlags := 1, nameIndex := 5, descriptorIndex := 6, attributes := #[] }, { accessFlags := 9, nameIndex := 25, descriptorIndex := 26, attributes := #[] }] 49 2 #[] #[])
  fields := #[]
  methods := #[k1m0, k1m1]
  instanceTypes := #[]
  staticTypes := #[]
  resolved := Array.replicate 30 none
  statics := none }

def pool2 : Array CpInfo := pool [(1, .methodref 2 3), (0, .class_ 4), (0, .nameAndType 5 6), (0, u "java/lang/Object"), (0, u "<init>"), (0, u "()V"), (0, .class_ 8), (0, u "java/lang/Record")] 13

def k2c0 : Code := { maxStack := 1, maxLocals := 1, code := jdk_30_method_1_code, exceptionTable := #[], attributes := #[] }
def k2m0 : Method := { name := "<init>", desc := "()V", sig := { parameters := [], returnType := none }, accessFlags := 4, code := some k2c0 }
/-- java/lang/Record -/
def k2 : Class := { plain "java/lang/Record" (some 0) with
  accessFlags := 1057
  interfaces := #[]
  cf := some (fileOf pool2 7 #[] #[{ accessFlags := 4, nameIndex := 5, descriptorIndex := 6, attributes := #[] }] 1057 2 #[] #[])
  fields := #[]
  methods := #[k2m0]
  instanceTypes := #[]
  staticTypes := #[]
  resolved := Array.replicate 22 none
  statics := none }

def pool3 : Array CpInfo := pool [(1, .methodref 2 3), (0, .class_ 4), (0, .nameAndType 5 6), (0, u "java/lang/Record"), (0, u "<init>"), (0, u "()V"), (12, .fieldref 20 21), (0, .class_ 22), (0, .nameAndType 23 24), (0, u "com/example/ashlar_gate/ashlargate/query/Page"), (0, u "pageIndex"), (0, u "J"), (0, .fieldref 20 26), (0, .nameAndType 27 28), (0, u "pageSize"), (0, u "I"), (17, u "(JI)V"), (6, u "maxIndex"), (0, u "(J)J")] 36

def k3c0 : Code := { maxStack := 4, maxLocals := 4, code := prog_16_method_1_code, exceptionTable := #[], attributes := #[] }
def k3m0 : Method := { name := "<init>", desc := "(JI)V", sig := { parameters := [.long, .int], returnType := none }, accessFlags := 1, code := some k3c0 }
def k3c1 : Code := { maxStack := 4, maxLocals := 3, code := prog_16_method_3_code, exceptionTable := #[], attributes := #[] }
def k3m1 : Method := { name := "maxIndex", desc := "(J)J", sig := { parameters := [.long], returnType := some .long }, accessFlags := 1, code := some k3c1 }
/-- com/example/ashlar_gate/ashlargate/query/Page -/
def k3 : Class := { plain "com/example/ashlar_gate/ashlargate/query/Page" (some 2) with
  accessFlags := 49
  interfaces := #[]
  cf := some (fileOf pool3 20 #[] #[{ accessFlags := 1, nameIndex := 5, descriptorIndex := 46, attributes := #[] }, { accessFlags := 1, nameIndex := 53, descriptorIndex := 54, attributes := #[] }] 49 2 #[] #[{ accessFlags := 18, nameIndex := 23, descriptorIndex := 24, attributes := #[] }, { accessFlags := 18, nameIndex := 27, descriptorIndex := 28, attributes := #[] }])
  fields := #[{ name := "pageIndex", type := .long, accessFlags := 18, slot := 0, constantValue := 0 }, { name := "pageSize", type := .int, accessFlags := 18, slot := 1, constantValue := 0 }]
  methods := #[k3m0, k3m1]
  instanceTypes := #[.long, .int]
  staticTypes := #[]
  resolved := Array.replicate 91 none
  statics := none }

def pool4 : Array CpInfo := pool [(1, u "java/lang/Cloneable"), (0, .class_ 1), (0, u "java/lang/Object"), (0, .class_ 3)] 3

/-- java/lang/Cloneable -/
def k4 : Class := { plain "java/lang/Cloneable" (some 0) with
  accessFlags := 1537
  interfaces := #[]
  cf := some (fileOf pool4 2 #[] #[] 1537 4 #[] #[])
  fields := #[]
  methods := #[]
  instanceTypes := #[]
  staticTypes := #[]
  resolved := Array.replicate 8 none
  statics := none }

def pool5 : Array CpInfo := pool [(1, u "java/io/Serializable"), (0, .class_ 1), (0, u "java/lang/Object"), (0, .class_ 3)] 3

/-- java/io/Serializable -/
def k5 : Class := { plain "java/io/Serializable" (some 0) with
  accessFlags := 1537
  interfaces := #[]
  cf := some (fileOf pool5 2 #[] #[] 1537 4 #[] #[])
  fields := #[]
  methods := #[]
  instanceTypes := #[]
  staticTypes := #[]
  resolved := Array.replicate 8 none
  statics := none }

/-- the primitive byte -/
def k6 : Class := { plain "byte" none with kind := .primitive 'B', accessFlags := 0x411 }
/-- [B -/
def k7 : Class := { plain "[B" (some 0) with kind := .array 6 .byte, interfaces := #[4, 5], accessFlags := 1041 }

def heap : Heap := #[]
def classes : Array Class := #[k0, k1, k2, k3, k4, k5, k6, k7]
def interned : List (Array UInt16 × Addr) := []
def slotsUsed : Nat := 0
def theMethod : MethodId := ⟨1, 1⟩
def args0 : Array Value := #[.long 50, .int 7, .long 2]
def aboutOver (below : List Frame) : State where
  vm := { classes := classes, interned := interned.toArray }
  heap := heap
  slotsUsed := slotsUsed
  threads := #[{ frames := .invoking theMethod args0 :: below }]
def below0 : List Frame := [.native { method := ⟨0, 0⟩, args := #[] }]
def about1 : State := aboutOver below0
def p0 : Program := .bare "" "" ""
def e0 : Env := launch0.env 0 0 0
theorem w_frames : about1.frames = Frame.invoking theMethod args0 :: below0 := rfl
set_option maxRecDepth 65536 in
theorem w_args : argsFit about1.vm theMethod args0 = true := by decide +kernel
set_option maxRecDepth 65536 in
theorem w_heap : heapFits about1 = true := by decide +kernel
set_option maxRecDepth 65536 in
theorem w_runnable : about1.curStatus? = some .runnable := by decide +kernel
set_option maxRecDepth 65536 in
theorem w_alone : about1.alone = true := by decide +kernel
set_option maxRecDepth 65536 in
theorem w_named : about1.methodNamed? x = some theMethod := by decide +kernel
set_option maxRecDepth 65536 in
theorem w_hears : about1.hears theMethod below0 = true := by decide +kernel
set_option maxRecDepth 65536 in
theorem w_ripe : about1.ripe theMethod args0 below0 = true := by decide +kernel
theorem w_running : about1.status = .running := rfl
set_option maxRecDepth 65536 in
theorem w_room : about1.hasRoom e0.platform room_1 = true :=
  launch0.hasRoom_least _ room_1 (by decide +kernel) (by decide +kernel) (by decide +kernel) (by decide +kernel) (by decide +kernel) (by decide +kernel)
theorem allAtoms_all (ts : List Jvm.Cond) (a : Array Jvm.Value) (st : Jvm.State) : (allAtoms ts).before a st = ts.all (fun c => c.before a st) := by
  induction ts with
  | nil => rfl
  | cons c t ih =>
    show (Jvm.Cond.and c (allAtoms t)).before a st = _
    rw [Jvm.Cond.before_and, ih, List.all_cons]
def words1 : List Jvm.Cond := Jvm.Cond.code x code maxLocals ret :: tables_1
/-- a 'code' word, met by the world's own term for the bytes: nothing is compared byte by byte -/
theorem code_word {y : MethodName} {bytes : ByteArray} {mx : Nat} {rt : Option FieldType} {a : Array Value} {s : State} {m : MethodId} {meth : Method} {c : Code} (h1 : s.methodNamed? y = some m) (h2 : s.vm.method? m = some meth) (h3 : meth.code = some c) (h4 : c.code = bytes)
    (h5 : (c.maxLocals == mx && c.exceptionTable.isEmpty && decide (c.maxStack ≤ mostOperands) && decide (meth.sig.returnType = rt) && !meth.locks && decide (parseMethodDescriptor y.desc = some meth.sig)) = true) : (Jvm.Cond.code y bytes mx rt).before a s = true := by
  simp only [Bool.and_eq_true, beq_iff_eq, Bool.not_eq_true', decide_eq_true_eq] at h5
  obtain ⟨⟨⟨⟨⟨g1, g2⟩, g3⟩, g4⟩, g5⟩, g6⟩ := h5
  simp [Cond.before, Cond.holds, Cond.value, h1, h2, h3, h4, g1, g2, g3, g4, g5, g6]
def isCode : Jvm.Cond → Bool
  | .code _ _ _ _ => true
  | _ => false
theorem all_split {L : List Jvm.Cond} {P : Jvm.Cond → Bool} (h1 : L.all (fun c => isCode c || P c) = true) (h2 : ∀ c ∈ L.filter isCode, P c = true) : L.all P = true := by
  refine List.all_eq_true.mpr fun c hc => ?_
  have h := List.all_eq_true.mp h1 c hc
  rcases Bool.eq_false_or_eq_true (isCode c) with hi | hi
  · exact h2 c (List.mem_filter.mpr ⟨hc, hi⟩)
  · simpa [hi] using h
set_option maxRecDepth 65536 in
theorem w_c0 : (Jvm.Cond.code x code maxLocals ret).before args0 about1 = true := code_word (m := ⟨1, 1⟩) (meth := k1m1) (c := k1c1) (by decide +kernel) rfl rfl rfl (by decide +kernel)
set_option maxRecDepth 65536 in
theorem w_c1 : (Jvm.Cond.code ({ cls := "com/example/ashlar_gate/ashlargate/query/Page", name := "<init>", desc := "(JI)V" } : Jvm.MethodName) prog_16_method_1_code (4 : Nat) (Option.none : Option Jvm.ClassFile.FieldType)).before args0 about1 = true := code_word (m := ⟨3, 0⟩) (meth := k3m0) (c := k3c0) (by decide +kernel) rfl rfl rfl (by decide +kernel)
set_option maxRecDepth 65536 in
theorem w_c2 : (Jvm.Cond.code ({ cls := "java/lang/Record", name := "<init>", desc := "()V" } : Jvm.MethodName) jdk_30_method_1_code (1 : Nat) (Option.none : Option Jvm.ClassFile.FieldType)).before args0 about1 = true := code_word (m := ⟨2, 0⟩) (meth := k2m0) (c := k2c0) (by decide +kernel) rfl rfl rfl (by decide +kernel)
set_option maxRecDepth 65536 in
theorem w_c3 : (Jvm.Cond.code ({ cls := "java/lang/Object", name := "<init>", desc := "()V" } : Jvm.MethodName) object_method_1_code (1 : Nat) (Option.none : Option Jvm.ClassFile.FieldType)).before args0 about1 = true := code_word (m := ⟨0, 0⟩) (meth := k0m0) (c := k0c0) (by decide +kernel) rfl rfl rfl (by decide +kernel)
set_option maxRecDepth 65536 in
theorem w_c4 : (Jvm.Cond.code ({ cls := "com/example/ashlar_gate/ashlargate/query/Page", name := "maxIndex", desc := "(J)J" } : Jvm.MethodName) prog_16_method_3_code (3 : Nat) (Option.some Jvm.ClassFile.FieldType.long)).before args0 about1 = true := code_word (m := ⟨3, 1⟩) (meth := k3m1) (c := k3c1) (by decide +kernel) rfl rfl rfl (by decide +kernel)
def codes1 : List Jvm.Cond := [Jvm.Cond.code x code maxLocals ret, Jvm.Cond.code ({ cls := "com/example/ashlar_gate/ashlargate/query/Page", name := "<init>", desc := "(JI)V" } : Jvm.MethodName) prog_16_method_1_code (4 : Nat) (Option.none : Option Jvm.ClassFile.FieldType), Jvm.Cond.code ({ cls := "java/lang/Record", name := "<init>", desc := "()V" } : Jvm.MethodName) jdk_30_method_1_code (1 : Nat) (Option.none : Option Jvm.ClassFile.FieldType), Jvm.Cond.code ({ cls := "java/lang/Object", name := "<init>", desc := "()V" } : Jvm.MethodName) object_method_1_code (1 : Nat) (Option.none : Option Jvm.ClassFile.FieldType), Jvm.Cond.code ({ cls := "com/example/ashlar_gate/ashlargate/query/Page", name := "maxIndex", desc := "(J)J" } : Jvm.MethodName) prog_16_method_3_code (3 : Nat) (Option.some Jvm.ClassFile.FieldType.long)]
set_option maxRecDepth 65536 in
theorem codes_eq : words1.filter isCode = codes1 := rfl
theorem w_codes : ∀ c ∈ words1.filter isCode, c.before args0 about1 = true := by
  rw [codes_eq]
  intro c hc
  simp only [codes1, List.mem_cons, List.not_mem_nil, or_false] at hc
  rcases hc with rfl | rfl | rfl | rfl | rfl
  · exact w_c0
  · exact w_c1
  · exact w_c2
  · exact w_c3
  · exact w_c4
set_option maxRecDepth 65536 in
theorem w_t1 : (words1.take 24).all (fun c => isCode c || c.before args0 about1) = true := by decide +kernel
set_option maxRecDepth 65536 in
theorem w_t2 : (words1.drop 24).all (fun c => isCode c || c.before args0 about1) = true := by decide +kernel
theorem w_tables : (allAtoms (Jvm.Cond.code x code maxLocals ret :: tables_1)).before args0 about1 = true := by
  rw [allAtoms_all]
  show words1.all (fun c => c.before args0 about1) = true
  refine all_split ?_ w_codes
  rw [← List.take_append_drop 24 words1, List.all_append, w_t1, w_t2]
  rfl
set_option maxRecDepth 65536 in
theorem w_case : (Jvm.Cond.and given_1 narrow_1).before args0 about1 = true := by decide +kernel
theorem w_applies : (headSpec (Jvm.Cond.code x code maxLocals ret :: tables_1) room_1).applies x e0.platform about1 = true :=
  (Spec.applies_iff w_frames).mpr ⟨w_running, w_runnable, w_alone, w_named, w_hears, w_ripe, w_room, w_tables⟩
theorem atStart : AtStart classFile x code maxLocals ret World_1 tables_1 room_1 Calls_1 rest_1 Pre_1 launch0 p0 e0 about1 theMethod args0 below0 :=
  ⟨lists_1, trivial, launch0.admits_env _ _ _, launch0.least_env, fairChoices_fair.cas, fairChoices_fair.clock, w_frames, w_args, w_heap, w_applies, trivial, trivial, w_case⟩
end start1
theorem witness_1 : WitnessClaimed_1 := ⟨start1.p0, start1.e0, start1.about1, start1.theMethod, start1.args0, start1.below0, start1.atStart⟩
end Jvm.Pilot.@@N@@
