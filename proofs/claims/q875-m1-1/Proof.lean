import JvmDerived
import JvmDerived.Pilot.@@N@@Statement
import JvmDerived.Pilot.@@N@@Code
set_option linter.unusedVariables false
set_option linter.unusedSimpArgs false
namespace Jvm.Pilot.@@N@@
open Jvm Jvm.ClassFile Sem Op Lib Jvm.Free Jvm.Stand Jvm.LawKit Jvm.RoadKit Bundle Jvm.Pilot.@@N@@.Jvm.D
/-! ## own kit: a walk in continuation style over the library's steps -/
section OwnKit
variable {p : Program} {l : Launch} {e : Env} {R : Room} {s : State} {m : MethodId} {args : Array Value} {below : List Frame} {meth : Method} {c : Code} {T : State} {locs : List Loc} {cells slots : Nat} {Z : State} {a0 : Array Value} {h h' : Heap}
/-- from U the run ends, and then E holds -/
def GoOn (p : Program) (e : Env) (below : List Frame) (E : State → Outcome → Prop) (U : State) : Prop :=
  ∃ t o, Steps p.tables e below U t ∧ t.status = .running ∧ Ended t below o ∧ E t o
theorem GoOn.step {E : State → Outcome → Prop} {U U' : State} (hs : ∀ t, Steps p.tables e below U' t → Steps p.tables e below U t) (g : GoOn p e below E U') : GoOn p e below E U := by
  obtain ⟨t, o, h1, h2⟩ := g
  exact ⟨t, o, hs _ h1, h2⟩
/-- how a body ends: what it returns, its heap, the places that it wrote -/
abbrev EndQ (s : State) (rm : Room) (Q : Option Value → Heap → List Loc → Prop) : State → Outcome → Prop :=
  fun U o => ∃ v L, o = .returned v ∧ Q v U.heap L ∧ FrameEnd s o U L rm.cells rm.slots
/-- a body's contract at one array of arguments and one heap -/
def Con (l : Launch) (Z : State) (y : MethodName) (bytes : ByteArray) (mx : Nat) (rt : Option FieldType) (rm : Room) (as : Array Value) (h : Heap) (Q : Option Value → Heap → List Loc → Prop) : Prop :=
  ∀ ws : List Jvm.Cond, MetFree l y (head1 (Jvm.Cond.code y bytes mx rt :: ws) rm) (fun a U => a = as ∧ Z.Warmed39 U.vm ∧ U.heap = h) (fun _ _ _ _ _ => True) (fun _ U o U' => ∃ v L, o = .returned v ∧ Q v U'.heap L ∧ FrameEnd U o U' L rm.cells rm.slots)
theorem Con.intro {y : MethodName} {bytes : ByteArray} {mx : Nat} {rt : Option FieldType} {rm : Room} {as : Array Value} {Q : Option Value → Heap → List Loc → Prop} (hp : plainFor y = true)
    (body : ∀ (p : Program) (e : Env) (s : State) (m : MethodId) (below : List Frame) (meth : Method) (c : Code) (s₁ : State), p.tables.exec = Jvm.exec → c.code = bytes → c.maxLocals = mx → meth.sig.returnType = rt → meth.locks = false → Z.Warmed39 s.vm → s.vm.findClass y.cls = some m.cls → meth.name = y.name →
      Stand p l e rm s m as below meth c s₁ [] 0 0 → s₁.heap = h → GoOn p e below (EndQ s rm Q) (s₁.setTop (entryFrame m as mx))) : Con l Z y bytes mx rt rm as h Q := fun ws => by
  refine MetFree.of_bodySF hp hisR ?_
  intro p e s m args below meth c s₁ Bd hml0 hP hK
  obtain ⟨rfl, hZ, hh⟩ := hP
  have X0 : Stand p l e rm s m args below meth c s₁ [] 0 0 := Stand.of_body Bd
  obtain ⟨t, o, h1, h2, h3, h4⟩ := body p e s m below meth c s₁ Bd.exec Bd.bytes hml0 Bd.returns Bd.notSynchronized hZ (findClass_of_methodNamed Bd.named) (name_of_methodNamed Bd.named Bd.method).1 X0 (by rw [← hh, Bd.state]; rfl)
  exact ⟨t, o, h1, h2, h3, h4⟩
theorem GoOn.cast {E : State → Outcome → Prop} {g g' : JFrame} (q : g = g') (k : GoOn p e below E (T.setTop g')) : GoOn p e below E (T.setTop g) := q ▸ k
theorem GoOn.retI (X : Stand p l e R s m args below meth c T locs cells slots) (hx : p.tables.exec = Jvm.exec) (hrt : meth.sig.returnType = some .int) (hlk : meth.locks = false) {rm : Room} {Q : Option Value → Heap → List Loc → Prop} {pc : Nat} {Ls : Array Slot} {z : Int32} {rest : List Value}
    (hd : decode c.code pc = .ok (.ireturn, 1)) (hc : cells ≤ rm.cells) (hs : slots ≤ rm.slots) (hQ : Q (some (.int z)) T.heap locs) : GoOn p e below (EndQ s rm Q) (T.setTop (mkF m pc Ls (.int z :: rest))) := by
  obtain ⟨fs, hr, hrun, hended, hW, hsame⟩ := X.leave (v := some (.int z)) (fun h => by rw [hrt] at h; cases h) hlk
  exact ⟨_, _, Jvm.RoadKit.retOut X hx hrt rfl (Or.inl ⟨rfl, Or.inl rfl, _, rfl⟩) hd hr, hrun, hended, _, _, rfl, hQ, ⟨_, rfl⟩, hW, hsame.mono hc hs⟩
theorem GoOn.retN (X : Stand p l e R s m args below meth c T locs cells slots) (hx : p.tables.exec = Jvm.exec) {t : FieldType} (hrt : meth.sig.returnType = some t) (hlk : meth.locks = false) {rm : Room} {Q : Option Value → Heap → List Loc → Prop} {pc : Nat} {Ls : Array Slot} {z : Int32} {rest : List Value} (ht : t = .boolean ∨ t = .byte ∨ t = .char ∨ t = .short)
    (hd : decode c.code pc = .ok (.ireturn, 1)) (hc : cells ≤ rm.cells) (hs : slots ≤ rm.slots) (hQ : Q (some (.int (nar t z))) T.heap locs) : GoOn p e below (EndQ s rm Q) (T.setTop (mkF m pc Ls (.int z :: rest))) := by
  obtain ⟨fs, hr, hrun, hended, hW, hsame⟩ := X.leave (v := some (.int (nar t z))) (fun h => by rw [hrt] at h; cases h) hlk
  exact ⟨_, _, Jvm.RoadKit.retN X hx hrt ht hd hr, hrun, hended, _, _, rfl, hQ, ⟨_, rfl⟩, hW, hsame.mono hc hs⟩
theorem GoOn.retJ (X : Stand p l e R s m args below meth c T locs cells slots) (hx : p.tables.exec = Jvm.exec) (hrt : meth.sig.returnType = some .long) (hlk : meth.locks = false) {rm : Room} {Q : Option Value → Heap → List Loc → Prop} {pc : Nat} {Ls : Array Slot} {z : Int64} {rest : List Value}
    (hd : decode c.code pc = .ok (.lreturn, 1)) (hc : cells ≤ rm.cells) (hs : slots ≤ rm.slots) (hQ : Q (some (.long z)) T.heap locs) : GoOn p e below (EndQ s rm Q) (T.setTop (mkF m pc Ls (.long z :: rest))) := by
  obtain ⟨fs, hr, hrun, hended, hW, hsame⟩ := X.leave (v := some (.long z)) (fun h => by rw [hrt] at h; cases h) hlk
  exact ⟨_, _, Jvm.RoadKit.retOut X hx hrt rfl (Or.inr (Or.inl ⟨rfl, rfl, _, rfl⟩)) hd hr, hrun, hended, _, _, rfl, hQ, ⟨_, rfl⟩, hW, hsame.mono hc hs⟩
theorem GoOn.retR (X : Stand p l e R s m args below meth c T locs cells slots) (hx : p.tables.exec = Jvm.exec) {t : FieldType} (hrt : meth.sig.returnType = some t) (htr : t.isReference = true) (hlk : meth.locks = false) {rm : Room} {Q : Option Value → Heap → List Loc → Prop} {pc : Nat} {Ls : Array Slot} {z : Value} (hz : z.isRef = true) {rest : List Value}
    (hd : decode c.code pc = .ok (.areturn, 1)) (hc : cells ≤ rm.cells) (hs : slots ≤ rm.slots) (hQ : Q (some z) T.heap locs) : GoOn p e below (EndQ s rm Q) (T.setTop (mkF m pc Ls (z :: rest))) := by
  obtain ⟨fs, hr, hrun, hended, hW, hsame⟩ := X.leave (v := some z) (fun h => by rw [hrt] at h; cases h) hlk
  refine ⟨_, _, Jvm.RoadKit.retOut X hx hrt ?_ (Or.inr (Or.inr (Or.inr (Or.inr ⟨rfl, htr, hz⟩)))) hd hr, hrun, hended, _, _, rfl, hQ, ⟨_, rfl⟩, hW, hsame.mono hc hs⟩
  cases z <;> first | (cases t <;> rfl) | (simp [Value.isRef] at hz)
theorem GoOn.ret0 (X : Stand p l e R s m args below meth c T locs cells slots) (hx : p.tables.exec = Jvm.exec) (hrt : meth.sig.returnType = none) (hlk : meth.locks = false) {rm : Room} {Q : Option Value → Heap → List Loc → Prop} {pc : Nat} {Ls : Array Slot}
    (hd : decode c.code pc = .ok (.return_, 1)) (hc : cells ≤ rm.cells) (hs : slots ≤ rm.slots) (hQ : Q none T.heap locs) : GoOn p e below (EndQ s rm Q) (T.setTop (mkF m pc Ls [])) := by
  obtain ⟨fs, hr, hrun, hended, hW, hsame⟩ := X.leave (v := none) (fun _ => rfl) hlk
  exact ⟨_, _, X.returnOut hx hrt hd hr, hrun, hended, _, _, rfl, hQ, ⟨_, rfl⟩, hW, hsame.mono hc hs⟩
/-- a static call by its contract -/
theorem kCallS (X : Stand p l e R s m args below meth c T locs cells slots) (hx : p.tables.exec = Jvm.exec) (hZ : Z.Warmed39 s.vm) {own : String} {index : Nat} {y : MethodName} {bytes : ByteArray} {mx : Nat} {rt : Option FieldType} {rm : Room} {Q : Option Value → Heap → List Loc → Prop} {argsL rest : List Value}
    (K : Con l Z y bytes mx rt rm argsL.toArray h Q) (hown : s.vm.findClass own = some m.cls) (w1 : (Jvm.Cond.methodLink own index y).before a0 Z = true) (w2 : (Jvm.Cond.static y).before a0 Z = true) (w3 : (Jvm.Cond.initialized y.cls).before a0 Z = true) (w4 : (Jvm.Cond.code y bytes mx rt).before a0 Z = true)
    (hy : y.cls ≠ "java/lang/invoke/MethodHandle" ∧ y.cls ≠ "java/lang/invoke/VarHandle") (eT : T.heap = h) {g : JFrame} (hg : g.method = m) (hsize : g.locals.size = c.maxLocals) (hlen : ∀ sig, parseMethodDescriptor y.desc = some sig → argsL.length = sig.parameters.length) (hstack : g.stack = argsL.reverse ++ rest)
    {W : Nat} (hW : 2 * g.monitorRoom + (rest.map fun v => v.category).sum ≤ W) (hd : decode c.code g.pc = .ok (.invokestatic index, 3)) (hf : rm.frames + 1 ≤ R.frames) (hl : W + (mx + 11) + rm.locals ≤ R.locals) (hc : cells + rm.cells ≤ R.cells) (hs : slots + rm.slots ≤ R.slots) :
    ∃ v T' L, Stand p l e R s m args below meth c T' (locs ++ L) (cells + rm.cells) (slots + rm.slots) ∧ Q v T'.heap L ∧ ∀ target, Steps p.tables e below (T'.setTop { g with pc := g.pc + 3, stack := v.toList ++ rest }) target → Steps p.tables e below (T.setTop g) target := by
  obtain ⟨v, _, ⟨T', L', k', n'⟩, -, X', ⟨L, hQ, l1, l2, l3⟩, st⟩ := Jvm.LawKit.callS X hx (y := y) hown (mvT hZ w1) (mvT hZ w2) (mvT hZ w3) (mvT hZ w4) hy (backOf (W := W) (K []) hZ w4 w3 hf hl) hg hsize hlen hstack hW hd (fun _ _ => ⟨rfl, eT, hc, hs⟩)
  dsimp only [Pt.U, Pt.locs, Pt.cells, Pt.slots] at X' l1 l2 l3 hQ st
  subst l1 l2 l3
  exact ⟨v, T', L, X', hQ, fun t k => st _ k⟩
/-- a constructor by its contract -/
theorem kCallI (X : Stand p l e R s m args below meth c T locs cells slots) (hx : p.tables.exec = Jvm.exec) (hZ : Z.Warmed39 s.vm) {own : String} {index : Nat} {y : MethodName} {bytes : ByteArray} {mx : Nat} {rm : Room} {Q : Option Value → Heap → List Loc → Prop} {a : Addr} {argsL rest : List Value}
    (K : Con l Z y bytes mx none rm (.ref a :: argsL).toArray h Q) (hy1 : y.name = "<init>") (hown : s.vm.findClass own = some m.cls) (w1 : (Jvm.Cond.methodLink own index y).before a0 Z = true) (w2 : (Jvm.Cond.instanceMethod y).before a0 Z = true) (w3 : (Jvm.Cond.initialized y.cls).before a0 Z = true) (w4 : (Jvm.Cond.code y bytes mx none).before a0 Z = true)
    (hy : y.cls ≠ "java/lang/invoke/MethodHandle" ∧ y.cls ≠ "java/lang/invoke/VarHandle") (eT : T.heap = h) {g : JFrame} (hg : g.method = m) (hsize : g.locals.size = c.maxLocals) (hlen : ∀ sig, parseMethodDescriptor y.desc = some sig → argsL.length = sig.parameters.length) (hstack : g.stack = argsL.reverse ++ .ref a :: rest)
    {W : Nat} (hW : 2 * g.monitorRoom + (rest.map fun v => v.category).sum ≤ W) (hd : decode c.code g.pc = .ok (.invokespecial index, 3)) (hf : rm.frames + 1 ≤ R.frames) (hl : W + (mx + 11) + rm.locals ≤ R.locals) (hc : cells + rm.cells ≤ R.cells) (hs : slots + rm.slots ≤ R.slots) :
    ∃ v T' L, Stand p l e R s m args below meth c T' (locs ++ L) (cells + rm.cells) (slots + rm.slots) ∧ Q v T'.heap L ∧ ∀ target, Steps p.tables e below (T'.setTop { g with pc := g.pc + 3, stack := v.toList ++ rest }) target → Steps p.tables e below (T.setTop g) target := by
  obtain ⟨v, _, ⟨T', L', k', n'⟩, -, X', ⟨L, hQ, l1, l2, l3⟩, st⟩ := X.specialBack hx (y := y) hy1 hown (mvT hZ w1) (mvT hZ w2) (mvT hZ w4) hy (backOf (W := W) (K []) hZ w4 w3 hf hl) hg hsize (Steps.refl _) (a := a) hlen hstack hW hd (fun _ _ => ⟨rfl, eT, hc, hs⟩)
  dsimp only [Pt.U, Pt.locs, Pt.cells, Pt.slots] at X' l1 l2 l3 hQ st
  subst l1 l2 l3
  exact ⟨v, T', L, X', hQ, fun t k => st.trans k⟩
/-- an instance method by its contract, on an object of that very class -/
theorem kCallV (X : Stand p l e R s m args below meth c T locs cells slots) (hx : p.tables.exec = Jvm.exec) (hZ : Z.Warmed39 s.vm) {own C : String} {index : Nat} {y z : MethodName} {bytes : ByteArray} {mx : Nat} {rt : Option FieldType} {rm : Room} {Q : Option Value → Heap → List Loc → Prop} {a : Addr} {argsL rest : List Value}
    (K : Con l Z z bytes mx rt rm (.ref a :: argsL).toArray h Q) (hown : s.vm.findClass own = some m.cls) (w1 : (Jvm.Cond.methodLink own index y).before a0 Z = true) (wd : (Jvm.Cond.declares y).before a0 Z = true) (hnf : NotFace s y) (ws : (Jvm.Cond.selects C y z).before a0 Z = true) (w2 : (Jvm.Cond.instanceMethod z).before a0 Z = true) (w3 : (Jvm.Cond.initialized z.cls).before a0 Z = true) (w4 : (Jvm.Cond.code z bytes mx rt).before a0 Z = true)
    (hy : y.cls ≠ "java/lang/invoke/MethodHandle" ∧ y.cls ≠ "java/lang/invoke/VarHandle") (eT : T.heap = h) (E : Exa Z h a C) {g : JFrame} (hg : g.method = m) (hsize : g.locals.size = c.maxLocals) (hlen : ∀ sig, parseMethodDescriptor y.desc = some sig → argsL.length = sig.parameters.length) (hstack : g.stack = argsL.reverse ++ .ref a :: rest)
    {W : Nat} (hW : 2 * g.monitorRoom + (rest.map fun v => v.category).sum ≤ W) (hd : decode c.code g.pc = .ok (.invokevirtual index, 3)) (hf : rm.frames + 1 ≤ R.frames) (hl : W + (mx + 11) + rm.locals ≤ R.locals) (hc : cells + rm.cells ≤ R.cells) (hs : slots + rm.slots ≤ R.slots) :
    ∃ v T' L, Stand p l e R s m args below meth c T' (locs ++ L) (cells + rm.cells) (slots + rm.slots) ∧ Q v T'.heap L ∧ ∀ target, Steps p.tables e below (T'.setTop { g with pc := g.pc + 3, stack := v.toList ++ rest }) target → Steps p.tables e below (T.setTop g) target := by
  obtain ⟨cB, kB, q1, q2, q3⟩ := isOf hZ eT E
  obtain ⟨v, _, ⟨T', L', k', n'⟩, -, X', ⟨L, hQ, l1, l2, l3⟩, st⟩ := X.virtualBack hx (y := y) (z := z) hown (mvT hZ w1) (mvT hZ wd) hnf (mvT hZ ws) (mvT hZ w2) hy (backOf (W := W) (K []) hZ w4 w3 hf hl) q1 q3 hg hsize (Steps.refl _) hlen hstack hW hd (fun _ _ => ⟨rfl, eT, hc, hs⟩)
  dsimp only [Pt.U, Pt.locs, Pt.cells, Pt.slots] at X' l1 l2 l3 hQ st
  subst l1 l2 l3
  exact ⟨v, T', L, X', hQ, fun t k => st.trans k⟩
/-- a private method by its contract ('invokevirtual'); y2: a method of the same class of which is known that its class is no interface -/
theorem kCallP (X : Stand p l e R s m args below meth c T locs cells slots) (hx : p.tables.exec = Jvm.exec) (hZ : Z.Warmed39 s.vm) {own C : String} {index : Nat} {y y2 : MethodName} {bytes : ByteArray} {mx : Nat} {rt : Option FieldType} {rm : Room} {Q : Option Value → Heap → List Loc → Prop} {a : Addr} {argsL rest : List Value}
    (K : Con l Z y bytes mx rt rm (.ref a :: argsL).toArray h Q) (hown : s.vm.findClass own = some m.cls) (w1 : (Jvm.Cond.methodLink own index y).before a0 Z = true) (w2 : (Jvm.Cond.instanceMethod y).before a0 Z = true) (wp : (Jvm.Cond.privateMethod y).before a0 Z = true) (w3 : (Jvm.Cond.initialized y.cls).before a0 Z = true) (w4 : (Jvm.Cond.code y bytes mx rt).before a0 Z = true)
    (hnf : NotFace s y2) (hcl : y2.cls = y.cls) (w5 : (Jvm.Cond.instanceMethod y2).before a0 Z = true)
    (hy : y.cls ≠ "java/lang/invoke/MethodHandle" ∧ y.cls ≠ "java/lang/invoke/VarHandle") (eT : T.heap = h) (E : Exa Z h a C) {g : JFrame} (hg : g.method = m) (hsize : g.locals.size = c.maxLocals) (hlen : ∀ sig, parseMethodDescriptor y.desc = some sig → argsL.length = sig.parameters.length) (hstack : g.stack = argsL.reverse ++ .ref a :: rest)
    {W : Nat} (hW : 2 * g.monitorRoom + (rest.map fun v => v.category).sum ≤ W) (hd : decode c.code g.pc = .ok (.invokevirtual index, 3)) (hf : rm.frames + 1 ≤ R.frames) (hl : W + (mx + 11) + rm.locals ≤ R.locals) (hc : cells + rm.cells ≤ R.cells) (hs : slots + rm.slots ≤ R.slots) :
    ∃ v T' L, Stand p l e R s m args below meth c T' (locs ++ L) (cells + rm.cells) (slots + rm.slots) ∧ Q v T'.heap L ∧ ∀ target, Steps p.tables e below (T'.setTop { g with pc := g.pc + 3, stack := v.toList ++ rest }) target → Steps p.tables e below (T.setTop g) target := by
  obtain ⟨cB, kB, q1, q2, cell, q3, q4, q5⟩ := isOf hZ eT E
  obtain ⟨mk, methM, hnamed, hmethM, hstM, habM⟩ := Cond.instanceMethod_spec (mvT (args := args) hZ w2)
  obtain ⟨methM', cM, hmethM', -, -, -, -, -, -, hsigM⟩ := Cond.code_spec hnamed (mvT (args := args) hZ w4)
  cases hmethM.symm.trans hmethM'
  obtain ⟨mk2, methM2, hnamed2, -⟩ := Cond.instanceMethod_spec (mvT (args := args) hZ w5)
  obtain ⟨kP, hkP, hkPi⟩ := hnf mk2 hnamed2
  have hcc : mk2.cls = mk.cls := by
    have u1 := findClass_of_methodNamed hnamed2
    rw [hcl] at u1
    exact Option.some.inj (u1.symm.trans (findClass_of_methodNamed hnamed))
  rw [hcc] at hkP
  have hpriv : s.PrivateAt y := Cond.privateMethod_at (mvP hZ wp (args := args))
  obtain ⟨vm₁, X₁, hstep₁⟩ := X.invokevirtual hx hown (mvT hZ w1) hnamed hmethM hstM hkP hkPi hy (a := a) (cell := cell) q3 (fun q z => by rw [z] at q5; cases q5) (selectMethod_private hmethM (hpriv mk methM hnamed hmethM)) hmethM habM hkP hkPi (g := g) hg (argsL := argsL) (rest := rest) (hlen _ hsigM) hstack hd
  obtain ⟨v, ⟨T', L', k', n'⟩, X', ⟨L, hQ, l1, l2, l3⟩, st⟩ := (backOf (W := W) (K []) hZ w4 w3 hf hl) m meth c ⟨T.setVm vm₁, locs, cells, slots⟩ { g with stack := rest } (.invokevirtual index) mk (.ref a :: argsL).toArray X₁ hg hsize hd hW (X₁.named hnamed) ⟨rfl, eT, hc, hs⟩
  dsimp only [Pt.U, Pt.locs, Pt.cells, Pt.slots] at X' l1 l2 l3 hQ st
  subst l1 l2 l3
  exact ⟨v, T', L, X', hQ, fun t k => (hstep₁ _ fun acts => by rw [doInvoke_state]; exact Steps.refl _).trans (st.trans k)⟩
/-- an array: its kind, its length, what each place holds -/
def Jar (Z : State) (h : Heap) (a : Addr) (ty : FieldType) (n : Nat) (f : Nat → Value) : Prop := ∃ cl : Cell, Arr Z h a cl ty ∧ cl.slots.size = n ∧ ∀ i, i < n → cl.slots[i]? = some (f i)
section JarS
variable {a b : Addr} {ty : FieldType} {n : Nat} {f g : Nat → Value} {v : Value} {sl : Nat} {ws : List Addr}
theorem Jar.lt (F : Jar Z h a ty n f) : a < h.size := by obtain ⟨cl, A, -⟩ := F; exact A.lt
theorem Jar.ext (F : Jar Z h a ty n f) (E : Ext h h') : Jar Z h' a ty n f := by obtain ⟨cl, A, r⟩ := F; exact ⟨cl, A.ext E, r⟩
theorem Jar.other (F : Jar Z h b ty n f) (W : Wr h h' a sl v) (q : b ≠ a) : Jar Z h' b ty n f := by obtain ⟨cl, A, r⟩ := F; exact ⟨cl, A.other W q, r⟩
theorem Jar.keep (F : Jar Z h a ty n f) (K : Keep h h' ws) (q : a ∉ ws) : Jar Z h' a ty n f := by obtain ⟨cl, A, r⟩ := F; exact ⟨cl, ⟨K.2.1 a cl A.1 q, A.2⟩, r⟩
theorem Jar.congr (F : Jar Z h a ty n f) (q : ∀ i, i < n → f i = g i) : Jar Z h a ty n g := by obtain ⟨cl, A, s1, s2⟩ := F; exact ⟨cl, A, s1, fun i hi => by rw [s2 i hi, q i hi]⟩
theorem Jar.new {k : ClassId} {z : Int32} (A : Arr Z h a (newA k ty z) ty) (hz : z.toNatClampNeg = n) : Jar Z h a ty n (fun _ => defaultValue ty) := ⟨_, A, (sz_new _ _ _).trans hz, fun i hi => by simp [newA, hz, hi]⟩
theorem Jar.set (F : Jar Z h a ty n f) (W : Wr h h' a sl v) : Jar Z h' a ty n (fun i => if i = sl then v else f i) := by
  obtain ⟨cl, A, s1, s2⟩ := F
  obtain ⟨c2, q1, -, q3, -⟩ := id W
  cases A.1.symm.trans q1
  refine ⟨_, Arr.same W A, by simp [Cell.setSlot, s1], fun i hi => ?_⟩
  by_cases q : i = sl
  · subst q; simp [Cell.setSlot, q3]
  · show (cl.slots.setIfInBounds sl v)[i]? = some (if i = sl then v else f i)
    rw [if_neg q, ← s2 i hi, Array.getElem?_setIfInBounds_ne (Ne.symm q)]
theorem Jar.ints (F : Jar Z h a ty n f) (H : ∀ i, ∃ x, f i = .int x) : ∃ g : Nat → Int32, Jar Z h a ty n (fun i => .int (g i)) := ⟨fun i => Classical.choose (H i), F.congr fun i _ => Classical.choose_spec (H i)⟩
theorem Jar.longs (F : Jar Z h a ty n f) (H : ∀ i, ∃ x, f i = .long x) : ∃ g : Nat → Int64, Jar Z h a ty n (fun i => .long (g i)) := ⟨fun i => Classical.choose (H i), F.congr fun i _ => Classical.choose_spec (H i)⟩
theorem inJ {cl : Cell} {j : Int32} (s1 : cl.slots.size = n) (hj : 0 ≤ j.toInt ∧ j.toInt < n) : ¬ (j < 0 ∨ cl.slots.size ≤ j.toNatClampNeg) := by
  rw [s1, Int32.lt_iff_toInt_lt]
  have e1 : (0 : Int32).toInt = 0 := rfl
  have e2 : j.toNatClampNeg = j.toInt.toNat := rfl
  omega
theorem natJ {j : Int32} (hj : 0 ≤ j.toInt ∧ j.toInt < n) : j.toNatClampNeg < n := by
  have e2 : j.toNatClampNeg = j.toInt.toNat := rfl
  omega
end JarS
theorem kLdI (X : Stand p l e R s m args below meth c T locs cells slots) (hx : p.tables.exec = Jvm.exec) (hZ : Z.Warmed39 s.vm) (eT : T.heap = h) {a : Addr} {n : Nat} {f : Nat → Value} (F : Jar Z h a .int n f) {j : Int32} {v : Value} (hj : 0 ≤ j.toInt ∧ j.toInt < n) (hv : f j.toNatClampNeg = v) {g : JFrame} (hg : g.method = m) {rest : List Value} (hs : g.stack = .int j :: .ref a :: rest) (hd : decode c.code g.pc = .ok (.iaload, 1)) :
    ∀ t, Steps p.tables e below (T.setTop { g with pc := g.pc + 1, stack := v :: rest }) t → Steps p.tables e below (T.setTop g) t := by
  obtain ⟨cl, A, s1, s2⟩ := F
  exact X.iaload hx (j := j) (v := v) (by rw [eT]; exact A.1) (State.isArrayOf_alike hZ.alike A.2.1) A.2.2 (inJ s1 hj) (by rw [s2 _ (natJ hj), hv]) hg hs hd
theorem kLdJ (X : Stand p l e R s m args below meth c T locs cells slots) (hx : p.tables.exec = Jvm.exec) (hZ : Z.Warmed39 s.vm) (eT : T.heap = h) {a : Addr} {n : Nat} {f : Nat → Value} (F : Jar Z h a .long n f) {j : Int32} {v : Value} (hj : 0 ≤ j.toInt ∧ j.toInt < n) (hv : f j.toNatClampNeg = v) {g : JFrame} (hg : g.method = m) {rest : List Value} (hs : g.stack = .int j :: .ref a :: rest) (hd : decode c.code g.pc = .ok (.laload, 1)) :
    ∀ t, Steps p.tables e below (T.setTop { g with pc := g.pc + 1, stack := v :: rest }) t → Steps p.tables e below (T.setTop g) t := by
  obtain ⟨cl, A, s1, s2⟩ := F
  exact X.laload hx (j := j) (v := v) (by rw [eT]; exact A.1) (State.isArrayOf_alike hZ.alike A.2.1) A.2.2 (inJ s1 hj) (by rw [s2 _ (natJ hj), hv]) hg hs hd
theorem kLdB (X : Stand p l e R s m args below meth c T locs cells slots) (hx : p.tables.exec = Jvm.exec) (hZ : Z.Warmed39 s.vm) (eT : T.heap = h) {a : Addr} {n : Nat} {f : Nat → Value} (F : Jar Z h a .byte n f) {j : Int32} {v : Value} (hj : 0 ≤ j.toInt ∧ j.toInt < n) (hv : f j.toNatClampNeg = v) {g : JFrame} (hg : g.method = m) {rest : List Value} (hs : g.stack = .int j :: .ref a :: rest) (hd : decode c.code g.pc = .ok (.baload, 1)) :
    ∀ t, Steps p.tables e below (T.setTop { g with pc := g.pc + 1, stack := v :: rest }) t → Steps p.tables e below (T.setTop g) t := by
  obtain ⟨cl, A, s1, s2⟩ := F
  exact X.baloadBytes hx (j := j) (v := v) (by rw [eT]; exact A.1) (State.isArrayOf_alike hZ.alike A.2.1) A.2.2 (inJ s1 hj) (by rw [s2 _ (natJ hj), hv]) hg hs hd
theorem kLdA (X : Stand p l e R s m args below meth c T locs cells slots) (hx : p.tables.exec = Jvm.exec) (hZ : Z.Warmed39 s.vm) (eT : T.heap = h) {a : Addr} {ty : FieldType} {n : Nat} {f : Nat → Value} (F : Jar Z h a ty n f) (hty : ty.isReference = true) {j : Int32} {v : Value} (hj : 0 ≤ j.toInt ∧ j.toInt < n) (hv : f j.toNatClampNeg = v) {g : JFrame} (hg : g.method = m) {rest : List Value} (hs : g.stack = .int j :: .ref a :: rest) (hd : decode c.code g.pc = .ok (.aaload, 1)) :
    ∀ t, Steps p.tables e below (T.setTop { g with pc := g.pc + 1, stack := v :: rest }) t → Steps p.tables e below (T.setTop g) t := by
  obtain ⟨cl, A, s1, s2⟩ := F
  exact X.aaload hx (j := j) (v := v) (by rw [eT]; exact A.1) (State.isArrayOf_alike hZ.alike A.2.1) hty A.2.2 (inJ s1 hj) (by rw [s2 _ (natJ hj), hv]) hg hs hd
theorem kLen (X : Stand p l e R s m args below meth c T locs cells slots) (hx : p.tables.exec = Jvm.exec) (hZ : Z.Warmed39 s.vm) (eT : T.heap = h) {a : Addr} {ty : FieldType} {n : Nat} {f : Nat → Value} (F : Jar Z h a ty n f) {z : Int32} (hz : n.toInt32 = z) {g : JFrame} (hg : g.method = m) {rest : List Value} (hs : g.stack = .ref a :: rest) (hd : decode c.code g.pc = .ok (.arraylength, 1)) :
    ∀ t, Steps p.tables e below (T.setTop { g with pc := g.pc + 1, stack := .int z :: rest }) t → Steps p.tables e below (T.setTop g) t := by
  obtain ⟨cl, A, s1, s2⟩ := F
  subst hz s1
  exact X.arraylength hx (by rw [eT]; exact A.1) (State.isArrayOf_alike hZ.alike A.2.1) hg hs hd
/-- a store: what the three kinds say alike -/
theorem kStI (X : Stand p l e R s m args below meth c T locs cells slots) (hx : p.tables.exec = Jvm.exec) (hZ : Z.Warmed39 s.vm) (eT : T.heap = h) {a : Addr} {n : Nat} {f : Nat → Value} (F : Jar Z h a .int n f) {j x : Int32} (hj : 0 ≤ j.toInt ∧ j.toInt < n) {g : JFrame} (hg : g.method = m) {rest : List Value} (hs : g.stack = .int x :: .int j :: .ref a :: rest) (hd : decode c.code g.pc = .ok (.iastore, 1)) :
    ∃ T' h', Stand p l e R s m args below meth c T' (locs ++ [⟨a, j.toNatClampNeg⟩]) cells slots ∧ T'.heap = h' ∧ Wr h h' a j.toNatClampNeg (.int x) ∧ ∀ target, Steps p.tables e below (T'.setTop { g with pc := g.pc + 1, stack := rest }) target → Steps p.tables e below (T.setTop g) target := by
  obtain ⟨cl, A, s1, s2⟩ := F
  exact stI X hx hZ eT A (inJ s1 hj) hg hs hd
theorem kStJ (X : Stand p l e R s m args below meth c T locs cells slots) (hx : p.tables.exec = Jvm.exec) (hZ : Z.Warmed39 s.vm) (eT : T.heap = h) {a : Addr} {n : Nat} {f : Nat → Value} (F : Jar Z h a .long n f) {j : Int32} {x : Int64} (hj : 0 ≤ j.toInt ∧ j.toInt < n) {g : JFrame} (hg : g.method = m) {rest : List Value} (hs : g.stack = .long x :: .int j :: .ref a :: rest) (hd : decode c.code g.pc = .ok (.lastore, 1)) :
    ∃ T' h', Stand p l e R s m args below meth c T' (locs ++ [⟨a, j.toNatClampNeg⟩]) cells slots ∧ T'.heap = h' ∧ Wr h h' a j.toNatClampNeg (.long x) ∧ ∀ target, Steps p.tables e below (T'.setTop { g with pc := g.pc + 1, stack := rest }) target → Steps p.tables e below (T.setTop g) target := by
  obtain ⟨cl, A, s1, s2⟩ := F
  exact stJ X hx hZ eT A (inJ s1 hj) hg hs hd
theorem kStB (X : Stand p l e R s m args below meth c T locs cells slots) (hx : p.tables.exec = Jvm.exec) (hZ : Z.Warmed39 s.vm) (eT : T.heap = h) {a : Addr} {n : Nat} {f : Nat → Value} (F : Jar Z h a .byte n f) {j x : Int32} (hj : 0 ≤ j.toInt ∧ j.toInt < n) {g : JFrame} (hg : g.method = m) {rest : List Value} (hs : g.stack = .int x :: .int j :: .ref a :: rest) (hd : decode c.code g.pc = .ok (.bastore, 1)) :
    ∃ T' h', Stand p l e R s m args below meth c T' (locs ++ [⟨a, j.toNatClampNeg⟩]) cells slots ∧ T'.heap = h' ∧ Wr h h' a j.toNatClampNeg (.int (x.toInt8.toInt32)) ∧ ∀ target, Steps p.tables e below (T'.setTop { g with pc := g.pc + 1, stack := rest }) target → Steps p.tables e below (T.setTop g) target := by
  obtain ⟨cl, A, s1, s2⟩ := F
  exact stB X hx hZ eT A (inJ s1 hj) hg hs hd
theorem kClone (X : Stand p l e R s m args below meth c T locs cells slots) (hx : p.tables.exec = Jvm.exec) (hZ : Z.Warmed39 s.vm) {own ad : String} {index : Nat} (hown : s.vm.findClass own = some m.cls)
    (w1 : (Jvm.Cond.methodLink own index ⟨ad, "clone", "()Ljava/lang/Object;"⟩).before a0 Z = true) (w2 : (Jvm.Cond.sameMethod ad "java/lang/Object" "clone" "()Ljava/lang/Object;").before a0 Z = true) (w3 : (Jvm.Cond.native ⟨"java/lang/Object", "clone", "()Ljava/lang/Object;"⟩).before a0 Z = true)
    (w4 : (Jvm.Cond.instanceMethod ⟨"java/lang/Object", "clone", "()Ljava/lang/Object;"⟩).before a0 Z = true) (w5 : (Jvm.Cond.selects ad ⟨ad, "clone", "()Ljava/lang/Object;"⟩ ⟨"java/lang/Object", "clone", "()Ljava/lang/Object;"⟩).before a0 Z = true) (w6 : (Jvm.Cond.castable ad "java/lang/Cloneable").before a0 Z = true)
    (eT : T.heap = h) {a : Addr} {ty : FieldType} {n : Nat} {f : Nat → Value} (F : Jar Z h a ty n f) (E : Exa Z h a ad) (hft : ∀ i, i < n → fits ty (f i) = true) {g : JFrame} (hg : g.method = m) (hsize : g.locals.size = c.maxLocals) {rest : List Value} (hs : g.stack = .ref a :: rest) (hd : decode c.code g.pc = .ok (.invokevirtual index, 3))
    (hf : 1 ≤ R.frames) {W cap : Nat} (hW : 2 * g.monitorRoom + (rest.map fun v => v.category).sum ≤ W) (hl : W + 14 ≤ R.locals) (hcap : n ≤ cap) (hc : cells + 1 ≤ R.cells) (hsl : slots + cap ≤ R.slots) :
    ∃ T' h', Stand p l e R s m args below meth c T' locs (cells + 1) (slots + cap) ∧ T'.heap = h' ∧ Ext h h' ∧ Jar Z h' h.size ty n f ∧ Exa Z h' h.size ad ∧
      ∀ target, Steps p.tables e below (T'.setTop { g with pc := g.pc + 3, stack := .ref h.size :: rest }) target → Steps p.tables e below (T.setTop g) target := by
  obtain ⟨cl, A, s1, s2⟩ := F
  have FC : FitC Z cl := fitC_of A fun i hi v hv => by rw [s2 i (s1 ▸ hi)] at hv; cases hv; exact hft i (s1 ▸ hi)
  obtain ⟨T', h', X', e', ex, A', E', st⟩ := cloneA X hx hZ hown w1 w2 w3 w4 w5 w6 eT A E FC hg hsize hs hd hf hW hl (by rw [s1]; exact hcap) hc hsl
  exact ⟨T', h', X', e', ex, ⟨cloneOf cl, A', s1, s2⟩, E', st⟩
theorem narO {C : String} (v : Value) : narrow (.object C) v = v := by cases v <;> rfl
theorem fitO {C : String} {v : Value} (h : v.isRef = true) : fits (.object C) v = true := by cases v <;> first | rfl | (simp [Value.isRef] at h)
/-- what a body that writes nothing and makes nothing leaves -/
def PQ (r : Option Value) (h0 : Heap) : Option Value → Heap → List Loc → Prop := fun v h L => v = r ∧ L = [] ∧ h = h0
/-- what the law leaves -/
def LQ (n0 : Nat) : Option Value → Heap → List Loc → Prop := fun v _ L => v = some (.int 1) ∧ Fr n0 L
end OwnKit
theorem pn_0 : plainName "com/example/treesack/treesack/core/Solution" = true := by first | (simp [plainName, overriddenIn]; done) | decide +kernel
theorem d1_0 : decode prog_56_method_1_code 0 = .ok (.aload_n 0, 1) := by decide +kernel
theorem d1_1 : decode prog_56_method_1_code 1 = .ok (.invokespecial 1, 3) := by decide +kernel
theorem d1_4 : decode prog_56_method_1_code 4 = .ok (.aload_n 0, 1) := by decide +kernel
theorem d1_5 : decode prog_56_method_1_code 5 = .ok (.lload_n 1, 1) := by decide +kernel
theorem d1_6 : decode prog_56_method_1_code 6 = .ok (.putfield 7, 3) := by decide +kernel
theorem d1_9 : decode prog_56_method_1_code 9 = .ok (.aload_n 0, 1) := by decide +kernel
theorem d1_10 : decode prog_56_method_1_code 10 = .ok (.aload_n 3, 1) := by decide +kernel
theorem d1_11 : decode prog_56_method_1_code 11 = .ok (.putfield 13, 3) := by decide +kernel
theorem d1_14 : decode prog_56_method_1_code 14 = .ok (.return_, 1) := by decide +kernel
theorem d4_0 : decode prog_56_method_2_code 0 = .ok (.aload_n 0, 1) := by decide +kernel
theorem d4_1 : decode prog_56_method_2_code 1 = .ok (.getfield 7, 3) := by decide +kernel
theorem d4_4 : decode prog_56_method_2_code 4 = .ok (.lreturn, 1) := by decide +kernel
theorem d3_0 : decode prog_56_method_4_code 0 = .ok (.iconst 0, 1) := by decide +kernel
theorem d3_1 : decode prog_56_method_4_code 1 = .ok (.istore_n 1, 1) := by decide +kernel
theorem d3_2 : decode prog_56_method_4_code 2 = .ok (.aload_n 0, 1) := by decide +kernel
theorem d3_3 : decode prog_56_method_4_code 3 = .ok (.getfield 13, 3) := by decide +kernel
theorem d3_6 : decode prog_56_method_4_code 6 = .ok (.astore_n 2, 1) := by decide +kernel
theorem d3_7 : decode prog_56_method_4_code 7 = .ok (.aload_n 2, 1) := by decide +kernel
theorem d3_8 : decode prog_56_method_4_code 8 = .ok (.arraylength, 1) := by decide +kernel
theorem d3_9 : decode prog_56_method_4_code 9 = .ok (.istore_n 3, 1) := by decide +kernel
theorem d3_10 : decode prog_56_method_4_code 10 = .ok (.iconst 0, 1) := by decide +kernel
theorem d3_11 : decode prog_56_method_4_code 11 = .ok (.istore 4, 2) := by decide +kernel
theorem d3_13 : decode prog_56_method_4_code 13 = .ok (.iload 4, 2) := by decide +kernel
theorem d3_15 : decode prog_56_method_4_code 15 = .ok (.iload_n 3, 1) := by decide +kernel
theorem d3_16 : decode prog_56_method_4_code 16 = .ok (.if_icmp .ge 25, 3) := by decide +kernel
theorem d3_19 : decode prog_56_method_4_code 19 = .ok (.aload_n 2, 1) := by decide +kernel
theorem d3_20 : decode prog_56_method_4_code 20 = .ok (.iload 4, 2) := by decide +kernel
theorem d3_22 : decode prog_56_method_4_code 22 = .ok (.laload, 1) := by decide +kernel
theorem d3_23 : decode prog_56_method_4_code 23 = .ok (.lstore 5, 2) := by decide +kernel
theorem d3_25 : decode prog_56_method_4_code 25 = .ok (.lload 5, 2) := by decide +kernel
theorem d3_27 : decode prog_56_method_4_code 27 = .ok (.lconst 0, 1) := by decide +kernel
theorem d3_28 : decode prog_56_method_4_code 28 = .ok (.lcmp, 1) := by decide +kernel
theorem d3_29 : decode prog_56_method_4_code 29 = .ok (.ifCond .le 6, 3) := by decide +kernel
theorem d3_32 : decode prog_56_method_4_code 32 = .ok (.iinc 1 1, 3) := by decide +kernel
theorem d3_35 : decode prog_56_method_4_code 35 = .ok (.iinc 4 1, 3) := by decide +kernel
theorem d3_38 : decode prog_56_method_4_code 38 = .ok (.goto (-25), 3) := by decide +kernel
theorem d3_41 : decode prog_56_method_4_code 41 = .ok (.iload_n 1, 1) := by decide +kernel
theorem d3_42 : decode prog_56_method_4_code 42 = .ok (.newarray .int, 2) := by decide +kernel
theorem d3_44 : decode prog_56_method_4_code 44 = .ok (.astore_n 2, 1) := by decide +kernel
theorem d3_45 : decode prog_56_method_4_code 45 = .ok (.iconst 0, 1) := by decide +kernel
theorem d3_46 : decode prog_56_method_4_code 46 = .ok (.istore_n 3, 1) := by decide +kernel
theorem d3_47 : decode prog_56_method_4_code 47 = .ok (.iconst 0, 1) := by decide +kernel
theorem d3_48 : decode prog_56_method_4_code 48 = .ok (.istore 4, 2) := by decide +kernel
theorem d3_50 : decode prog_56_method_4_code 50 = .ok (.iload 4, 2) := by decide +kernel
theorem d3_52 : decode prog_56_method_4_code 52 = .ok (.aload_n 0, 1) := by decide +kernel
theorem d3_53 : decode prog_56_method_4_code 53 = .ok (.getfield 13, 3) := by decide +kernel
theorem d3_56 : decode prog_56_method_4_code 56 = .ok (.arraylength, 1) := by decide +kernel
theorem d3_57 : decode prog_56_method_4_code 57 = .ok (.if_icmp .ge 29, 3) := by decide +kernel
theorem d3_86 : decode prog_56_method_4_code 86 = .ok (.aload_n 2, 1) := by decide +kernel
theorem d3_87 : decode prog_56_method_4_code 87 = .ok (.areturn, 1) := by decide +kernel
theorem d3_60 : decode prog_56_method_4_code 60 = .ok (.aload_n 0, 1) := by decide +kernel
theorem d3_61 : decode prog_56_method_4_code 61 = .ok (.getfield 13, 3) := by decide +kernel
theorem d3_64 : decode prog_56_method_4_code 64 = .ok (.iload 4, 2) := by decide +kernel
theorem d3_66 : decode prog_56_method_4_code 66 = .ok (.laload, 1) := by decide +kernel
theorem d3_67 : decode prog_56_method_4_code 67 = .ok (.lconst 0, 1) := by decide +kernel
theorem d3_68 : decode prog_56_method_4_code 68 = .ok (.lcmp, 1) := by decide +kernel
theorem d3_69 : decode prog_56_method_4_code 69 = .ok (.ifCond .le 11, 3) := by decide +kernel
theorem d3_72 : decode prog_56_method_4_code 72 = .ok (.aload_n 2, 1) := by decide +kernel
theorem d3_73 : decode prog_56_method_4_code 73 = .ok (.iload_n 3, 1) := by decide +kernel
theorem d3_74 : decode prog_56_method_4_code 74 = .ok (.iinc 3 1, 3) := by decide +kernel
theorem d3_77 : decode prog_56_method_4_code 77 = .ok (.iload 4, 2) := by decide +kernel
theorem d3_79 : decode prog_56_method_4_code 79 = .ok (.iastore, 1) := by decide +kernel
theorem d3_80 : decode prog_56_method_4_code 80 = .ok (.iinc 4 1, 3) := by decide +kernel
theorem d3_83 : decode prog_56_method_4_code 83 = .ok (.goto (-33), 3) := by decide +kernel
theorem pn_1 : plainName "com/example/treesack/treesack/core/SolutionTakenNodesPinLaw" = true := by first | (simp [plainName, overriddenIn]; done) | decide +kernel
theorem pd_0 : parseMethodDescriptor "(J[J)V" = some ⟨[.long, (.array .long)], none⟩ := by decide +kernel
theorem pd_1 : parseMethodDescriptor "()[I" = some ⟨[], some (.array .int)⟩ := by decide +kernel
theorem pd_2 : parseMethodDescriptor "()J" = some ⟨[], some .long⟩ := by decide +kernel
def tk (g : Nat → Int64) : Nat → List Nat
  | 0 => []
  | n + 1 => if 0 < g n then tk g n ++ [n] else tk g n
theorem tk_le (g : Nat → Int64) : ∀ n, (tk g n).length ≤ n
  | 0 => Nat.le_refl _
  | n + 1 => by
    have := tk_le g n
    unfold tk; split <;> simp <;> omega
theorem tk_y {g : Nat → Int64} {n : Nat} (h : 0 < g n) : tk g (n + 1) = tk g n ++ [n] := if_pos h
theorem tk_n {g : Nat → Int64} {n : Nat} (h : ¬ 0 < g n) : tk g (n + 1) = tk g n := if_neg h
theorem tk_mono (g : Nat → Int64) (k : Nat) : ∀ d, (tk g k).length ≤ (tk g (k + d)).length
  | 0 => Nat.le_refl _
  | d + 1 => by
    have := tk_mono g k d
    rw [← Nat.add_assoc]
    by_cases h : 0 < g (k + d)
    · rw [tk_y h]; simp; omega
    · rw [tk_n h]; exact this
theorem tk_lt {g : Nat → Int64} {k n : Nat} (h : 0 < g k) (hk : k < n) : (tk g k).length < (tk g n).length := by
  obtain ⟨d, rfl⟩ : ∃ d, n = k + 1 + d := ⟨n - (k + 1), by omega⟩
  have := tk_mono g (k + 1) d
  rw [tk_y h] at this; simp at this; omega
theorem getD_snoc (l : List Nat) (x j : Nat) (h : j < l.length + 1) : (l ++ [x]).getD j 0 = if j = l.length then x else l.getD j 0 := by
  by_cases q : j = l.length
  · subst q; simp [List.getD]
  · rw [if_neg q]; simp [List.getD, List.getElem?_append_left (show j < l.length by omega)]
theorem on (k : Nat) (h : k < 2147483648) : (Int32.ofNat k).toInt = k := Int32.toInt_ofNat_small h
theorem on_nat (k : Nat) (h : k < 2147483648) : (Int32.ofNat k).toNatClampNeg = k := by
  have := on k h
  have e : (Int32.ofNat k).toNatClampNeg = (Int32.ofNat k).toInt.toNat := rfl
  omega
theorem on_succ (k : Nat) : Int32.ofNat k + (1 : Int32) = Int32.ofNat (k + 1) := by rw [Int32.ofNat_add]; rfl
theorem on_lt (a b : Nat) (ha : a < 2147483648) (hb : b < 2147483648) : Int32.ofNat a < Int32.ofNat b ↔ a < b := by
  rw [Int32.lt_iff_toInt_lt, on a ha, on b hb]; omega
/-- the array holds the first taken indexes -/
def Tkn (f : Nat → Value) (t : List Nat) : Prop := ∀ j, j < t.length → f j = .int (Int32.ofNat (t.getD j 0))
theorem Tkn.snoc {f : Nat → Value} {t : List Nat} (h : Tkn f t) {x sl : Nat} (hs : sl = t.length) : Tkn (fun i => if i = sl then .int (Int32.ofNat x) else f i) (t ++ [x]) := fun j hj => by
  subst hs
  rw [List.length_append] at hj
  rw [getD_snoc _ _ _ (by simpa using hj)]
  by_cases q : j = t.length
  · rw [if_pos q]; dsimp only; rw [if_pos q]
  · rw [if_neg q]; dsimp only; rw [if_neg q]; exact h j (by simp at hj; omega)
def Two (a b : Slot) : Prop := (a = .unset ∧ b = .unset) ∨ ∃ v : Int64, a = .val (.long v) ∧ b = .second
theorem two5 {a u : Addr} {c n i : Int32} {s5 s6 : Slot} {v : Int64} (h : Two s5 s6) : storeLocals #[.val (.ref a), .val (.int c), .val (.ref u), .val (.int n), .val (.int i), s5, s6] 5 (.long v) = some #[.val (.ref a), .val (.int c), .val (.ref u), .val (.int n), .val (.int i), .val (.long v), .second] := by
  rcases h with ⟨rfl, rfl⟩ | ⟨w, rfl, rfl⟩ <;> rfl
def SoQ (Z : State) (a u : Addr) (v : Int64) (h0 : Heap) (n0 : Nat) : Option Value → Heap → List Loc → Prop := fun r h L => r = none ∧ Fr n0 L ∧ Keep h0 h [a] ∧ Fld Z h a "com/example/treesack/treesack/core/Solution" "value" "J" (.long v) ∧ Fld Z h a "com/example/treesack/treesack/core/Solution" "uses" "[J" (.ref u)
theorem ef_c_ini (m : MethodId) (x0 : Addr) (x1 : Int64) (x2 : Addr) : entryFrame m #[(.ref x0), (.long x1), (.ref x2)] 4 = mkF m 0 #[.val (.ref x0), .val (.long x1), .second, .val (.ref x2)] [] := by first | (simp [entryFrame, mkF, argsToLocals, Value.category]; done) | rfl
set_option maxRecDepth 65536 in
set_option maxHeartbeats 40000000 in
theorem c_ini (l : Launch) (Z : State) (a0 : Array Value) (hw : ∀ d ∈ tables_1, d.before a0 Z = true) (a u : Addr) (v : Int64) (h0 : Heap) (n0 : Nat) (Z0 : n0 ≤ h0.size) (Ex : Exa Z h0 a "com/example/treesack/treesack/core/Solution") (Fv : Fld Z h0 a "com/example/treesack/treesack/core/Solution" "value" "J" (.long (0 : Int64))) (Fu : Fld Z h0 a "com/example/treesack/treesack/core/Solution" "uses" "[J" .null) (ga : n0 ≤ a) :
    Con l Z (⟨"com/example/treesack/treesack/core/Solution", "<init>", "(J[J)V"⟩ : MethodName) prog_56_method_1_code 4 none ({ frames := 1, cells := 0, slots := 0, locals := 12 } : Room) #[(.ref a), (.long v), (.ref u)] h0 (SoQ Z a u v h0 n0) := by
  refine Con.intro (plainFor_of_name pn_0) ?_
  intro p e s m below meth c s₁ hx hby hml hrt hlk hZ hown hnm X0 e0
  replace hown : s.vm.findClass "com/example/treesack/treesack/core/Solution" = some m.cls := hown
  have N0 := Fr.nil n0
  refine GoOn.cast (ef_c_ini m a v u) ?_
  show GoOn p e below _ (s₁.setTop (mkF m 0 #[.val (.ref a), .val (.long v), .second, .val (.ref u)] []))
  have K0 : Keep h0 h0 [a] := Keep.refl _ _
  refine GoOn.step (fun t₀ k₀ => XS.aloadN X0.here hx rfl (hb hby d1_0) rfl rfl k₀) ?_
  show GoOn p e below _ (s₁.setTop (mkF m 1 #[.val (.ref a), .val (.long v), .second, .val (.ref u)] [(.ref a)]))
  obtain ⟨T1, X1, e1, st1⟩ := initO X0 hx hZ hown (hw _ (List.mem_of_getElem? (i := 9) rfl)) (hw _ (List.mem_of_getElem? (i := 10) rfl)) (hw _ (List.mem_of_getElem? (i := 11) rfl)) e0 (g := (mkF m 1 #[.val (.ref a), .val (.long v), .second, .val (.ref u)] [(.ref a)])) rfl (by rw [hml]; rfl) rfl (hb hby d1_1) (by decide) (W := 0) (by show 2 * 0 + _ ≤ _; exact Nat.le_of_eq rfl) (by decide)
  refine GoOn.step st1 ?_
  show GoOn p e below _ (T1.setTop (mkF m 4 #[.val (.ref a), .val (.long v), .second, .val (.ref u)] []))
  refine GoOn.step (fun t₀ k₀ => XS.aloadN X1.here hx rfl (hb hby d1_4) rfl rfl k₀) ?_
  show GoOn p e below _ (T1.setTop (mkF m 5 #[.val (.ref a), .val (.long v), .second, .val (.ref u)] [(.ref a)]))
  refine GoOn.step (fun t₀ k₀ => XS.lloadN X1.here hx rfl (hb hby d1_5) rfl k₀) ?_
  show GoOn p e below _ (T1.setTop (mkF m 6 #[.val (.ref a), .val (.long v), .second, .val (.ref u)] [(.long v), (.ref a)]))
  obtain ⟨T2, h2, X2, e2, W2, st2⟩ := putF X1 hx hZ hown (host := "") (Or.inl (hw _ (List.mem_of_getElem? (i := 12) rfl))) Via.refl e1 Fv Ex (Or.inr ⟨(hw _ (List.mem_of_getElem? (i := 13) rfl)), rfl, hnm⟩) (hw _ (List.mem_of_getElem? (i := 4) rfl)) (ty := .long) (by decide) rfl rfl (g := (mkF m 6 #[.val (.ref a), .val (.long v), .second, .val (.ref u)] [(.long v), (.ref a)])) rfl rfl (hb hby d1_6)
  replace N0 := Fr.snoc X2 N0 ga
  replace Ex := Ex.wr W2
  replace Fv := Fld.same W2 Fv
  replace Fu := Fu.other W2 (Or.inr (slot_ne (Or.inr (hw _ (List.mem_of_getElem? (i := 15) rfl))) (Or.inr (hw _ (List.mem_of_getElem? (i := 13) rfl))) (by decide) (t := (.array .long)) (t' := .long) (by decide) (by decide)))
  replace Z0 := Nat.le_trans Z0 (Nat.le_of_eq W2.size.symm)
  replace K0 := K0.wr W2 (Or.inl (by simp))
  refine GoOn.step st2 ?_
  show GoOn p e below _ (T2.setTop (mkF m 9 #[.val (.ref a), .val (.long v), .second, .val (.ref u)] []))
  refine GoOn.step (fun t₀ k₀ => XS.aloadN X2.here hx rfl (hb hby d1_9) rfl rfl k₀) ?_
  show GoOn p e below _ (T2.setTop (mkF m 10 #[.val (.ref a), .val (.long v), .second, .val (.ref u)] [(.ref a)]))
  refine GoOn.step (fun t₀ k₀ => XS.aloadN X2.here hx rfl (hb hby d1_10) rfl rfl k₀) ?_
  show GoOn p e below _ (T2.setTop (mkF m 11 #[.val (.ref a), .val (.long v), .second, .val (.ref u)] [(.ref u), (.ref a)]))
  obtain ⟨T3, h3, X3, e3, W3, st3⟩ := putF X2 hx hZ hown (host := "") (Or.inl (hw _ (List.mem_of_getElem? (i := 14) rfl))) Via.refl e2 Fu Ex (Or.inr ⟨(hw _ (List.mem_of_getElem? (i := 15) rfl)), rfl, hnm⟩) (hw _ (List.mem_of_getElem? (i := 4) rfl)) (ty := (.array .long)) (by decide) rfl rfl (g := (mkF m 11 #[.val (.ref a), .val (.long v), .second, .val (.ref u)] [(.ref u), (.ref a)])) rfl rfl (hb hby d1_11)
  replace N0 := Fr.snoc X3 N0 ga
  replace Ex := Ex.wr W3
  replace Fv := Fv.other W3 (Or.inr (slot_ne (Or.inr (hw _ (List.mem_of_getElem? (i := 13) rfl))) (Or.inr (hw _ (List.mem_of_getElem? (i := 15) rfl))) (by decide) (t := .long) (t' := (.array .long)) (by decide) (by decide)))
  replace Fu := Fld.same W3 Fu
  replace Z0 := Nat.le_trans Z0 (Nat.le_of_eq W3.size.symm)
  replace K0 := K0.wr W3 (Or.inl (by simp))
  refine GoOn.step st3 ?_
  show GoOn p e below _ (T3.setTop (mkF m 14 #[.val (.ref a), .val (.long v), .second, .val (.ref u)] []))
  exact GoOn.ret0 X3 hx hrt hlk (hb hby d1_14) (by decide) (by decide) (by first | exact ⟨rfl, N0, K0, Fv, Fu⟩ | (rw [e3]; exact ⟨rfl, N0, K0, Fv, Fu⟩))
theorem ef_c_val (m : MethodId) (x0 : Addr) : entryFrame m #[(.ref x0)] 1 = mkF m 0 #[.val (.ref x0)] [] := by first | (simp [entryFrame, mkF, argsToLocals, Value.category]; done) | rfl
set_option maxRecDepth 65536 in
set_option maxHeartbeats 40000000 in
theorem c_val (l : Launch) (Z : State) (a0 : Array Value) (hw : ∀ d ∈ tables_1, d.before a0 Z = true) (a : Addr) (v : Int64) (h0 : Heap) (F : Fld Z h0 a "com/example/treesack/treesack/core/Solution" "value" "J" (.long v)) :
    Con l Z (⟨"com/example/treesack/treesack/core/Solution", "value", "()J"⟩ : MethodName) prog_56_method_2_code 1 (some .long) ({ frames := 0, cells := 0, slots := 0, locals := 0 } : Room) #[(.ref a)] h0 (PQ (some (.long v)) h0) := by
  refine Con.intro (plainFor_of_name pn_0) ?_
  intro p e s m below meth c s₁ hx hby hml hrt hlk hZ hown hnm X0 e0
  replace hown : s.vm.findClass "com/example/treesack/treesack/core/Solution" = some m.cls := hown
  refine GoOn.cast (ef_c_val m a) ?_
  show GoOn p e below _ (s₁.setTop (mkF m 0 #[.val (.ref a)] []))
  refine GoOn.step (fun t₀ k₀ => XS.aloadN X0.here hx rfl (hb hby d4_0) rfl rfl k₀) ?_
  show GoOn p e below _ (s₁.setTop (mkF m 1 #[.val (.ref a)] [(.ref a)]))
  obtain ⟨T4, X4, e4, st4⟩ := getF X0 hx hZ hown (host := "") (Or.inl (hw _ (List.mem_of_getElem? (i := 12) rfl))) Via.refl e0 F (g := (mkF m 1 #[.val (.ref a)] [(.ref a)])) rfl rfl (hb hby d4_1)
  refine GoOn.step st4 ?_
  show GoOn p e below _ (T4.setTop (mkF m 4 #[.val (.ref a)] [(.long v)]))
  exact GoOn.retJ X4 hx hrt hlk (hb hby d4_4) (by decide) (by decide) (by first | exact ⟨rfl, rfl, rfl⟩ | (rw [e4]; exact ⟨rfl, rfl, rfl⟩))
def TnQ (Z : State) (g : Nat → Int64) (n : Nat) (h0 : Heap) (n0 : Nat) : Option Value → Heap → List Loc → Prop := fun r h L => ∃ b f, r = some (.ref b) ∧ Fr n0 L ∧ Keep h0 h [] ∧ h0.size ≤ b ∧ Jar Z h b .int (tk g n).length f ∧ Tkn f (tk g n)
theorem ef_c_tn (m : MethodId) (x0 : Addr) : entryFrame m #[(.ref x0)] 7 = mkF m 0 #[.val (.ref x0), .unset, .unset, .unset, .unset, .unset, .unset] [] := by first | (simp [entryFrame, mkF, argsToLocals, Value.category]; done) | rfl
set_option maxRecDepth 65536 in
set_option maxHeartbeats 40000000 in
theorem c_tn (l : Launch) (Z : State) (a0 : Array Value) (hw : ∀ d ∈ tables_1, d.before a0 Z = true) (a u : Addr) (n : Nat) (g : Nat → Int64) (h0 : Heap) (n0 : Nat) (Z0 : n0 ≤ h0.size) (hn : n ≤ 4) (Fu : Fld Z h0 a "com/example/treesack/treesack/core/Solution" "uses" "[J" (.ref u)) (Ju : Jar Z h0 u .long n (fun i => .long (g i))) :
    Con l Z (⟨"com/example/treesack/treesack/core/Solution", "takenNodes", "()[I"⟩ : MethodName) prog_56_method_4_code 7 (some (.array .int)) ({ frames := 0, cells := 1, slots := 4, locals := 0 } : Room) #[(.ref a)] h0 (TnQ Z g n h0 n0) := by
  refine Con.intro (plainFor_of_name pn_0) ?_
  intro p e s m below meth c s₁ hx hby hml hrt hlk hZ hown hnm X0 e0
  replace hown : s.vm.findClass "com/example/treesack/treesack/core/Solution" = some m.cls := hown
  have N0 := Fr.nil n0
  refine GoOn.cast (ef_c_tn m a) ?_
  show GoOn p e below _ (s₁.setTop (mkF m 0 #[.val (.ref a), .unset, .unset, .unset, .unset, .unset, .unset] []))
  have hn' := tk_le g n
  refine GoOn.step (fun t₀ k₀ => XS.iconst X0.here hx rfl (hb hby d3_0) k₀) ?_
  show GoOn p e below _ (s₁.setTop (mkF m 1 #[.val (.ref a), .unset, .unset, .unset, .unset, .unset, .unset] [(.int (0 : Int32))]))
  refine GoOn.step (fun t₀ k₀ => XS.istoreN X0.here hx rfl (hb hby d3_1) rfl (l' := #[.val (.ref a), .val (.int (0 : Int32)), .unset, .unset, .unset, .unset, .unset]) rfl k₀) ?_
  show GoOn p e below _ (s₁.setTop (mkF m 2 #[.val (.ref a), .val (.int (0 : Int32)), .unset, .unset, .unset, .unset, .unset] []))
  refine GoOn.step (fun t₀ k₀ => XS.aloadN X0.here hx rfl (hb hby d3_2) rfl rfl k₀) ?_
  show GoOn p e below _ (s₁.setTop (mkF m 3 #[.val (.ref a), .val (.int (0 : Int32)), .unset, .unset, .unset, .unset, .unset] [(.ref a)]))
  obtain ⟨T5, X5, e5, st5⟩ := getF X0 hx hZ hown (host := "") (Or.inl (hw _ (List.mem_of_getElem? (i := 14) rfl))) Via.refl e0 Fu (g := (mkF m 3 #[.val (.ref a), .val (.int (0 : Int32)), .unset, .unset, .unset, .unset, .unset] [(.ref a)])) rfl rfl (hb hby d3_3)
  refine GoOn.step st5 ?_
  show GoOn p e below _ (T5.setTop (mkF m 6 #[.val (.ref a), .val (.int (0 : Int32)), .unset, .unset, .unset, .unset, .unset] [(.ref u)]))
  refine GoOn.step (fun t₀ k₀ => XS.astoreN X5.here hx rfl (hb hby d3_6) rfl rfl (l' := #[.val (.ref a), .val (.int (0 : Int32)), .val (.ref u), .unset, .unset, .unset, .unset]) rfl k₀) ?_
  show GoOn p e below _ (T5.setTop (mkF m 7 #[.val (.ref a), .val (.int (0 : Int32)), .val (.ref u), .unset, .unset, .unset, .unset] []))
  refine GoOn.step (fun t₀ k₀ => XS.aloadN X5.here hx rfl (hb hby d3_7) rfl rfl k₀) ?_
  show GoOn p e below _ (T5.setTop (mkF m 8 #[.val (.ref a), .val (.int (0 : Int32)), .val (.ref u), .unset, .unset, .unset, .unset] [(.ref u)]))
  refine GoOn.step (fun t₀ k₀ => kLen X5 hx hZ e5 Ju (z := (Int32.ofNat n)) rfl (g := (mkF m 8 #[.val (.ref a), .val (.int (0 : Int32)), .val (.ref u), .unset, .unset, .unset, .unset] [(.ref u)])) rfl rfl (hb hby d3_8) t₀ k₀) ?_
  show GoOn p e below _ (T5.setTop (mkF m 9 #[.val (.ref a), .val (.int (0 : Int32)), .val (.ref u), .unset, .unset, .unset, .unset] [(.int (Int32.ofNat n))]))
  refine GoOn.step (fun t₀ k₀ => XS.istoreN X5.here hx rfl (hb hby d3_9) rfl (l' := #[.val (.ref a), .val (.int (0 : Int32)), .val (.ref u), .val (.int (Int32.ofNat n)), .unset, .unset, .unset]) rfl k₀) ?_
  show GoOn p e below _ (T5.setTop (mkF m 10 #[.val (.ref a), .val (.int (0 : Int32)), .val (.ref u), .val (.int (Int32.ofNat n)), .unset, .unset, .unset] []))
  refine GoOn.step (fun t₀ k₀ => XS.iconst X5.here hx rfl (hb hby d3_10) k₀) ?_
  show GoOn p e below _ (T5.setTop (mkF m 11 #[.val (.ref a), .val (.int (0 : Int32)), .val (.ref u), .val (.int (Int32.ofNat n)), .unset, .unset, .unset] [(.int (0 : Int32))]))
  refine GoOn.step (fun t₀ k₀ => XS.istore X5.here hx rfl (hb hby d3_11) rfl (l' := #[.val (.ref a), .val (.int (0 : Int32)), .val (.ref u), .val (.int (Int32.ofNat n)), .val (.int (0 : Int32)), .unset, .unset]) rfl k₀) ?_
  show GoOn p e below _ (T5.setTop (mkF m 13 #[.val (.ref a), .val (.int (0 : Int32)), .val (.ref u), .val (.int (Int32.ofNat n)), .val (.int (0 : Int32)), .unset, .unset] []))
  have JB : ∀ (s5 s6 : Slot), GoOn p e below (EndQ s ({ frames := 0, cells := 1, slots := 4, locals := 0 } : Room) (TnQ Z g n h0 n0)) (T5.setTop (mkF m 41 #[.val (.ref a), .val (.int (Int32.ofNat (tk g n).length)), .val (.ref u), .val (.int (Int32.ofNat n)), .val (.int (Int32.ofNat n)), s5, s6] [])) := by
    intro s5 s6
    have K0 : Keep h0 h0 [] := Keep.refl _ _
    have hl := on (tk g n).length (by omega)
    refine GoOn.step (fun t₀ k₀ => XS.iloadN X5.here hx rfl (hb hby d3_41) rfl k₀) ?_
    show GoOn p e below _ (T5.setTop (mkF m 42 #[.val (.ref a), .val (.int (Int32.ofNat (tk g n).length)), .val (.ref u), .val (.int (Int32.ofNat n)), .val (.int (Int32.ofNat n)), s5, s6] [(.int (Int32.ofNat (tk g n).length))]))
    obtain ⟨T8, h8, k8, X8, e8, E8, A8, st8⟩ := newP X5 hx hZ (hw _ (List.mem_of_getElem? (i := 2) rfl)) e5 (g := (mkF m 42 #[.val (.ref a), .val (.int (Int32.ofNat (tk g n).length)), .val (.ref u), .val (.int (Int32.ofNat n)), .val (.int (Int32.ofNat n)), s5, s6] [(.int (Int32.ofNat (tk g n).length))])) rfl (hb hby d3_42) rfl (by rw [Int32.lt_iff_toInt_lt, hl, show (0 : Int32).toInt = 0 from by decide]; omega) (cap := 4) (by rw [on_nat _ (by omega)]; omega) (by decide) (by decide) (by decide)
    obtain ⟨b, g8⟩ : ∃ z, z = h0.size := ⟨_, rfl⟩
    rw [← g8] at A8 st8
    have lt_a_b : a < b := by rw [g8]; exact Fu.lt
    have ne_a_b : a ≠ b := Nat.ne_of_lt lt_a_b
    have lt_u_b : u < b := by rw [g8]; exact Ju.lt
    have ne_u_b : u ≠ b := Nat.ne_of_lt lt_u_b
    have le_b : n0 ≤ b := by rw [g8]; exact Z0
    have sz_b : h0.size ≤ b := by rw [g8]; exact K0.1
    replace Fu := Fu.ext E8
    replace Ju := Ju.ext E8
    replace Z0 := Nat.le_trans Z0 E8.1
    replace K0 := K0.ext E8
    have J_b : Jar Z h8 b .int (tk g n).length (fun _ => defaultValue .int) := Jar.new A8 (on_nat _ (by omega))
    refine GoOn.step st8 ?_
    show GoOn p e below _ (T8.setTop (mkF m 44 #[.val (.ref a), .val (.int (Int32.ofNat (tk g n).length)), .val (.ref u), .val (.int (Int32.ofNat n)), .val (.int (Int32.ofNat n)), s5, s6] [(.ref b)]))
    refine GoOn.step (fun t₀ k₀ => XS.astoreN X8.here hx rfl (hb hby d3_44) rfl rfl (l' := #[.val (.ref a), .val (.int (Int32.ofNat (tk g n).length)), .val (.ref b), .val (.int (Int32.ofNat n)), .val (.int (Int32.ofNat n)), s5, s6]) rfl k₀) ?_
    show GoOn p e below _ (T8.setTop (mkF m 45 #[.val (.ref a), .val (.int (Int32.ofNat (tk g n).length)), .val (.ref b), .val (.int (Int32.ofNat n)), .val (.int (Int32.ofNat n)), s5, s6] []))
    refine GoOn.step (fun t₀ k₀ => XS.iconst X8.here hx rfl (hb hby d3_45) k₀) ?_
    show GoOn p e below _ (T8.setTop (mkF m 46 #[.val (.ref a), .val (.int (Int32.ofNat (tk g n).length)), .val (.ref b), .val (.int (Int32.ofNat n)), .val (.int (Int32.ofNat n)), s5, s6] [(.int (0 : Int32))]))
    refine GoOn.step (fun t₀ k₀ => XS.istoreN X8.here hx rfl (hb hby d3_46) rfl (l' := #[.val (.ref a), .val (.int (Int32.ofNat (tk g n).length)), .val (.ref b), .val (.int (0 : Int32)), .val (.int (Int32.ofNat n)), s5, s6]) rfl k₀) ?_
    show GoOn p e below _ (T8.setTop (mkF m 47 #[.val (.ref a), .val (.int (Int32.ofNat (tk g n).length)), .val (.ref b), .val (.int (0 : Int32)), .val (.int (Int32.ofNat n)), s5, s6] []))
    refine GoOn.step (fun t₀ k₀ => XS.iconst X8.here hx rfl (hb hby d3_47) k₀) ?_
    show GoOn p e below _ (T8.setTop (mkF m 48 #[.val (.ref a), .val (.int (Int32.ofNat (tk g n).length)), .val (.ref b), .val (.int (0 : Int32)), .val (.int (Int32.ofNat n)), s5, s6] [(.int (0 : Int32))]))
    refine GoOn.step (fun t₀ k₀ => XS.istore X8.here hx rfl (hb hby d3_48) rfl (l' := #[.val (.ref a), .val (.int (Int32.ofNat (tk g n).length)), .val (.ref b), .val (.int (0 : Int32)), .val (.int (0 : Int32)), s5, s6]) rfl k₀) ?_
    show GoOn p e below _ (T8.setTop (mkF m 50 #[.val (.ref a), .val (.int (Int32.ofNat (tk g n).length)), .val (.ref b), .val (.int (0 : Int32)), .val (.int (0 : Int32)), s5, s6] []))
    have JC : ∀ (d : Nat) (k : Nat) (f : Nat → Value) (T9 : State) (l9 : List Loc) (h9 : Heap) (_ : Stand p l e ({ frames := 0, cells := 1, slots := 4, locals := 0 } : Room) s m #[(.ref a)] below meth c T9 l9 1 4) (_ : T9.heap = h9) (_ : Fr n0 l9) (_ : n0 ≤ h9.size) (_ : Keep h0 h9 []) (_ : Fld Z h9 a "com/example/treesack/treesack/core/Solution" "uses" "[J" (.ref u)) (_ : Jar Z h9 u .long n (fun i => .long (g i))) (_ : Jar Z h9 b .int (tk g n).length f) (_ : k + d = n) (_ : Tkn f (tk g k)), GoOn p e below (EndQ s ({ frames := 0, cells := 1, slots := 4, locals := 0 } : Room) (TnQ Z g n h0 n0)) (T9.setTop (mkF m 50 #[.val (.ref a), .val (.int (Int32.ofNat (tk g n).length)), .val (.ref b), .val (.int (Int32.ofNat (tk g k).length)), .val (.int (Int32.ofNat k)), s5, s6] [])) := by
      intro d
      induction d with
      | zero =>
        intro k f T9 l9 h9 X9 e9 N0 Z0 K0 Fu Ju J_b hk ht
        obtain rfl : n = k := by omega
        show GoOn p e below _ (T9.setTop (mkF m 50 #[.val (.ref a), .val (.int (Int32.ofNat (tk g n).length)), .val (.ref b), .val (.int (Int32.ofNat (tk g n).length)), .val (.int (Int32.ofNat n)), s5, s6] []))
        refine GoOn.step (fun t₀ k₀ => XS.iload X9.here hx rfl (hb hby d3_50) rfl k₀) ?_
        show GoOn p e below _ (T9.setTop (mkF m 52 #[.val (.ref a), .val (.int (Int32.ofNat (tk g n).length)), .val (.ref b), .val (.int (Int32.ofNat (tk g n).length)), .val (.int (Int32.ofNat n)), s5, s6] [(.int (Int32.ofNat n))]))
        refine GoOn.step (fun t₀ k₀ => XS.aloadN X9.here hx rfl (hb hby d3_52) rfl rfl k₀) ?_
        show GoOn p e below _ (T9.setTop (mkF m 53 #[.val (.ref a), .val (.int (Int32.ofNat (tk g n).length)), .val (.ref b), .val (.int (Int32.ofNat (tk g n).length)), .val (.int (Int32.ofNat n)), s5, s6] [(.ref a), (.int (Int32.ofNat n))]))
        obtain ⟨T10, X10, e10, st10⟩ := getF X9 hx hZ hown (host := "") (Or.inl (hw _ (List.mem_of_getElem? (i := 14) rfl))) Via.refl e9 Fu (g := (mkF m 53 #[.val (.ref a), .val (.int (Int32.ofNat (tk g n).length)), .val (.ref b), .val (.int (Int32.ofNat (tk g n).length)), .val (.int (Int32.ofNat n)), s5, s6] [(.ref a), (.int (Int32.ofNat n))])) rfl rfl (hb hby d3_53)
        refine GoOn.step st10 ?_
        show GoOn p e below _ (T10.setTop (mkF m 56 #[.val (.ref a), .val (.int (Int32.ofNat (tk g n).length)), .val (.ref b), .val (.int (Int32.ofNat (tk g n).length)), .val (.int (Int32.ofNat n)), s5, s6] [(.ref u), (.int (Int32.ofNat n))]))
        refine GoOn.step (fun t₀ k₀ => kLen X10 hx hZ e10 Ju (z := (Int32.ofNat n)) rfl (g := (mkF m 56 #[.val (.ref a), .val (.int (Int32.ofNat (tk g n).length)), .val (.ref b), .val (.int (Int32.ofNat (tk g n).length)), .val (.int (Int32.ofNat n)), s5, s6] [(.ref u), (.int (Int32.ofNat n))])) rfl rfl (hb hby d3_56) t₀ k₀) ?_
        show GoOn p e below _ (T10.setTop (mkF m 57 #[.val (.ref a), .val (.int (Int32.ofNat (tk g n).length)), .val (.ref b), .val (.int (Int32.ofNat (tk g n).length)), .val (.int (Int32.ofNat n)), s5, s6] [(.int (Int32.ofNat n)), (.int (Int32.ofNat n))]))
        have hf11 : ¬ ((Int32.ofNat n) < (Int32.ofNat n)) := (by rw [on_lt _ _ (by omega) (by omega)]; omega)
        refine GoOn.step (fun t₀ k₀ => XS.icmpYes X10.here hx rfl (pc0 := 57) (pc' := 86) rfl (hb hby d3_57) rfl (flt hf11).2.1 (by decide) (by decide) k₀) ?_
        show GoOn p e below _ (T10.setTop (mkF m 86 #[.val (.ref a), .val (.int (Int32.ofNat (tk g n).length)), .val (.ref b), .val (.int (Int32.ofNat (tk g n).length)), .val (.int (Int32.ofNat n)), s5, s6] []))
        refine GoOn.step (fun t₀ k₀ => XS.aloadN X10.here hx rfl (hb hby d3_86) rfl rfl k₀) ?_
        show GoOn p e below _ (T10.setTop (mkF m 87 #[.val (.ref a), .val (.int (Int32.ofNat (tk g n).length)), .val (.ref b), .val (.int (Int32.ofNat (tk g n).length)), .val (.int (Int32.ofNat n)), s5, s6] [(.ref b)]))
        exact GoOn.retR X10 hx hrt rfl hlk rfl (hb hby d3_87) (by decide) (by decide) (by first | exact ⟨b, f, rfl, N0, K0, sz_b, J_b, ht⟩ | (rw [e10]; exact ⟨b, f, rfl, N0, K0, sz_b, J_b, ht⟩))
      | succ d ih =>
        intro k f T9 l9 h9 X9 e9 N0 Z0 K0 Fu Ju J_b hk ht
        show GoOn p e below _ (T9.setTop (mkF m 50 #[.val (.ref a), .val (.int (Int32.ofNat (tk g n).length)), .val (.ref b), .val (.int (Int32.ofNat (tk g k).length)), .val (.int (Int32.ofNat k)), s5, s6] []))
        refine GoOn.step (fun t₀ k₀ => XS.iload X9.here hx rfl (hb hby d3_50) rfl k₀) ?_
        show GoOn p e below _ (T9.setTop (mkF m 52 #[.val (.ref a), .val (.int (Int32.ofNat (tk g n).length)), .val (.ref b), .val (.int (Int32.ofNat (tk g k).length)), .val (.int (Int32.ofNat k)), s5, s6] [(.int (Int32.ofNat k))]))
        refine GoOn.step (fun t₀ k₀ => XS.aloadN X9.here hx rfl (hb hby d3_52) rfl rfl k₀) ?_
        show GoOn p e below _ (T9.setTop (mkF m 53 #[.val (.ref a), .val (.int (Int32.ofNat (tk g n).length)), .val (.ref b), .val (.int (Int32.ofNat (tk g k).length)), .val (.int (Int32.ofNat k)), s5, s6] [(.ref a), (.int (Int32.ofNat k))]))
        obtain ⟨T12, X12, e12, st12⟩ := getF X9 hx hZ hown (host := "") (Or.inl (hw _ (List.mem_of_getElem? (i := 14) rfl))) Via.refl e9 Fu (g := (mkF m 53 #[.val (.ref a), .val (.int (Int32.ofNat (tk g n).length)), .val (.ref b), .val (.int (Int32.ofNat (tk g k).length)), .val (.int (Int32.ofNat k)), s5, s6] [(.ref a), (.int (Int32.ofNat k))])) rfl rfl (hb hby d3_53)
        refine GoOn.step st12 ?_
        show GoOn p e below _ (T12.setTop (mkF m 56 #[.val (.ref a), .val (.int (Int32.ofNat (tk g n).length)), .val (.ref b), .val (.int (Int32.ofNat (tk g k).length)), .val (.int (Int32.ofNat k)), s5, s6] [(.ref u), (.int (Int32.ofNat k))]))
        refine GoOn.step (fun t₀ k₀ => kLen X12 hx hZ e12 Ju (z := (Int32.ofNat n)) rfl (g := (mkF m 56 #[.val (.ref a), .val (.int (Int32.ofNat (tk g n).length)), .val (.ref b), .val (.int (Int32.ofNat (tk g k).length)), .val (.int (Int32.ofNat k)), s5, s6] [(.ref u), (.int (Int32.ofNat k))])) rfl rfl (hb hby d3_56) t₀ k₀) ?_
        show GoOn p e below _ (T12.setTop (mkF m 57 #[.val (.ref a), .val (.int (Int32.ofNat (tk g n).length)), .val (.ref b), .val (.int (Int32.ofNat (tk g k).length)), .val (.int (Int32.ofNat k)), s5, s6] [(.int (Int32.ofNat n)), (.int (Int32.ofNat k))]))
        have hf13 : (Int32.ofNat k) < (Int32.ofNat n) := (by rw [on_lt _ _ (by omega) (by omega)]; omega)
        refine GoOn.step (fun t₀ k₀ => XS.icmpNo X12.here hx rfl (hb hby d3_57) rfl (tlt hf13).2.1 k₀) ?_
        show GoOn p e below _ (T12.setTop (mkF m 60 #[.val (.ref a), .val (.int (Int32.ofNat (tk g n).length)), .val (.ref b), .val (.int (Int32.ofNat (tk g k).length)), .val (.int (Int32.ofNat k)), s5, s6] []))
        refine GoOn.step (fun t₀ k₀ => XS.aloadN X12.here hx rfl (hb hby d3_60) rfl rfl k₀) ?_
        show GoOn p e below _ (T12.setTop (mkF m 61 #[.val (.ref a), .val (.int (Int32.ofNat (tk g n).length)), .val (.ref b), .val (.int (Int32.ofNat (tk g k).length)), .val (.int (Int32.ofNat k)), s5, s6] [(.ref a)]))
        obtain ⟨T14, X14, e14, st14⟩ := getF X12 hx hZ hown (host := "") (Or.inl (hw _ (List.mem_of_getElem? (i := 14) rfl))) Via.refl e12 Fu (g := (mkF m 61 #[.val (.ref a), .val (.int (Int32.ofNat (tk g n).length)), .val (.ref b), .val (.int (Int32.ofNat (tk g k).length)), .val (.int (Int32.ofNat k)), s5, s6] [(.ref a)])) rfl rfl (hb hby d3_61)
        refine GoOn.step st14 ?_
        show GoOn p e below _ (T14.setTop (mkF m 64 #[.val (.ref a), .val (.int (Int32.ofNat (tk g n).length)), .val (.ref b), .val (.int (Int32.ofNat (tk g k).length)), .val (.int (Int32.ofNat k)), s5, s6] [(.ref u)]))
        refine GoOn.step (fun t₀ k₀ => XS.iload X14.here hx rfl (hb hby d3_64) rfl k₀) ?_
        show GoOn p e below _ (T14.setTop (mkF m 66 #[.val (.ref a), .val (.int (Int32.ofNat (tk g n).length)), .val (.ref b), .val (.int (Int32.ofNat (tk g k).length)), .val (.int (Int32.ofNat k)), s5, s6] [(.int (Int32.ofNat k)), (.ref u)]))
        have hbk := on k (by omega)
        refine GoOn.step (fun t₀ k₀ => kLdJ X14 hx hZ e14 Ju (j := (Int32.ofNat k)) (v := (.long (g k))) ⟨by omega, by omega⟩ (by rw [on_nat k (by omega)]) (g := (mkF m 66 #[.val (.ref a), .val (.int (Int32.ofNat (tk g n).length)), .val (.ref b), .val (.int (Int32.ofNat (tk g k).length)), .val (.int (Int32.ofNat k)), s5, s6] [(.int (Int32.ofNat k)), (.ref u)])) rfl rfl (hb hby d3_66) t₀ k₀) ?_
        show GoOn p e below _ (T14.setTop (mkF m 67 #[.val (.ref a), .val (.int (Int32.ofNat (tk g n).length)), .val (.ref b), .val (.int (Int32.ofNat (tk g k).length)), .val (.int (Int32.ofNat k)), s5, s6] [(.long (g k))]))
        refine GoOn.step (fun t₀ k₀ => XS.lconst X14.here hx rfl (hb hby d3_67) k₀) ?_
        show GoOn p e below _ (T14.setTop (mkF m 68 #[.val (.ref a), .val (.int (Int32.ofNat (tk g n).length)), .val (.ref b), .val (.int (Int32.ofNat (tk g k).length)), .val (.int (Int32.ofNat k)), s5, s6] [(.long (0 : Int64)), (.long (g k))]))
        refine GoOn.step (fun t₀ k₀ => XS.lcmp X14.here hx rfl (hb hby d3_68) rfl k₀) ?_
        show GoOn p e below _ (T14.setTop (mkF m 69 #[.val (.ref a), .val (.int (Int32.ofNat (tk g n).length)), .val (.ref b), .val (.int (Int32.ofNat (tk g k).length)), .val (.int (Int32.ofNat k)), s5, s6] [(.int (lcmpW (g k) (0 : Int64)))]))
        by_cases hc : (0 : Int64) < (g k)
        · refine GoOn.step (fun t₀ k₀ => XS.ifNo X14.here hx rfl (hb hby d3_69) rfl ((if0 _ _).trans (tlt ((lw_gt _ _).mpr hc)).2.2.2) k₀) ?_
          show GoOn p e below _ (T14.setTop (mkF m 72 #[.val (.ref a), .val (.int (Int32.ofNat (tk g n).length)), .val (.ref b), .val (.int (Int32.ofNat (tk g k).length)), .val (.int (Int32.ofNat k)), s5, s6] []))
          have q1 := tk_lt hc (show k < n by omega)
          have q2 := on (tk g k).length (by omega)
          refine GoOn.step (fun t₀ k₀ => XS.aloadN X14.here hx rfl (hb hby d3_72) rfl rfl k₀) ?_
          show GoOn p e below _ (T14.setTop (mkF m 73 #[.val (.ref a), .val (.int (Int32.ofNat (tk g n).length)), .val (.ref b), .val (.int (Int32.ofNat (tk g k).length)), .val (.int (Int32.ofNat k)), s5, s6] [(.ref b)]))
          refine GoOn.step (fun t₀ k₀ => XS.iloadN X14.here hx rfl (hb hby d3_73) rfl k₀) ?_
          show GoOn p e below _ (T14.setTop (mkF m 74 #[.val (.ref a), .val (.int (Int32.ofNat (tk g n).length)), .val (.ref b), .val (.int (Int32.ofNat (tk g k).length)), .val (.int (Int32.ofNat k)), s5, s6] [(.int (Int32.ofNat (tk g k).length)), (.ref b)]))
          refine GoOn.step (fun t₀ k₀ => XS.iinc X14.here hx rfl (hb hby d3_74) rfl (l' := #[.val (.ref a), .val (.int (Int32.ofNat (tk g n).length)), .val (.ref b), .val (.int ((Int32.ofNat (tk g k).length) + (1 : Int32))), .val (.int (Int32.ofNat k)), s5, s6]) rfl k₀) ?_
          show GoOn p e below _ (T14.setTop (mkF m 77 #[.val (.ref a), .val (.int (Int32.ofNat (tk g n).length)), .val (.ref b), .val (.int ((Int32.ofNat (tk g k).length) + (1 : Int32))), .val (.int (Int32.ofNat k)), s5, s6] [(.int (Int32.ofNat (tk g k).length)), (.ref b)]))
          refine GoOn.step (fun t₀ k₀ => XS.iload X14.here hx rfl (hb hby d3_77) rfl k₀) ?_
          show GoOn p e below _ (T14.setTop (mkF m 79 #[.val (.ref a), .val (.int (Int32.ofNat (tk g n).length)), .val (.ref b), .val (.int ((Int32.ofNat (tk g k).length) + (1 : Int32))), .val (.int (Int32.ofNat k)), s5, s6] [(.int (Int32.ofNat k)), (.int (Int32.ofNat (tk g k).length)), (.ref b)]))
          obtain ⟨T15, h15, X15, e15, W15, st15⟩ := kStI X14 hx hZ e14 J_b (j := (Int32.ofNat (tk g k).length)) ⟨by omega, by omega⟩ (g := (mkF m 79 #[.val (.ref a), .val (.int (Int32.ofNat (tk g n).length)), .val (.ref b), .val (.int ((Int32.ofNat (tk g k).length) + (1 : Int32))), .val (.int (Int32.ofNat k)), s5, s6] [(.int (Int32.ofNat k)), (.int (Int32.ofNat (tk g k).length)), (.ref b)])) rfl rfl (hb hby d3_79)
          replace N0 := Fr.snoc X15 N0 le_b
          replace Fu := Fu.other W15 (Or.inl ne_a_b)
          replace Ju := Ju.other W15 ne_u_b
          replace J_b := J_b.set W15
          replace Z0 := Nat.le_trans Z0 (Nat.le_of_eq W15.size.symm)
          replace K0 := K0.wr W15 (Or.inr sz_b)
          refine GoOn.step st15 ?_
          show GoOn p e below _ (T15.setTop (mkF m 80 #[.val (.ref a), .val (.int (Int32.ofNat (tk g n).length)), .val (.ref b), .val (.int ((Int32.ofNat (tk g k).length) + (1 : Int32))), .val (.int (Int32.ofNat k)), s5, s6] []))
          refine GoOn.step (fun t₀ k₀ => XS.iinc X15.here hx rfl (hb hby d3_80) rfl (l' := #[.val (.ref a), .val (.int (Int32.ofNat (tk g n).length)), .val (.ref b), .val (.int ((Int32.ofNat (tk g k).length) + (1 : Int32))), .val (.int ((Int32.ofNat k) + (1 : Int32))), s5, s6]) rfl k₀) ?_
          show GoOn p e below _ (T15.setTop (mkF m 83 #[.val (.ref a), .val (.int (Int32.ofNat (tk g n).length)), .val (.ref b), .val (.int ((Int32.ofNat (tk g k).length) + (1 : Int32))), .val (.int ((Int32.ofNat k) + (1 : Int32))), s5, s6] []))
          refine GoOn.step (fun t₀ k₀ => XS.goto X15.here hx rfl (pc0 := 83) (pc' := 50) rfl (hb hby d3_83) (by decide) (by decide) k₀) ?_
          show GoOn p e below _ (T15.setTop (mkF m 50 #[.val (.ref a), .val (.int (Int32.ofNat (tk g n).length)), .val (.ref b), .val (.int ((Int32.ofNat (tk g k).length) + (1 : Int32))), .val (.int ((Int32.ofNat k) + (1 : Int32))), s5, s6] []))
          have e1 : (Int32.ofNat (tk g k).length) + (1 : Int32) = (Int32.ofNat (tk g (k + 1)).length) := by rw [on_succ, tk_y hc, List.length_append]; rfl
          rw [e1, on_succ]
          exact ih (k + 1) _ _ _ _ X15 e15 N0 Z0 K0 Fu Ju J_b (by omega) (by rw [tk_y hc]; exact ht.snoc (on_nat _ (by omega)))
        · refine GoOn.step (fun t₀ k₀ => XS.ifYes X14.here hx rfl (pc0 := 69) (pc' := 80) rfl (hb hby d3_69) rfl ((if0 _ _).trans (flt (mt (lw_gt _ _).mp hc)).2.2.2) (by decide) (by decide) k₀) ?_
          show GoOn p e below _ (T14.setTop (mkF m 80 #[.val (.ref a), .val (.int (Int32.ofNat (tk g n).length)), .val (.ref b), .val (.int (Int32.ofNat (tk g k).length)), .val (.int (Int32.ofNat k)), s5, s6] []))
          refine GoOn.step (fun t₀ k₀ => XS.iinc X14.here hx rfl (hb hby d3_80) rfl (l' := #[.val (.ref a), .val (.int (Int32.ofNat (tk g n).length)), .val (.ref b), .val (.int (Int32.ofNat (tk g k).length)), .val (.int ((Int32.ofNat k) + (1 : Int32))), s5, s6]) rfl k₀) ?_
          show GoOn p e below _ (T14.setTop (mkF m 83 #[.val (.ref a), .val (.int (Int32.ofNat (tk g n).length)), .val (.ref b), .val (.int (Int32.ofNat (tk g k).length)), .val (.int ((Int32.ofNat k) + (1 : Int32))), s5, s6] []))
          refine GoOn.step (fun t₀ k₀ => XS.goto X14.here hx rfl (pc0 := 83) (pc' := 50) rfl (hb hby d3_83) (by decide) (by decide) k₀) ?_
          show GoOn p e below _ (T14.setTop (mkF m 50 #[.val (.ref a), .val (.int (Int32.ofNat (tk g n).length)), .val (.ref b), .val (.int (Int32.ofNat (tk g k).length)), .val (.int ((Int32.ofNat k) + (1 : Int32))), s5, s6] []))
          rw [on_succ, ← tk_n hc]
          exact ih (k + 1) _ _ _ _ X14 e14 N0 Z0 K0 Fu Ju J_b (by omega) (by rw [tk_n hc]; exact ht)
    exact JC n 0 _ _ _ _ X8 e8 N0 Z0 K0 Fu Ju J_b (by omega) (fun j hj => absurd hj (Nat.not_lt_zero _))
  have JA : ∀ (d : Nat) (k : Nat) (s5 s6 : Slot) (_ : k + d = n) (_ : Two s5 s6), GoOn p e below (EndQ s ({ frames := 0, cells := 1, slots := 4, locals := 0 } : Room) (TnQ Z g n h0 n0)) (T5.setTop (mkF m 13 #[.val (.ref a), .val (.int (Int32.ofNat (tk g k).length)), .val (.ref u), .val (.int (Int32.ofNat n)), .val (.int (Int32.ofNat k)), s5, s6] [])) := by
    intro d
    induction d with
    | zero =>
      intro k s5 s6 hk h2
      obtain rfl : n = k := by omega
      show GoOn p e below _ (T5.setTop (mkF m 13 #[.val (.ref a), .val (.int (Int32.ofNat (tk g n).length)), .val (.ref u), .val (.int (Int32.ofNat n)), .val (.int (Int32.ofNat n)), s5, s6] []))
      refine GoOn.step (fun t₀ k₀ => XS.iload X5.here hx rfl (hb hby d3_13) rfl k₀) ?_
      show GoOn p e below _ (T5.setTop (mkF m 15 #[.val (.ref a), .val (.int (Int32.ofNat (tk g n).length)), .val (.ref u), .val (.int (Int32.ofNat n)), .val (.int (Int32.ofNat n)), s5, s6] [(.int (Int32.ofNat n))]))
      refine GoOn.step (fun t₀ k₀ => XS.iloadN X5.here hx rfl (hb hby d3_15) rfl k₀) ?_
      show GoOn p e below _ (T5.setTop (mkF m 16 #[.val (.ref a), .val (.int (Int32.ofNat (tk g n).length)), .val (.ref u), .val (.int (Int32.ofNat n)), .val (.int (Int32.ofNat n)), s5, s6] [(.int (Int32.ofNat n)), (.int (Int32.ofNat n))]))
      have hf6 : ¬ ((Int32.ofNat n) < (Int32.ofNat n)) := (by rw [on_lt _ _ (by omega) (by omega)]; omega)
      refine GoOn.step (fun t₀ k₀ => XS.icmpYes X5.here hx rfl (pc0 := 16) (pc' := 41) rfl (hb hby d3_16) rfl (flt hf6).2.1 (by decide) (by decide) k₀) ?_
      show GoOn p e below _ (T5.setTop (mkF m 41 #[.val (.ref a), .val (.int (Int32.ofNat (tk g n).length)), .val (.ref u), .val (.int (Int32.ofNat n)), .val (.int (Int32.ofNat n)), s5, s6] []))
      exact JB _ _
    | succ d ih =>
      intro k s5 s6 hk h2
      show GoOn p e below _ (T5.setTop (mkF m 13 #[.val (.ref a), .val (.int (Int32.ofNat (tk g k).length)), .val (.ref u), .val (.int (Int32.ofNat n)), .val (.int (Int32.ofNat k)), s5, s6] []))
      refine GoOn.step (fun t₀ k₀ => XS.iload X5.here hx rfl (hb hby d3_13) rfl k₀) ?_
      show GoOn p e below _ (T5.setTop (mkF m 15 #[.val (.ref a), .val (.int (Int32.ofNat (tk g k).length)), .val (.ref u), .val (.int (Int32.ofNat n)), .val (.int (Int32.ofNat k)), s5, s6] [(.int (Int32.ofNat k))]))
      refine GoOn.step (fun t₀ k₀ => XS.iloadN X5.here hx rfl (hb hby d3_15) rfl k₀) ?_
      show GoOn p e below _ (T5.setTop (mkF m 16 #[.val (.ref a), .val (.int (Int32.ofNat (tk g k).length)), .val (.ref u), .val (.int (Int32.ofNat n)), .val (.int (Int32.ofNat k)), s5, s6] [(.int (Int32.ofNat n)), (.int (Int32.ofNat k))]))
      have hf7 : (Int32.ofNat k) < (Int32.ofNat n) := (by rw [on_lt _ _ (by omega) (by omega)]; omega)
      refine GoOn.step (fun t₀ k₀ => XS.icmpNo X5.here hx rfl (hb hby d3_16) rfl (tlt hf7).2.1 k₀) ?_
      show GoOn p e below _ (T5.setTop (mkF m 19 #[.val (.ref a), .val (.int (Int32.ofNat (tk g k).length)), .val (.ref u), .val (.int (Int32.ofNat n)), .val (.int (Int32.ofNat k)), s5, s6] []))
      refine GoOn.step (fun t₀ k₀ => XS.aloadN X5.here hx rfl (hb hby d3_19) rfl rfl k₀) ?_
      show GoOn p e below _ (T5.setTop (mkF m 20 #[.val (.ref a), .val (.int (Int32.ofNat (tk g k).length)), .val (.ref u), .val (.int (Int32.ofNat n)), .val (.int (Int32.ofNat k)), s5, s6] [(.ref u)]))
      refine GoOn.step (fun t₀ k₀ => XS.iload X5.here hx rfl (hb hby d3_20) rfl k₀) ?_
      show GoOn p e below _ (T5.setTop (mkF m 22 #[.val (.ref a), .val (.int (Int32.ofNat (tk g k).length)), .val (.ref u), .val (.int (Int32.ofNat n)), .val (.int (Int32.ofNat k)), s5, s6] [(.int (Int32.ofNat k)), (.ref u)]))
      have hbk := on k (by omega)
      refine GoOn.step (fun t₀ k₀ => kLdJ X5 hx hZ e5 Ju (j := (Int32.ofNat k)) (v := (.long (g k))) ⟨by omega, by omega⟩ (by rw [on_nat k (by omega)]) (g := (mkF m 22 #[.val (.ref a), .val (.int (Int32.ofNat (tk g k).length)), .val (.ref u), .val (.int (Int32.ofNat n)), .val (.int (Int32.ofNat k)), s5, s6] [(.int (Int32.ofNat k)), (.ref u)])) rfl rfl (hb hby d3_22) t₀ k₀) ?_
      show GoOn p e below _ (T5.setTop (mkF m 23 #[.val (.ref a), .val (.int (Int32.ofNat (tk g k).length)), .val (.ref u), .val (.int (Int32.ofNat n)), .val (.int (Int32.ofNat k)), s5, s6] [(.long (g k))]))
      refine GoOn.step (fun t₀ k₀ => XS.lstore X5.here hx rfl (hb hby d3_23) rfl (l' := #[.val (.ref a), .val (.int (Int32.ofNat (tk g k).length)), .val (.ref u), .val (.int (Int32.ofNat n)), .val (.int (Int32.ofNat k)), .val (.long (g k)), .second]) (two5 h2) k₀) ?_
      show GoOn p e below _ (T5.setTop (mkF m 25 #[.val (.ref a), .val (.int (Int32.ofNat (tk g k).length)), .val (.ref u), .val (.int (Int32.ofNat n)), .val (.int (Int32.ofNat k)), .val (.long (g k)), .second] []))
      refine GoOn.step (fun t₀ k₀ => XS.lload X5.here hx rfl (hb hby d3_25) rfl k₀) ?_
      show GoOn p e below _ (T5.setTop (mkF m 27 #[.val (.ref a), .val (.int (Int32.ofNat (tk g k).length)), .val (.ref u), .val (.int (Int32.ofNat n)), .val (.int (Int32.ofNat k)), .val (.long (g k)), .second] [(.long (g k))]))
      refine GoOn.step (fun t₀ k₀ => XS.lconst X5.here hx rfl (hb hby d3_27) k₀) ?_
      show GoOn p e below _ (T5.setTop (mkF m 28 #[.val (.ref a), .val (.int (Int32.ofNat (tk g k).length)), .val (.ref u), .val (.int (Int32.ofNat n)), .val (.int (Int32.ofNat k)), .val (.long (g k)), .second] [(.long (0 : Int64)), (.long (g k))]))
      refine GoOn.step (fun t₀ k₀ => XS.lcmp X5.here hx rfl (hb hby d3_28) rfl k₀) ?_
      show GoOn p e below _ (T5.setTop (mkF m 29 #[.val (.ref a), .val (.int (Int32.ofNat (tk g k).length)), .val (.ref u), .val (.int (Int32.ofNat n)), .val (.int (Int32.ofNat k)), .val (.long (g k)), .second] [(.int (lcmpW (g k) (0 : Int64)))]))
      by_cases hc : (0 : Int64) < (g k)
      · refine GoOn.step (fun t₀ k₀ => XS.ifNo X5.here hx rfl (hb hby d3_29) rfl ((if0 _ _).trans (tlt ((lw_gt _ _).mpr hc)).2.2.2) k₀) ?_
        show GoOn p e below _ (T5.setTop (mkF m 32 #[.val (.ref a), .val (.int (Int32.ofNat (tk g k).length)), .val (.ref u), .val (.int (Int32.ofNat n)), .val (.int (Int32.ofNat k)), .val (.long (g k)), .second] []))
        refine GoOn.step (fun t₀ k₀ => XS.iinc X5.here hx rfl (hb hby d3_32) rfl (l' := #[.val (.ref a), .val (.int ((Int32.ofNat (tk g k).length) + (1 : Int32))), .val (.ref u), .val (.int (Int32.ofNat n)), .val (.int (Int32.ofNat k)), .val (.long (g k)), .second]) rfl k₀) ?_
        show GoOn p e below _ (T5.setTop (mkF m 35 #[.val (.ref a), .val (.int ((Int32.ofNat (tk g k).length) + (1 : Int32))), .val (.ref u), .val (.int (Int32.ofNat n)), .val (.int (Int32.ofNat k)), .val (.long (g k)), .second] []))
        refine GoOn.step (fun t₀ k₀ => XS.iinc X5.here hx rfl (hb hby d3_35) rfl (l' := #[.val (.ref a), .val (.int ((Int32.ofNat (tk g k).length) + (1 : Int32))), .val (.ref u), .val (.int (Int32.ofNat n)), .val (.int ((Int32.ofNat k) + (1 : Int32))), .val (.long (g k)), .second]) rfl k₀) ?_
        show GoOn p e below _ (T5.setTop (mkF m 38 #[.val (.ref a), .val (.int ((Int32.ofNat (tk g k).length) + (1 : Int32))), .val (.ref u), .val (.int (Int32.ofNat n)), .val (.int ((Int32.ofNat k) + (1 : Int32))), .val (.long (g k)), .second] []))
        refine GoOn.step (fun t₀ k₀ => XS.goto X5.here hx rfl (pc0 := 38) (pc' := 13) rfl (hb hby d3_38) (by decide) (by decide) k₀) ?_
        show GoOn p e below _ (T5.setTop (mkF m 13 #[.val (.ref a), .val (.int ((Int32.ofNat (tk g k).length) + (1 : Int32))), .val (.ref u), .val (.int (Int32.ofNat n)), .val (.int ((Int32.ofNat k) + (1 : Int32))), .val (.long (g k)), .second] []))
        have e1 : (Int32.ofNat (tk g k).length) + (1 : Int32) = (Int32.ofNat (tk g (k + 1)).length) := by rw [on_succ, tk_y hc, List.length_append]; rfl
        rw [e1, on_succ]
        exact ih (k + 1) _ _ (by omega) (Or.inr ⟨_, rfl, rfl⟩)
      · refine GoOn.step (fun t₀ k₀ => XS.ifYes X5.here hx rfl (pc0 := 29) (pc' := 35) rfl (hb hby d3_29) rfl ((if0 _ _).trans (flt (mt (lw_gt _ _).mp hc)).2.2.2) (by decide) (by decide) k₀) ?_
        show GoOn p e below _ (T5.setTop (mkF m 35 #[.val (.ref a), .val (.int (Int32.ofNat (tk g k).length)), .val (.ref u), .val (.int (Int32.ofNat n)), .val (.int (Int32.ofNat k)), .val (.long (g k)), .second] []))
        refine GoOn.step (fun t₀ k₀ => XS.iinc X5.here hx rfl (hb hby d3_35) rfl (l' := #[.val (.ref a), .val (.int (Int32.ofNat (tk g k).length)), .val (.ref u), .val (.int (Int32.ofNat n)), .val (.int ((Int32.ofNat k) + (1 : Int32))), .val (.long (g k)), .second]) rfl k₀) ?_
        show GoOn p e below _ (T5.setTop (mkF m 38 #[.val (.ref a), .val (.int (Int32.ofNat (tk g k).length)), .val (.ref u), .val (.int (Int32.ofNat n)), .val (.int ((Int32.ofNat k) + (1 : Int32))), .val (.long (g k)), .second] []))
        refine GoOn.step (fun t₀ k₀ => XS.goto X5.here hx rfl (pc0 := 38) (pc' := 13) rfl (hb hby d3_38) (by decide) (by decide) k₀) ?_
        show GoOn p e below _ (T5.setTop (mkF m 13 #[.val (.ref a), .val (.int (Int32.ofNat (tk g k).length)), .val (.ref u), .val (.int (Int32.ofNat n)), .val (.int ((Int32.ofNat k) + (1 : Int32))), .val (.long (g k)), .second] []))
        rw [on_succ, ← tk_n hc]
        exact ih (k + 1) _ _ (by omega) (Or.inr ⟨_, rfl, rfl⟩)
  exact JA n 0 _ _ (by omega) (Or.inl ⟨rfl, rfl⟩)
def sel (a b c d : Int64) (i : Nat) : Int64 := if i = 0 then a else if i = 1 then b else if i = 2 then c else d
theorem kk_lt {k : Int32} {K : Nat} (hK : k.toInt = K) (j : Int32) (J : Nat) (hJ : j.toInt = J) : j < k ↔ J < K := by rw [Int32.lt_iff_toInt_lt, hK, hJ]; omega
theorem own_u0 {q1 q2 q3 q4 : Int64} (j : Nat) : (if j = (0 : Int32).toNatClampNeg then (.long q1 : Value) else defaultValue .long) = .long (if j < 1 then sel q1 q2 q3 q4 j else 0) := by
  have e : (0 : Int32).toNatClampNeg = 0 := by decide
  rw [e]
  by_cases q : j = 0
  · subst q; rfl
  · rw [if_neg q]
    by_cases r : j < 0
    · rw [if_pos (show j < 1 by omega)]; omega
    · rw [if_neg (show ¬ j < 1 by omega)]; rfl
theorem own_v0 {q1 q2 q3 q4 : Int64} (j : Nat) (h : j < 0) : (defaultValue .long : Value) = (.long (if j < 1 then sel q1 q2 q3 q4 j else 0) : Value) := by
  omega
theorem own_u1 {q1 q2 q3 q4 : Int64} (j : Nat) : (if j = (1 : Int32).toNatClampNeg then (.long q2 : Value) else .long (if j < 1 then sel q1 q2 q3 q4 j else 0)) = .long (if j < 2 then sel q1 q2 q3 q4 j else 0) := by
  have e : (1 : Int32).toNatClampNeg = 1 := by decide
  rw [e]
  by_cases q : j = 1
  · subst q; rfl
  · rw [if_neg q]
    by_cases r : j < 1
    · rw [if_pos (show j < 2 by omega)]; rw [if_pos r]
    · rw [if_neg (show ¬ j < 2 by omega)]; rw [if_neg r]
theorem own_v1 {q1 q2 q3 q4 : Int64} (j : Nat) (h : j < 1) : (.long (if j < 1 then sel q1 q2 q3 q4 j else 0) : Value) = (.long (if j < 2 then sel q1 q2 q3 q4 j else 0) : Value) := by
  rw [if_pos h, if_pos (by omega)]
theorem own_u2 {q1 q2 q3 q4 : Int64} (j : Nat) : (if j = (2 : Int32).toNatClampNeg then (.long q3 : Value) else .long (if j < 2 then sel q1 q2 q3 q4 j else 0)) = .long (if j < 3 then sel q1 q2 q3 q4 j else 0) := by
  have e : (2 : Int32).toNatClampNeg = 2 := by decide
  rw [e]
  by_cases q : j = 2
  · subst q; rfl
  · rw [if_neg q]
    by_cases r : j < 2
    · rw [if_pos (show j < 3 by omega)]; rw [if_pos r]
    · rw [if_neg (show ¬ j < 3 by omega)]; rw [if_neg r]
theorem own_v2 {q1 q2 q3 q4 : Int64} (j : Nat) (h : j < 2) : (.long (if j < 2 then sel q1 q2 q3 q4 j else 0) : Value) = (.long (if j < 3 then sel q1 q2 q3 q4 j else 0) : Value) := by
  rw [if_pos h, if_pos (by omega)]
theorem own_u3 {q1 q2 q3 q4 : Int64} (j : Nat) : (if j = (3 : Int32).toNatClampNeg then (.long q4 : Value) else .long (if j < 3 then sel q1 q2 q3 q4 j else 0)) = .long (if j < 4 then sel q1 q2 q3 q4 j else 0) := by
  have e : (3 : Int32).toNatClampNeg = 3 := by decide
  rw [e]
  by_cases q : j = 3
  · subst q; rfl
  · rw [if_neg q]
    by_cases r : j < 3
    · rw [if_pos (show j < 4 by omega)]; rw [if_pos r]
    · rw [if_neg (show ¬ j < 4 by omega)]; rw [if_neg r]
theorem own_v3 {q1 q2 q3 q4 : Int64} (j : Nat) (h : j < 3) : (.long (if j < 3 then sel q1 q2 q3 q4 j else 0) : Value) = (.long (if j < 4 then sel q1 q2 q3 q4 j else 0) : Value) := by
  rw [if_pos h, if_pos (by omega)]
theorem ef_law_ok (m : MethodId) (x0 : Int32) (x1 : Int64) (x2 : Int64) (x3 : Int64) (x4 : Int64) (x5 : Int64) : entryFrame m #[(.int x0), (.long x1), (.long x2), (.long x3), (.long x4), (.long x5)] maxLocals = mkF m 0 #[.val (.int x0), .val (.long x1), .second, .val (.long x2), .second, .val (.long x3), .second, .val (.long x4), .second, .val (.long x5), .second, .unset, .unset, .unset, .unset, .unset, .unset, .unset, .unset] [] := by first | (simp [entryFrame, mkF, argsToLocals, Value.category, maxLocals]; done) | rfl
set_option maxRecDepth 65536 in
set_option maxHeartbeats 40000000 in
theorem law_ok (l : Launch) (Z : State) (a0 : Array Value) (hw : ∀ d ∈ tables_1, d.before a0 Z = true) (q0 : Int32) (q1 q2 q3 q4 q5 : Int64) (h0 : Heap) (n0 : Nat) (Z0 : n0 ≤ h0.size)  :
    Con l Z x code maxLocals ret room_1 #[(.int q0), (.long q1), (.long q2), (.long q3), (.long q4), (.long q5)] h0 (LQ n0) := by
  refine Con.intro (plainFor_of_name pn_1) ?_
  intro p e s m below meth c s₁ hx hby hml hrt hlk hZ hown hnm X0 e0
  replace hown : s.vm.findClass "com/example/treesack/treesack/core/SolutionTakenNodesPinLaw" = some m.cls := hown
  have N0 := Fr.nil n0
  refine GoOn.cast (ef_law_ok m q0 q1 q2 q3 q4 q5) ?_
  show GoOn p e below _ (s₁.setTop (mkF m 0 #[.val (.int q0), .val (.long q1), .second, .val (.long q2), .second, .val (.long q3), .second, .val (.long q4), .second, .val (.long q5), .second, .unset, .unset, .unset, .unset, .unset, .unset, .unset, .unset] []))
  have m1 : (q0 &&& (2147483647 : Int32)).toInt = q0.toInt % 2147483648 := c_mask q0 2147483647 31 (by decide) (by decide)
  have m2 := (c_irem (q0 &&& (2147483647 : Int32)) 5 5 (by decide)).1 (by omega)
  refine GoOn.step (fun t₀ k₀ => XS.iloadN X0.here hx rfl (hb hby at_0) rfl k₀) ?_
  show GoOn p e below _ (s₁.setTop (mkF m 1 #[.val (.int q0), .val (.long q1), .second, .val (.long q2), .second, .val (.long q3), .second, .val (.long q4), .second, .val (.long q5), .second, .unset, .unset, .unset, .unset, .unset, .unset, .unset, .unset] [(.int q0)]))
  refine GoOn.step (fun t₀ k₀ => X0.ldcInt hx hown (mvT hZ (hw _ (List.mem_of_getElem? (i := 0) rfl))) (g := (mkF m 1 #[.val (.int q0), .val (.long q1), .second, .val (.long q2), .second, .val (.long q3), .second, .val (.long q4), .second, .val (.long q5), .second, .unset, .unset, .unset, .unset, .unset, .unset, .unset, .unset] [(.int q0)])) rfl (hb hby at_1) t₀ k₀) ?_
  show GoOn p e below _ (s₁.setTop (mkF m 3 #[.val (.int q0), .val (.long q1), .second, .val (.long q2), .second, .val (.long q3), .second, .val (.long q4), .second, .val (.long q5), .second, .unset, .unset, .unset, .unset, .unset, .unset, .unset, .unset] [(.int (2147483647 : Int32)), (.int q0)]))
  refine GoOn.step (fun t₀ k₀ => XS.iand X0.here hx rfl (hb hby at_3) rfl k₀) ?_
  show GoOn p e below _ (s₁.setTop (mkF m 4 #[.val (.int q0), .val (.long q1), .second, .val (.long q2), .second, .val (.long q3), .second, .val (.long q4), .second, .val (.long q5), .second, .unset, .unset, .unset, .unset, .unset, .unset, .unset, .unset] [(.int (q0 &&& (2147483647 : Int32)))]))
  refine GoOn.step (fun t₀ k₀ => XS.iconst X0.here hx rfl (hb hby at_4) k₀) ?_
  show GoOn p e below _ (s₁.setTop (mkF m 5 #[.val (.int q0), .val (.long q1), .second, .val (.long q2), .second, .val (.long q3), .second, .val (.long q4), .second, .val (.long q5), .second, .unset, .unset, .unset, .unset, .unset, .unset, .unset, .unset] [(.int (5 : Int32)), (.int (q0 &&& (2147483647 : Int32)))]))
  refine GoOn.step (fun t₀ k₀ => iremM X0 hx rfl (hb hby at_5) rfl (by decide) k₀) ?_
  show GoOn p e below _ (s₁.setTop (mkF m 6 #[.val (.int q0), .val (.long q1), .second, .val (.long q2), .second, .val (.long q3), .second, .val (.long q4), .second, .val (.long q5), .second, .unset, .unset, .unset, .unset, .unset, .unset, .unset, .unset] [(.int ((q0 &&& (2147483647 : Int32)) % (5 : Int32)))]))
  generalize hk0 : ((q0 &&& (2147483647 : Int32)) % (5 : Int32)) = k
  have hk0I := congrArg Int32.toInt hk0
  refine GoOn.step (fun t₀ k₀ => XS.istore X0.here hx rfl (hb hby at_6) rfl (l' := #[.val (.int q0), .val (.long q1), .second, .val (.long q2), .second, .val (.long q3), .second, .val (.long q4), .second, .val (.long q5), .second, .val (.int k), .unset, .unset, .unset, .unset, .unset, .unset, .unset]) rfl k₀) ?_
  show GoOn p e below _ (s₁.setTop (mkF m 8 #[.val (.int q0), .val (.long q1), .second, .val (.long q2), .second, .val (.long q3), .second, .val (.long q4), .second, .val (.long q5), .second, .val (.int k), .unset, .unset, .unset, .unset, .unset, .unset, .unset] []))
  refine GoOn.step (fun t₀ k₀ => XS.iload X0.here hx rfl (hb hby at_8) rfl k₀) ?_
  show GoOn p e below _ (s₁.setTop (mkF m 10 #[.val (.int q0), .val (.long q1), .second, .val (.long q2), .second, .val (.long q3), .second, .val (.long q4), .second, .val (.long q5), .second, .val (.int k), .unset, .unset, .unset, .unset, .unset, .unset, .unset] [(.int k)]))
  obtain ⟨K, hK⟩ : ∃ K : Nat, k.toInt = K := ⟨k.toInt.toNat, by omega⟩
  have hK4 : K ≤ 4 := by omega
  have hKn : k.toNatClampNeg = K := by have e : k.toNatClampNeg = k.toInt.toNat := rfl; omega
  clear hk0 m2
  have hk0 := kk_lt hK (0 : Int32) 0 (by decide)
  have hk1 := kk_lt hK (1 : Int32) 1 (by decide)
  have hk2 := kk_lt hK (2 : Int32) 2 (by decide)
  have hk3 := kk_lt hK (3 : Int32) 3 (by decide)
  obtain ⟨T16, h16, k16, X16, e16, E16, A16, st16⟩ := newP X0 hx hZ (hw _ (List.mem_of_getElem? (i := 1) rfl)) e0 (g := (mkF m 10 #[.val (.int q0), .val (.long q1), .second, .val (.long q2), .second, .val (.long q3), .second, .val (.long q4), .second, .val (.long q5), .second, .val (.int k), .unset, .unset, .unset, .unset, .unset, .unset, .unset] [(.int k)])) rfl (hb hby at_10) rfl (by rw [Int32.lt_iff_toInt_lt, hK, show (0 : Int32).toInt = 0 from by decide]; omega) (cap := 4) (by omega) (by decide) (by decide) (by decide)
  obtain ⟨u, g16⟩ : ∃ z, z = h0.size := ⟨_, rfl⟩
  rw [← g16] at A16 st16
  have le_u : n0 ≤ u := by rw [g16]; exact Z0
  replace Z0 := Nat.le_trans Z0 E16.1
  have J_u : Jar Z h16 u .long K (fun _ => defaultValue .long) := Jar.new A16 hKn
  refine GoOn.step st16 ?_
  show GoOn p e below _ (T16.setTop (mkF m 12 #[.val (.int q0), .val (.long q1), .second, .val (.long q2), .second, .val (.long q3), .second, .val (.long q4), .second, .val (.long q5), .second, .val (.int k), .unset, .unset, .unset, .unset, .unset, .unset, .unset] [(.ref u)]))
  refine GoOn.step (fun t₀ k₀ => XS.astore X16.here hx rfl (hb hby at_12) rfl rfl (l' := #[.val (.int q0), .val (.long q1), .second, .val (.long q2), .second, .val (.long q3), .second, .val (.long q4), .second, .val (.long q5), .second, .val (.int k), .val (.ref u), .unset, .unset, .unset, .unset, .unset, .unset]) rfl k₀) ?_
  show GoOn p e below _ (T16.setTop (mkF m 14 #[.val (.int q0), .val (.long q1), .second, .val (.long q2), .second, .val (.long q3), .second, .val (.long q4), .second, .val (.long q5), .second, .val (.int k), .val (.ref u), .unset, .unset, .unset, .unset, .unset, .unset] []))
  refine GoOn.step (fun t₀ k₀ => XS.iload X16.here hx rfl (hb hby at_14) rfl k₀) ?_
  show GoOn p e below _ (T16.setTop (mkF m 16 #[.val (.int q0), .val (.long q1), .second, .val (.long q2), .second, .val (.long q3), .second, .val (.long q4), .second, .val (.long q5), .second, .val (.int k), .val (.ref u), .unset, .unset, .unset, .unset, .unset, .unset] [(.int k)]))
  have Ju0 : ∀ (T17 : State) (l17 : List Loc) (h17 : Heap) (_ : Stand p l e room_1 s m #[(.int q0), (.long q1), (.long q2), (.long q3), (.long q4), (.long q5)] below meth c T17 l17 1 4) (_ : T17.heap = h17) (_ : Fr n0 l17) (_ : n0 ≤ h17.size) (_ : Jar Z h17 u .long K (fun j => .long (if j < 1 then (sel q1 q2 q3 q4) j else 0))) , GoOn p e below (EndQ s room_1 (LQ n0)) (T17.setTop (mkF m 24 #[.val (.int q0), .val (.long q1), .second, .val (.long q2), .second, .val (.long q3), .second, .val (.long q4), .second, .val (.long q5), .second, .val (.int k), .val (.ref u), .unset, .unset, .unset, .unset, .unset, .unset] [])) := by
    intro T17 l17 h17 X17 e17 N0 Z0 J_u 
    refine GoOn.step (fun t₀ k₀ => XS.iload X17.here hx rfl (hb hby at_24) rfl k₀) ?_
    show GoOn p e below _ (T17.setTop (mkF m 26 #[.val (.int q0), .val (.long q1), .second, .val (.long q2), .second, .val (.long q3), .second, .val (.long q4), .second, .val (.long q5), .second, .val (.int k), .val (.ref u), .unset, .unset, .unset, .unset, .unset, .unset] [(.int k)]))
    refine GoOn.step (fun t₀ k₀ => XS.iconst X17.here hx rfl (hb hby at_26) k₀) ?_
    show GoOn p e below _ (T17.setTop (mkF m 27 #[.val (.int q0), .val (.long q1), .second, .val (.long q2), .second, .val (.long q3), .second, .val (.long q4), .second, .val (.long q5), .second, .val (.int k), .val (.ref u), .unset, .unset, .unset, .unset, .unset, .unset] [(.int (1 : Int32)), (.int k)]))
    have Ju1 : ∀ (T19 : State) (l19 : List Loc) (h19 : Heap) (_ : Stand p l e room_1 s m #[(.int q0), (.long q1), (.long q2), (.long q3), (.long q4), (.long q5)] below meth c T19 l19 1 4) (_ : T19.heap = h19) (_ : Fr n0 l19) (_ : n0 ≤ h19.size) (_ : Jar Z h19 u .long K (fun j => .long (if j < 2 then (sel q1 q2 q3 q4) j else 0))) , GoOn p e below (EndQ s room_1 (LQ n0)) (T19.setTop (mkF m 35 #[.val (.int q0), .val (.long q1), .second, .val (.long q2), .second, .val (.long q3), .second, .val (.long q4), .second, .val (.long q5), .second, .val (.int k), .val (.ref u), .unset, .unset, .unset, .unset, .unset, .unset] [])) := by
      intro T19 l19 h19 X19 e19 N0 Z0 J_u 
      refine GoOn.step (fun t₀ k₀ => XS.iload X19.here hx rfl (hb hby at_35) rfl k₀) ?_
      show GoOn p e below _ (T19.setTop (mkF m 37 #[.val (.int q0), .val (.long q1), .second, .val (.long q2), .second, .val (.long q3), .second, .val (.long q4), .second, .val (.long q5), .second, .val (.int k), .val (.ref u), .unset, .unset, .unset, .unset, .unset, .unset] [(.int k)]))
      refine GoOn.step (fun t₀ k₀ => XS.iconst X19.here hx rfl (hb hby at_37) k₀) ?_
      show GoOn p e below _ (T19.setTop (mkF m 38 #[.val (.int q0), .val (.long q1), .second, .val (.long q2), .second, .val (.long q3), .second, .val (.long q4), .second, .val (.long q5), .second, .val (.int k), .val (.ref u), .unset, .unset, .unset, .unset, .unset, .unset] [(.int (2 : Int32)), (.int k)]))
      have Ju2 : ∀ (T21 : State) (l21 : List Loc) (h21 : Heap) (_ : Stand p l e room_1 s m #[(.int q0), (.long q1), (.long q2), (.long q3), (.long q4), (.long q5)] below meth c T21 l21 1 4) (_ : T21.heap = h21) (_ : Fr n0 l21) (_ : n0 ≤ h21.size) (_ : Jar Z h21 u .long K (fun j => .long (if j < 3 then (sel q1 q2 q3 q4) j else 0))) , GoOn p e below (EndQ s room_1 (LQ n0)) (T21.setTop (mkF m 47 #[.val (.int q0), .val (.long q1), .second, .val (.long q2), .second, .val (.long q3), .second, .val (.long q4), .second, .val (.long q5), .second, .val (.int k), .val (.ref u), .unset, .unset, .unset, .unset, .unset, .unset] [])) := by
        intro T21 l21 h21 X21 e21 N0 Z0 J_u 
        refine GoOn.step (fun t₀ k₀ => XS.iload X21.here hx rfl (hb hby at_47) rfl k₀) ?_
        show GoOn p e below _ (T21.setTop (mkF m 49 #[.val (.int q0), .val (.long q1), .second, .val (.long q2), .second, .val (.long q3), .second, .val (.long q4), .second, .val (.long q5), .second, .val (.int k), .val (.ref u), .unset, .unset, .unset, .unset, .unset, .unset] [(.int k)]))
        refine GoOn.step (fun t₀ k₀ => XS.iconst X21.here hx rfl (hb hby at_49) k₀) ?_
        show GoOn p e below _ (T21.setTop (mkF m 50 #[.val (.int q0), .val (.long q1), .second, .val (.long q2), .second, .val (.long q3), .second, .val (.long q4), .second, .val (.long q5), .second, .val (.int k), .val (.ref u), .unset, .unset, .unset, .unset, .unset, .unset] [(.int (3 : Int32)), (.int k)]))
        have Ju3 : ∀ (T23 : State) (l23 : List Loc) (h23 : Heap) (_ : Stand p l e room_1 s m #[(.int q0), (.long q1), (.long q2), (.long q3), (.long q4), (.long q5)] below meth c T23 l23 1 4) (_ : T23.heap = h23) (_ : Fr n0 l23) (_ : n0 ≤ h23.size) (_ : Jar Z h23 u .long K (fun j => .long (if j < 4 then (sel q1 q2 q3 q4) j else 0))) , GoOn p e below (EndQ s room_1 (LQ n0)) (T23.setTop (mkF m 59 #[.val (.int q0), .val (.long q1), .second, .val (.long q2), .second, .val (.long q3), .second, .val (.long q4), .second, .val (.long q5), .second, .val (.int k), .val (.ref u), .unset, .unset, .unset, .unset, .unset, .unset] [])) := by
          intro T23 l23 h23 X23 e23 N0 Z0 J_u 
          refine GoOn.step (fun t₀ k₀ => XS.iconst X23.here hx rfl (hb hby at_59) k₀) ?_
          show GoOn p e below _ (T23.setTop (mkF m 60 #[.val (.int q0), .val (.long q1), .second, .val (.long q2), .second, .val (.long q3), .second, .val (.long q4), .second, .val (.long q5), .second, .val (.int k), .val (.ref u), .unset, .unset, .unset, .unset, .unset, .unset] [(.int (4 : Int32))]))
          obtain ⟨T25, h25, k25, X25, e25, E25, A25, st25⟩ := newP X23 hx hZ (hw _ (List.mem_of_getElem? (i := 2) rfl)) e23 (g := (mkF m 60 #[.val (.int q0), .val (.long q1), .second, .val (.long q2), .second, .val (.long q3), .second, .val (.long q4), .second, .val (.long q5), .second, .val (.int k), .val (.ref u), .unset, .unset, .unset, .unset, .unset, .unset] [(.int (4 : Int32))])) rfl (hb hby at_60) rfl (by decide) (cap := 4) (by decide) (by decide) (by decide) (by decide)
          obtain ⟨ea, g25⟩ : ∃ z, z = h23.size := ⟨_, rfl⟩
          rw [← g25] at A25 st25
          have lt_u_ea : u < ea := by rw [g25]; exact J_u.lt
          have ne_u_ea : u ≠ ea := Nat.ne_of_lt lt_u_ea
          have le_ea : n0 ≤ ea := by rw [g25]; exact Z0
          replace J_u := J_u.ext E25
          replace Z0 := Nat.le_trans Z0 E25.1
          have J_ea : Jar Z h25 ea .int 4 (fun _ => defaultValue .int) := Jar.new A25 (by decide)
          refine GoOn.step st25 ?_
          show GoOn p e below _ (T25.setTop (mkF m 62 #[.val (.int q0), .val (.long q1), .second, .val (.long q2), .second, .val (.long q3), .second, .val (.long q4), .second, .val (.long q5), .second, .val (.int k), .val (.ref u), .unset, .unset, .unset, .unset, .unset, .unset] [(.ref ea)]))
          refine GoOn.step (fun t₀ k₀ => XS.astore X25.here hx rfl (hb hby at_62) rfl rfl (l' := #[.val (.int q0), .val (.long q1), .second, .val (.long q2), .second, .val (.long q3), .second, .val (.long q4), .second, .val (.long q5), .second, .val (.int k), .val (.ref u), .val (.ref ea), .unset, .unset, .unset, .unset, .unset]) rfl k₀) ?_
          show GoOn p e below _ (T25.setTop (mkF m 64 #[.val (.int q0), .val (.long q1), .second, .val (.long q2), .second, .val (.long q3), .second, .val (.long q4), .second, .val (.long q5), .second, .val (.int k), .val (.ref u), .val (.ref ea), .unset, .unset, .unset, .unset, .unset] []))
          refine GoOn.step (fun t₀ k₀ => XS.iconst X25.here hx rfl (hb hby at_64) k₀) ?_
          show GoOn p e below _ (T25.setTop (mkF m 65 #[.val (.int q0), .val (.long q1), .second, .val (.long q2), .second, .val (.long q3), .second, .val (.long q4), .second, .val (.long q5), .second, .val (.int k), .val (.ref u), .val (.ref ea), .unset, .unset, .unset, .unset, .unset] [(.int (0 : Int32))]))
          refine GoOn.step (fun t₀ k₀ => XS.istore X25.here hx rfl (hb hby at_65) rfl (l' := #[.val (.int q0), .val (.long q1), .second, .val (.long q2), .second, .val (.long q3), .second, .val (.long q4), .second, .val (.long q5), .second, .val (.int k), .val (.ref u), .val (.ref ea), .val (.int (0 : Int32)), .unset, .unset, .unset, .unset]) rfl k₀) ?_
          show GoOn p e below _ (T25.setTop (mkF m 67 #[.val (.int q0), .val (.long q1), .second, .val (.long q2), .second, .val (.long q3), .second, .val (.long q4), .second, .val (.long q5), .second, .val (.int k), .val (.ref u), .val (.ref ea), .val (.int (0 : Int32)), .unset, .unset, .unset, .unset] []))
          refine GoOn.step (fun t₀ k₀ => XS.iload X25.here hx rfl (hb hby at_67) rfl k₀) ?_
          show GoOn p e below _ (T25.setTop (mkF m 69 #[.val (.int q0), .val (.long q1), .second, .val (.long q2), .second, .val (.long q3), .second, .val (.long q4), .second, .val (.long q5), .second, .val (.int k), .val (.ref u), .val (.ref ea), .val (.int (0 : Int32)), .unset, .unset, .unset, .unset] [(.int k)]))
          have ht : Tkn (fun _ => defaultValue .int) (tk (sel q1 q2 q3 q4) (min 0 K)) := by rw [Nat.zero_min]; exact fun j hj => absurd hj (Nat.not_lt_zero _)
          rw [show (0 : Int32) = Int32.ofNat (tk (sel q1 q2 q3 q4) (min 0 K)).length from by rw [Nat.zero_min]; rfl]
          have Je0 : ∀ (fe : Nat → Value) (T26 : State) (l26 : List Loc) (h26 : Heap) (_ : Stand p l e room_1 s m #[(.int q0), (.long q1), (.long q2), (.long q3), (.long q4), (.long q5)] below meth c T26 l26 2 8) (_ : T26.heap = h26) (_ : Fr n0 l26) (_ : n0 ≤ h26.size) (_ : Jar Z h26 u .long K (fun j => .long (if j < 4 then (sel q1 q2 q3 q4) j else 0))) (_ : Jar Z h26 ea .int 4 fe) (_ : Tkn fe (tk (sel q1 q2 q3 q4) (min 1 K))), GoOn p e below (EndQ s room_1 (LQ n0)) (T26.setTop (mkF m 87 #[.val (.int q0), .val (.long q1), .second, .val (.long q2), .second, .val (.long q3), .second, .val (.long q4), .second, .val (.long q5), .second, .val (.int k), .val (.ref u), .val (.ref ea), .val (.int (Int32.ofNat (tk (sel q1 q2 q3 q4) (min 1 K)).length)), .unset, .unset, .unset, .unset] [])) := by
            intro fe T26 l26 h26 X26 e26 N0 Z0 J_u J_ea ht
            refine GoOn.step (fun t₀ k₀ => XS.iload X26.here hx rfl (hb hby at_87) rfl k₀) ?_
            show GoOn p e below _ (T26.setTop (mkF m 89 #[.val (.int q0), .val (.long q1), .second, .val (.long q2), .second, .val (.long q3), .second, .val (.long q4), .second, .val (.long q5), .second, .val (.int k), .val (.ref u), .val (.ref ea), .val (.int (Int32.ofNat (tk (sel q1 q2 q3 q4) (min 1 K)).length)), .unset, .unset, .unset, .unset] [(.int k)]))
            refine GoOn.step (fun t₀ k₀ => XS.iconst X26.here hx rfl (hb hby at_89) k₀) ?_
            show GoOn p e below _ (T26.setTop (mkF m 90 #[.val (.int q0), .val (.long q1), .second, .val (.long q2), .second, .val (.long q3), .second, .val (.long q4), .second, .val (.long q5), .second, .val (.int k), .val (.ref u), .val (.ref ea), .val (.int (Int32.ofNat (tk (sel q1 q2 q3 q4) (min 1 K)).length)), .unset, .unset, .unset, .unset] [(.int (1 : Int32)), (.int k)]))
            have Je1 : ∀ (fe : Nat → Value) (T28 : State) (l28 : List Loc) (h28 : Heap) (_ : Stand p l e room_1 s m #[(.int q0), (.long q1), (.long q2), (.long q3), (.long q4), (.long q5)] below meth c T28 l28 2 8) (_ : T28.heap = h28) (_ : Fr n0 l28) (_ : n0 ≤ h28.size) (_ : Jar Z h28 u .long K (fun j => .long (if j < 4 then (sel q1 q2 q3 q4) j else 0))) (_ : Jar Z h28 ea .int 4 fe) (_ : Tkn fe (tk (sel q1 q2 q3 q4) (min 2 K))), GoOn p e below (EndQ s room_1 (LQ n0)) (T28.setTop (mkF m 108 #[.val (.int q0), .val (.long q1), .second, .val (.long q2), .second, .val (.long q3), .second, .val (.long q4), .second, .val (.long q5), .second, .val (.int k), .val (.ref u), .val (.ref ea), .val (.int (Int32.ofNat (tk (sel q1 q2 q3 q4) (min 2 K)).length)), .unset, .unset, .unset, .unset] [])) := by
              intro fe T28 l28 h28 X28 e28 N0 Z0 J_u J_ea ht
              refine GoOn.step (fun t₀ k₀ => XS.iload X28.here hx rfl (hb hby at_108) rfl k₀) ?_
              show GoOn p e below _ (T28.setTop (mkF m 110 #[.val (.int q0), .val (.long q1), .second, .val (.long q2), .second, .val (.long q3), .second, .val (.long q4), .second, .val (.long q5), .second, .val (.int k), .val (.ref u), .val (.ref ea), .val (.int (Int32.ofNat (tk (sel q1 q2 q3 q4) (min 2 K)).length)), .unset, .unset, .unset, .unset] [(.int k)]))
              refine GoOn.step (fun t₀ k₀ => XS.iconst X28.here hx rfl (hb hby at_110) k₀) ?_
              show GoOn p e below _ (T28.setTop (mkF m 111 #[.val (.int q0), .val (.long q1), .second, .val (.long q2), .second, .val (.long q3), .second, .val (.long q4), .second, .val (.long q5), .second, .val (.int k), .val (.ref u), .val (.ref ea), .val (.int (Int32.ofNat (tk (sel q1 q2 q3 q4) (min 2 K)).length)), .unset, .unset, .unset, .unset] [(.int (2 : Int32)), (.int k)]))
              have Je2 : ∀ (fe : Nat → Value) (T30 : State) (l30 : List Loc) (h30 : Heap) (_ : Stand p l e room_1 s m #[(.int q0), (.long q1), (.long q2), (.long q3), (.long q4), (.long q5)] below meth c T30 l30 2 8) (_ : T30.heap = h30) (_ : Fr n0 l30) (_ : n0 ≤ h30.size) (_ : Jar Z h30 u .long K (fun j => .long (if j < 4 then (sel q1 q2 q3 q4) j else 0))) (_ : Jar Z h30 ea .int 4 fe) (_ : Tkn fe (tk (sel q1 q2 q3 q4) (min 3 K))), GoOn p e below (EndQ s room_1 (LQ n0)) (T30.setTop (mkF m 130 #[.val (.int q0), .val (.long q1), .second, .val (.long q2), .second, .val (.long q3), .second, .val (.long q4), .second, .val (.long q5), .second, .val (.int k), .val (.ref u), .val (.ref ea), .val (.int (Int32.ofNat (tk (sel q1 q2 q3 q4) (min 3 K)).length)), .unset, .unset, .unset, .unset] [])) := by
                intro fe T30 l30 h30 X30 e30 N0 Z0 J_u J_ea ht
                refine GoOn.step (fun t₀ k₀ => XS.iload X30.here hx rfl (hb hby at_130) rfl k₀) ?_
                show GoOn p e below _ (T30.setTop (mkF m 132 #[.val (.int q0), .val (.long q1), .second, .val (.long q2), .second, .val (.long q3), .second, .val (.long q4), .second, .val (.long q5), .second, .val (.int k), .val (.ref u), .val (.ref ea), .val (.int (Int32.ofNat (tk (sel q1 q2 q3 q4) (min 3 K)).length)), .unset, .unset, .unset, .unset] [(.int k)]))
                refine GoOn.step (fun t₀ k₀ => XS.iconst X30.here hx rfl (hb hby at_132) k₀) ?_
                show GoOn p e below _ (T30.setTop (mkF m 133 #[.val (.int q0), .val (.long q1), .second, .val (.long q2), .second, .val (.long q3), .second, .val (.long q4), .second, .val (.long q5), .second, .val (.int k), .val (.ref u), .val (.ref ea), .val (.int (Int32.ofNat (tk (sel q1 q2 q3 q4) (min 3 K)).length)), .unset, .unset, .unset, .unset] [(.int (3 : Int32)), (.int k)]))
                have Je3 : ∀ (fe : Nat → Value) (T32 : State) (l32 : List Loc) (h32 : Heap) (_ : Stand p l e room_1 s m #[(.int q0), (.long q1), (.long q2), (.long q3), (.long q4), (.long q5)] below meth c T32 l32 2 8) (_ : T32.heap = h32) (_ : Fr n0 l32) (_ : n0 ≤ h32.size) (_ : Jar Z h32 u .long K (fun j => .long (if j < 4 then (sel q1 q2 q3 q4) j else 0))) (_ : Jar Z h32 ea .int 4 fe) (_ : Tkn fe (tk (sel q1 q2 q3 q4) (min 4 K))), GoOn p e below (EndQ s room_1 (LQ n0)) (T32.setTop (mkF m 152 #[.val (.int q0), .val (.long q1), .second, .val (.long q2), .second, .val (.long q3), .second, .val (.long q4), .second, .val (.long q5), .second, .val (.int k), .val (.ref u), .val (.ref ea), .val (.int (Int32.ofNat (tk (sel q1 q2 q3 q4) (min 4 K)).length)), .unset, .unset, .unset, .unset] [])) := by
                  intro fe T32 l32 h32 X32 e32 N0 Z0 J_u J_ea ht
                  have m4 : min 4 K = K := by omega
                  rw [m4] at ht ⊢
                  show GoOn p e below _ (T32.setTop (mkF m 152 #[.val (.int q0), .val (.long q1), .second, .val (.long q2), .second, .val (.long q3), .second, .val (.long q4), .second, .val (.long q5), .second, .val (.int k), .val (.ref u), .val (.ref ea), .val (.int (Int32.ofNat (tk (sel q1 q2 q3 q4) K).length)), .unset, .unset, .unset, .unset] []))
                  obtain ⟨T34, h34, X34, e34, E34, A34, D34, -, st34⟩ := newO X32 hx hZ hown (hw _ (List.mem_of_getElem? (i := 3) rfl)) (hw _ (List.mem_of_getElem? (i := 4) rfl)) (hw _ (List.mem_of_getElem? (i := 5) rfl)) e32 (g := (mkF m 152 #[.val (.int q0), .val (.long q1), .second, .val (.long q2), .second, .val (.long q3), .second, .val (.long q4), .second, .val (.long q5), .second, .val (.int k), .val (.ref u), .val (.ref ea), .val (.int (Int32.ofNat (tk (sel q1 q2 q3 q4) K).length)), .unset, .unset, .unset, .unset] [])) rfl (hb hby at_152) (by decide) (by decide)
                  obtain ⟨so, g34⟩ : ∃ z, z = h32.size := ⟨_, rfl⟩
                  rw [← g34] at A34 D34 st34
                  have lt_u_so : u < so := by rw [g34]; exact J_u.lt
                  have ne_u_so : u ≠ so := Nat.ne_of_lt lt_u_so
                  have lt_ea_so : ea < so := by rw [g34]; exact J_ea.lt
                  have ne_ea_so : ea ≠ so := Nat.ne_of_lt lt_ea_so
                  have le_so : n0 ≤ so := by rw [g34]; exact Z0
                  replace J_u := J_u.ext E34
                  replace J_ea := J_ea.ext E34
                  replace Z0 := Nat.le_trans Z0 E34.1
                  have Ex_so : Exa Z h34 so "com/example/treesack/treesack/core/Solution" := A34
                  have F_value_so : Fld Z h34 so "com/example/treesack/treesack/core/Solution" "value" "J" (.long (0 : Int64)) := D34 (Or.inr (hw _ (List.mem_of_getElem? (i := 13) rfl))) (ty := .long) (by decide)
                  have F_uses_so : Fld Z h34 so "com/example/treesack/treesack/core/Solution" "uses" "[J" .null := D34 (Or.inr (hw _ (List.mem_of_getElem? (i := 15) rfl))) (ty := (.array .long)) (by decide)
                  refine GoOn.step st34 ?_
                  show GoOn p e below _ (T34.setTop (mkF m 155 #[.val (.int q0), .val (.long q1), .second, .val (.long q2), .second, .val (.long q3), .second, .val (.long q4), .second, .val (.long q5), .second, .val (.int k), .val (.ref u), .val (.ref ea), .val (.int (Int32.ofNat (tk (sel q1 q2 q3 q4) K).length)), .unset, .unset, .unset, .unset] [(.ref so)]))
                  refine GoOn.step (fun t₀ k₀ => XS.dup X34.here hx rfl (hb hby at_155) rfl rfl k₀) ?_
                  show GoOn p e below _ (T34.setTop (mkF m 156 #[.val (.int q0), .val (.long q1), .second, .val (.long q2), .second, .val (.long q3), .second, .val (.long q4), .second, .val (.long q5), .second, .val (.int k), .val (.ref u), .val (.ref ea), .val (.int (Int32.ofNat (tk (sel q1 q2 q3 q4) K).length)), .unset, .unset, .unset, .unset] [(.ref so), (.ref so)]))
                  refine GoOn.step (fun t₀ k₀ => XS.lload X34.here hx rfl (hb hby at_156) rfl k₀) ?_
                  show GoOn p e below _ (T34.setTop (mkF m 158 #[.val (.int q0), .val (.long q1), .second, .val (.long q2), .second, .val (.long q3), .second, .val (.long q4), .second, .val (.long q5), .second, .val (.int k), .val (.ref u), .val (.ref ea), .val (.int (Int32.ofNat (tk (sel q1 q2 q3 q4) K).length)), .unset, .unset, .unset, .unset] [(.long q5), (.ref so), (.ref so)]))
                  refine GoOn.step (fun t₀ k₀ => XS.aload X34.here hx rfl (hb hby at_158) rfl rfl k₀) ?_
                  show GoOn p e below _ (T34.setTop (mkF m 160 #[.val (.int q0), .val (.long q1), .second, .val (.long q2), .second, .val (.long q3), .second, .val (.long q4), .second, .val (.long q5), .second, .val (.int k), .val (.ref u), .val (.ref ea), .val (.int (Int32.ofNat (tk (sel q1 q2 q3 q4) K).length)), .unset, .unset, .unset, .unset] [(.ref u), (.long q5), (.ref so), (.ref so)]))
                  obtain ⟨_, T35, L35, X35, hQ35, st35⟩ := kCallI X34 hx hZ (a := so) (argsL := [(.long q5), (.ref u)]) (rest := [(.ref so)]) (c_ini l Z a0 hw so u q5 h34 n0 Z0 Ex_so F_value_so F_uses_so le_so) rfl hown (hw _ (List.mem_of_getElem? (i := 6) rfl)) (hw _ (List.mem_of_getElem? (i := 7) rfl)) (hw _ (List.mem_of_getElem? (i := 5) rfl)) (hw _ (List.mem_of_getElem? (i := 8) rfl)) (by decide) e34 (g := (mkF m 160 #[.val (.int q0), .val (.long q1), .second, .val (.long q2), .second, .val (.long q3), .second, .val (.long q4), .second, .val (.long q5), .second, .val (.int k), .val (.ref u), .val (.ref ea), .val (.int (Int32.ofNat (tk (sel q1 q2 q3 q4) K).length)), .unset, .unset, .unset, .unset] [(.ref u), (.long q5), (.ref so), (.ref so)])) rfl (by rw [hml]; rfl) (lenOf pd_0 rfl) rfl (W := 1) (by show 2 * 0 + _ ≤ _; exact Nat.le_of_eq rfl) (hb hby at_160) (by decide) (by decide) (by decide) (by decide)
                  obtain ⟨rfl, N35, K35, Fv, Fu⟩ := hQ35
                  replace N0 := Fr.app N0 N35
                  replace J_u := J_u.keep K35 (ninS ne_u_so nin0)
                  replace J_ea := J_ea.keep K35 (ninS ne_ea_so nin0)
                  replace Ex_so := Ex_so.keep K35
                  clear F_value_so
                  clear F_uses_so
                  replace Z0 := Nat.le_trans Z0 K35.1
                  refine GoOn.step st35 ?_
                  show GoOn p e below _ (T35.setTop (mkF m 163 #[.val (.int q0), .val (.long q1), .second, .val (.long q2), .second, .val (.long q3), .second, .val (.long q4), .second, .val (.long q5), .second, .val (.int k), .val (.ref u), .val (.ref ea), .val (.int (Int32.ofNat (tk (sel q1 q2 q3 q4) K).length)), .unset, .unset, .unset, .unset] [(.ref so)]))
                  refine GoOn.step (fun t₀ k₀ => XS.astore X35.here hx rfl (hb hby at_163) rfl rfl (l' := #[.val (.int q0), .val (.long q1), .second, .val (.long q2), .second, .val (.long q3), .second, .val (.long q4), .second, .val (.long q5), .second, .val (.int k), .val (.ref u), .val (.ref ea), .val (.int (Int32.ofNat (tk (sel q1 q2 q3 q4) K).length)), .val (.ref so), .unset, .unset, .unset]) rfl k₀) ?_
                  show GoOn p e below _ (T35.setTop (mkF m 165 #[.val (.int q0), .val (.long q1), .second, .val (.long q2), .second, .val (.long q3), .second, .val (.long q4), .second, .val (.long q5), .second, .val (.int k), .val (.ref u), .val (.ref ea), .val (.int (Int32.ofNat (tk (sel q1 q2 q3 q4) K).length)), .val (.ref so), .unset, .unset, .unset] []))
                  refine GoOn.step (fun t₀ k₀ => XS.aload X35.here hx rfl (hb hby at_165) rfl rfl k₀) ?_
                  show GoOn p e below _ (T35.setTop (mkF m 167 #[.val (.int q0), .val (.long q1), .second, .val (.long q2), .second, .val (.long q3), .second, .val (.long q4), .second, .val (.long q5), .second, .val (.int k), .val (.ref u), .val (.ref ea), .val (.int (Int32.ofNat (tk (sel q1 q2 q3 q4) K).length)), .val (.ref so), .unset, .unset, .unset] [(.ref so)]))
                  have Ju := J_u.congr (g := fun j => .long ((sel q1 q2 q3 q4) j)) (fun j hj => by show Value.long (if j < 4 then _ else _) = Value.long _; rw [if_pos (by omega)])
                  obtain ⟨_, T36, L36, X36, hQ36, st36⟩ := kCallV X35 hx hZ (a := so) (argsL := []) (rest := []) (c_tn l Z a0 hw so u K (sel q1 q2 q3 q4) T35.heap n0 Z0 hK4 Fu Ju) hown (hw _ (List.mem_of_getElem? (i := 16) rfl)) (hw _ (List.mem_of_getElem? (i := 17) rfl)) (notFace_of_selects (args := #[]) (mvT hZ (hw _ (List.mem_of_getElem? (i := 19) rfl)))) (hw _ (List.mem_of_getElem? (i := 19) rfl)) (hw _ (List.mem_of_getElem? (i := 18) rfl)) (hw _ (List.mem_of_getElem? (i := 5) rfl)) (hw _ (List.mem_of_getElem? (i := 20) rfl)) (by decide) rfl Ex_so (g := (mkF m 167 #[.val (.int q0), .val (.long q1), .second, .val (.long q2), .second, .val (.long q3), .second, .val (.long q4), .second, .val (.long q5), .second, .val (.int k), .val (.ref u), .val (.ref ea), .val (.int (Int32.ofNat (tk (sel q1 q2 q3 q4) K).length)), .val (.ref so), .unset, .unset, .unset] [(.ref so)])) rfl (by rw [hml]; rfl) (lenOf pd_1 rfl) rfl (W := 0) (by show 2 * 0 + _ ≤ _; exact Nat.le_of_eq rfl) (hb hby at_167) (by decide) (by decide) (by decide) (by decide)
                  obtain ⟨r, fr, rfl, N36, K36, sz36, Jr, hr⟩ := hQ36
                  replace N0 := Fr.app N0 N36
                  clear Ju
                  replace J_u := J_u.keep K36 nin0
                  replace J_ea := J_ea.keep K36 nin0
                  replace Ex_so := Ex_so.keep K36
                  replace Fv := Fv.keep K36 nin0
                  replace Fu := Fu.keep K36 nin0
                  replace Z0 := Nat.le_trans Z0 K36.1
                  refine GoOn.step st36 ?_
                  show GoOn p e below _ (T36.setTop (mkF m 170 #[.val (.int q0), .val (.long q1), .second, .val (.long q2), .second, .val (.long q3), .second, .val (.long q4), .second, .val (.long q5), .second, .val (.int k), .val (.ref u), .val (.ref ea), .val (.int (Int32.ofNat (tk (sel q1 q2 q3 q4) K).length)), .val (.ref so), .unset, .unset, .unset] [(.ref r)]))
                  refine GoOn.step (fun t₀ k₀ => XS.astore X36.here hx rfl (hb hby at_170) rfl rfl (l' := #[.val (.int q0), .val (.long q1), .second, .val (.long q2), .second, .val (.long q3), .second, .val (.long q4), .second, .val (.long q5), .second, .val (.int k), .val (.ref u), .val (.ref ea), .val (.int (Int32.ofNat (tk (sel q1 q2 q3 q4) K).length)), .val (.ref so), .val (.ref r), .unset, .unset]) rfl k₀) ?_
                  show GoOn p e below _ (T36.setTop (mkF m 172 #[.val (.int q0), .val (.long q1), .second, .val (.long q2), .second, .val (.long q3), .second, .val (.long q4), .second, .val (.long q5), .second, .val (.int k), .val (.ref u), .val (.ref ea), .val (.int (Int32.ofNat (tk (sel q1 q2 q3 q4) K).length)), .val (.ref so), .val (.ref r), .unset, .unset] []))
                  refine GoOn.step (fun t₀ k₀ => XS.aload X36.here hx rfl (hb hby at_172) rfl rfl k₀) ?_
                  show GoOn p e below _ (T36.setTop (mkF m 174 #[.val (.int q0), .val (.long q1), .second, .val (.long q2), .second, .val (.long q3), .second, .val (.long q4), .second, .val (.long q5), .second, .val (.int k), .val (.ref u), .val (.ref ea), .val (.int (Int32.ofNat (tk (sel q1 q2 q3 q4) K).length)), .val (.ref so), .val (.ref r), .unset, .unset] [(.ref r)]))
                  have tl := tk_le (sel q1 q2 q3 q4) K
                  have ln := on (tk (sel q1 q2 q3 q4) K).length (by omega)
                  refine GoOn.step (fun t₀ k₀ => XS.ifnullNo X36.here hx rfl (hb hby at_174) rfl k₀) ?_
                  show GoOn p e below _ (T36.setTop (mkF m 177 #[.val (.int q0), .val (.long q1), .second, .val (.long q2), .second, .val (.long q3), .second, .val (.long q4), .second, .val (.long q5), .second, .val (.int k), .val (.ref u), .val (.ref ea), .val (.int (Int32.ofNat (tk (sel q1 q2 q3 q4) K).length)), .val (.ref so), .val (.ref r), .unset, .unset] []))
                  refine GoOn.step (fun t₀ k₀ => XS.aload X36.here hx rfl (hb hby at_177) rfl rfl k₀) ?_
                  show GoOn p e below _ (T36.setTop (mkF m 179 #[.val (.int q0), .val (.long q1), .second, .val (.long q2), .second, .val (.long q3), .second, .val (.long q4), .second, .val (.long q5), .second, .val (.int k), .val (.ref u), .val (.ref ea), .val (.int (Int32.ofNat (tk (sel q1 q2 q3 q4) K).length)), .val (.ref so), .val (.ref r), .unset, .unset] [(.ref r)]))
                  refine GoOn.step (fun t₀ k₀ => kLen X36 hx hZ rfl Jr (z := (Int32.ofNat (tk (sel q1 q2 q3 q4) K).length)) rfl (g := (mkF m 179 #[.val (.int q0), .val (.long q1), .second, .val (.long q2), .second, .val (.long q3), .second, .val (.long q4), .second, .val (.long q5), .second, .val (.int k), .val (.ref u), .val (.ref ea), .val (.int (Int32.ofNat (tk (sel q1 q2 q3 q4) K).length)), .val (.ref so), .val (.ref r), .unset, .unset] [(.ref r)])) rfl rfl (hb hby at_179) t₀ k₀) ?_
                  show GoOn p e below _ (T36.setTop (mkF m 180 #[.val (.int q0), .val (.long q1), .second, .val (.long q2), .second, .val (.long q3), .second, .val (.long q4), .second, .val (.long q5), .second, .val (.int k), .val (.ref u), .val (.ref ea), .val (.int (Int32.ofNat (tk (sel q1 q2 q3 q4) K).length)), .val (.ref so), .val (.ref r), .unset, .unset] [(.int (Int32.ofNat (tk (sel q1 q2 q3 q4) K).length))]))
                  refine GoOn.step (fun t₀ k₀ => XS.iload X36.here hx rfl (hb hby at_180) rfl k₀) ?_
                  show GoOn p e below _ (T36.setTop (mkF m 182 #[.val (.int q0), .val (.long q1), .second, .val (.long q2), .second, .val (.long q3), .second, .val (.long q4), .second, .val (.long q5), .second, .val (.int k), .val (.ref u), .val (.ref ea), .val (.int (Int32.ofNat (tk (sel q1 q2 q3 q4) K).length)), .val (.ref so), .val (.ref r), .unset, .unset] [(.int (Int32.ofNat (tk (sel q1 q2 q3 q4) K).length)), (.int (Int32.ofNat (tk (sel q1 q2 q3 q4) K).length))]))
                  have hf37 : (Int32.ofNat (tk (sel q1 q2 q3 q4) K).length) = (Int32.ofNat (tk (sel q1 q2 q3 q4) K).length) := rfl
                  refine GoOn.step (fun t₀ k₀ => XS.icmpYes X36.here hx rfl (pc0 := 182) (pc' := 187) rfl (hb hby at_182) rfl (teq hf37).1 (by decide) (by decide) k₀) ?_
                  show GoOn p e below _ (T36.setTop (mkF m 187 #[.val (.int q0), .val (.long q1), .second, .val (.long q2), .second, .val (.long q3), .second, .val (.long q4), .second, .val (.long q5), .second, .val (.int k), .val (.ref u), .val (.ref ea), .val (.int (Int32.ofNat (tk (sel q1 q2 q3 q4) K).length)), .val (.ref so), .val (.ref r), .unset, .unset] []))
                  refine GoOn.step (fun t₀ k₀ => XS.iload X36.here hx rfl (hb hby at_187) rfl k₀) ?_
                  show GoOn p e below _ (T36.setTop (mkF m 189 #[.val (.int q0), .val (.long q1), .second, .val (.long q2), .second, .val (.long q3), .second, .val (.long q4), .second, .val (.long q5), .second, .val (.int k), .val (.ref u), .val (.ref ea), .val (.int (Int32.ofNat (tk (sel q1 q2 q3 q4) K).length)), .val (.ref so), .val (.ref r), .unset, .unset] [(.int (Int32.ofNat (tk (sel q1 q2 q3 q4) K).length))]))
                  have hm0 : (0 : Int32) < Int32.ofNat (tk (sel q1 q2 q3 q4) K).length ↔ 0 < (tk (sel q1 q2 q3 q4) K).length := by rw [Int32.lt_iff_toInt_lt, ln, show (0 : Int32).toInt = 0 from by decide]; omega
                  have hm1 : (1 : Int32) < Int32.ofNat (tk (sel q1 q2 q3 q4) K).length ↔ 1 < (tk (sel q1 q2 q3 q4) K).length := by rw [Int32.lt_iff_toInt_lt, ln, show (1 : Int32).toInt = 1 from by decide]; omega
                  have hm2 : (2 : Int32) < Int32.ofNat (tk (sel q1 q2 q3 q4) K).length ↔ 2 < (tk (sel q1 q2 q3 q4) K).length := by rw [Int32.lt_iff_toInt_lt, ln, show (2 : Int32).toInt = 2 from by decide]; omega
                  have hm3 : (3 : Int32) < Int32.ofNat (tk (sel q1 q2 q3 q4) K).length ↔ 3 < (tk (sel q1 q2 q3 q4) K).length := by rw [Int32.lt_iff_toInt_lt, ln, show (3 : Int32).toInt = 3 from by decide]; omega
                  have Jok : ∀ (_ : True), GoOn p e below (EndQ s room_1 (LQ n0)) (T36.setTop (mkF m 254 #[.val (.int q0), .val (.long q1), .second, .val (.long q2), .second, .val (.long q3), .second, .val (.long q4), .second, .val (.long q5), .second, .val (.int k), .val (.ref u), .val (.ref ea), .val (.int (Int32.ofNat (tk (sel q1 q2 q3 q4) K).length)), .val (.ref so), .val (.ref r), .unset, .unset] [])) := by
                    intro _
                    refine GoOn.step (fun t₀ k₀ => XS.iconst X36.here hx rfl (hb hby at_254) k₀) ?_
                    show GoOn p e below _ (T36.setTop (mkF m 255 #[.val (.int q0), .val (.long q1), .second, .val (.long q2), .second, .val (.long q3), .second, .val (.long q4), .second, .val (.long q5), .second, .val (.int k), .val (.ref u), .val (.ref ea), .val (.int (Int32.ofNat (tk (sel q1 q2 q3 q4) K).length)), .val (.ref so), .val (.ref r), .unset, .unset] [(.int (1 : Int32))]))
                    refine GoOn.step (fun t₀ k₀ => XS.goto X36.here hx rfl (pc0 := 255) (pc' := 259) rfl (hb hby at_255) (by decide) (by decide) k₀) ?_
                    show GoOn p e below _ (T36.setTop (mkF m 259 #[.val (.int q0), .val (.long q1), .second, .val (.long q2), .second, .val (.long q3), .second, .val (.long q4), .second, .val (.long q5), .second, .val (.int k), .val (.ref u), .val (.ref ea), .val (.int (Int32.ofNat (tk (sel q1 q2 q3 q4) K).length)), .val (.ref so), .val (.ref r), .unset, .unset] [(.int (1 : Int32))]))
                    refine GoOn.step (fun t₀ k₀ => XS.istore X36.here hx rfl (hb hby at_259) rfl (l' := #[.val (.int q0), .val (.long q1), .second, .val (.long q2), .second, .val (.long q3), .second, .val (.long q4), .second, .val (.long q5), .second, .val (.int k), .val (.ref u), .val (.ref ea), .val (.int (Int32.ofNat (tk (sel q1 q2 q3 q4) K).length)), .val (.ref so), .val (.ref r), .val (.int (1 : Int32)), .unset]) rfl k₀) ?_
                    show GoOn p e below _ (T36.setTop (mkF m 261 #[.val (.int q0), .val (.long q1), .second, .val (.long q2), .second, .val (.long q3), .second, .val (.long q4), .second, .val (.long q5), .second, .val (.int k), .val (.ref u), .val (.ref ea), .val (.int (Int32.ofNat (tk (sel q1 q2 q3 q4) K).length)), .val (.ref so), .val (.ref r), .val (.int (1 : Int32)), .unset] []))
                    refine GoOn.step (fun t₀ k₀ => XS.iload X36.here hx rfl (hb hby at_261) rfl k₀) ?_
                    show GoOn p e below _ (T36.setTop (mkF m 263 #[.val (.int q0), .val (.long q1), .second, .val (.long q2), .second, .val (.long q3), .second, .val (.long q4), .second, .val (.long q5), .second, .val (.int k), .val (.ref u), .val (.ref ea), .val (.int (Int32.ofNat (tk (sel q1 q2 q3 q4) K).length)), .val (.ref so), .val (.ref r), .val (.int (1 : Int32)), .unset] [(.int k)]))
                    have Jkept : ∀ (_ : True), GoOn p e below (EndQ s room_1 (LQ n0)) (T36.setTop (mkF m 322 #[.val (.int q0), .val (.long q1), .second, .val (.long q2), .second, .val (.long q3), .second, .val (.long q4), .second, .val (.long q5), .second, .val (.int k), .val (.ref u), .val (.ref ea), .val (.int (Int32.ofNat (tk (sel q1 q2 q3 q4) K).length)), .val (.ref so), .val (.ref r), .val (.int (1 : Int32)), .unset] [])) := by
                      intro _
                      refine GoOn.step (fun t₀ k₀ => XS.iconst X36.here hx rfl (hb hby at_322) k₀) ?_
                      show GoOn p e below _ (T36.setTop (mkF m 323 #[.val (.int q0), .val (.long q1), .second, .val (.long q2), .second, .val (.long q3), .second, .val (.long q4), .second, .val (.long q5), .second, .val (.int k), .val (.ref u), .val (.ref ea), .val (.int (Int32.ofNat (tk (sel q1 q2 q3 q4) K).length)), .val (.ref so), .val (.ref r), .val (.int (1 : Int32)), .unset] [(.int (1 : Int32))]))
                      refine GoOn.step (fun t₀ k₀ => XS.goto X36.here hx rfl (pc0 := 323) (pc' := 327) rfl (hb hby at_323) (by decide) (by decide) k₀) ?_
                      show GoOn p e below _ (T36.setTop (mkF m 327 #[.val (.int q0), .val (.long q1), .second, .val (.long q2), .second, .val (.long q3), .second, .val (.long q4), .second, .val (.long q5), .second, .val (.int k), .val (.ref u), .val (.ref ea), .val (.int (Int32.ofNat (tk (sel q1 q2 q3 q4) K).length)), .val (.ref so), .val (.ref r), .val (.int (1 : Int32)), .unset] [(.int (1 : Int32))]))
                      refine GoOn.step (fun t₀ k₀ => XS.istore X36.here hx rfl (hb hby at_327) rfl (l' := #[.val (.int q0), .val (.long q1), .second, .val (.long q2), .second, .val (.long q3), .second, .val (.long q4), .second, .val (.long q5), .second, .val (.int k), .val (.ref u), .val (.ref ea), .val (.int (Int32.ofNat (tk (sel q1 q2 q3 q4) K).length)), .val (.ref so), .val (.ref r), .val (.int (1 : Int32)), .val (.int (1 : Int32))]) rfl k₀) ?_
                      show GoOn p e below _ (T36.setTop (mkF m 329 #[.val (.int q0), .val (.long q1), .second, .val (.long q2), .second, .val (.long q3), .second, .val (.long q4), .second, .val (.long q5), .second, .val (.int k), .val (.ref u), .val (.ref ea), .val (.int (Int32.ofNat (tk (sel q1 q2 q3 q4) K).length)), .val (.ref so), .val (.ref r), .val (.int (1 : Int32)), .val (.int (1 : Int32))] []))
                      refine GoOn.step (fun t₀ k₀ => XS.iload X36.here hx rfl (hb hby at_329) rfl k₀) ?_
                      show GoOn p e below _ (T36.setTop (mkF m 331 #[.val (.int q0), .val (.long q1), .second, .val (.long q2), .second, .val (.long q3), .second, .val (.long q4), .second, .val (.long q5), .second, .val (.int k), .val (.ref u), .val (.ref ea), .val (.int (Int32.ofNat (tk (sel q1 q2 q3 q4) K).length)), .val (.ref so), .val (.ref r), .val (.int (1 : Int32)), .val (.int (1 : Int32))] [(.int (1 : Int32))]))
                      have hf58 : ¬ ((1 : Int32) = (0 : Int32)) := (by decide)
                      refine GoOn.step (fun t₀ k₀ => XS.ifNo X36.here hx rfl (hb hby at_331) rfl ((if0 _ _).trans (feq hf58).1) k₀) ?_
                      show GoOn p e below _ (T36.setTop (mkF m 334 #[.val (.int q0), .val (.long q1), .second, .val (.long q2), .second, .val (.long q3), .second, .val (.long q4), .second, .val (.long q5), .second, .val (.int k), .val (.ref u), .val (.ref ea), .val (.int (Int32.ofNat (tk (sel q1 q2 q3 q4) K).length)), .val (.ref so), .val (.ref r), .val (.int (1 : Int32)), .val (.int (1 : Int32))] []))
                      refine GoOn.step (fun t₀ k₀ => XS.iload X36.here hx rfl (hb hby at_334) rfl k₀) ?_
                      show GoOn p e below _ (T36.setTop (mkF m 336 #[.val (.int q0), .val (.long q1), .second, .val (.long q2), .second, .val (.long q3), .second, .val (.long q4), .second, .val (.long q5), .second, .val (.int k), .val (.ref u), .val (.ref ea), .val (.int (Int32.ofNat (tk (sel q1 q2 q3 q4) K).length)), .val (.ref so), .val (.ref r), .val (.int (1 : Int32)), .val (.int (1 : Int32))] [(.int (1 : Int32))]))
                      have hf59 : ¬ ((1 : Int32) = (0 : Int32)) := (by decide)
                      refine GoOn.step (fun t₀ k₀ => XS.ifNo X36.here hx rfl (hb hby at_336) rfl ((if0 _ _).trans (feq hf59).1) k₀) ?_
                      show GoOn p e below _ (T36.setTop (mkF m 339 #[.val (.int q0), .val (.long q1), .second, .val (.long q2), .second, .val (.long q3), .second, .val (.long q4), .second, .val (.long q5), .second, .val (.int k), .val (.ref u), .val (.ref ea), .val (.int (Int32.ofNat (tk (sel q1 q2 q3 q4) K).length)), .val (.ref so), .val (.ref r), .val (.int (1 : Int32)), .val (.int (1 : Int32))] []))
                      refine GoOn.step (fun t₀ k₀ => XS.aload X36.here hx rfl (hb hby at_339) rfl rfl k₀) ?_
                      show GoOn p e below _ (T36.setTop (mkF m 341 #[.val (.int q0), .val (.long q1), .second, .val (.long q2), .second, .val (.long q3), .second, .val (.long q4), .second, .val (.long q5), .second, .val (.int k), .val (.ref u), .val (.ref ea), .val (.int (Int32.ofNat (tk (sel q1 q2 q3 q4) K).length)), .val (.ref so), .val (.ref r), .val (.int (1 : Int32)), .val (.int (1 : Int32))] [(.ref so)]))
                      obtain ⟨_, T60, L60, X60, hQ60, st60⟩ := kCallV X36 hx hZ (a := so) (argsL := []) (rest := []) (c_val l Z a0 hw so q5 _ Fv) hown (hw _ (List.mem_of_getElem? (i := 21) rfl)) (hw _ (List.mem_of_getElem? (i := 22) rfl)) (notFace_of_selects (args := #[]) (mvT hZ (hw _ (List.mem_of_getElem? (i := 24) rfl)))) (hw _ (List.mem_of_getElem? (i := 24) rfl)) (hw _ (List.mem_of_getElem? (i := 23) rfl)) (hw _ (List.mem_of_getElem? (i := 5) rfl)) (hw _ (List.mem_of_getElem? (i := 25) rfl)) (by decide) rfl Ex_so (g := (mkF m 341 #[.val (.int q0), .val (.long q1), .second, .val (.long q2), .second, .val (.long q3), .second, .val (.long q4), .second, .val (.long q5), .second, .val (.int k), .val (.ref u), .val (.ref ea), .val (.int (Int32.ofNat (tk (sel q1 q2 q3 q4) K).length)), .val (.ref so), .val (.ref r), .val (.int (1 : Int32)), .val (.int (1 : Int32))] [(.ref so)])) rfl (by rw [hml]; rfl) (lenOf pd_2 rfl) rfl (W := 0) (by show 2 * 0 + _ ≤ _; exact Nat.le_of_eq rfl) (hb hby at_341) (by decide) (by decide) (by decide) (by decide)
                      obtain ⟨rfl, rfl, e60⟩ := hQ60
                      rw [List.append_nil] at X60
                      refine GoOn.step st60 ?_
                      show GoOn p e below _ (T60.setTop (mkF m 344 #[.val (.int q0), .val (.long q1), .second, .val (.long q2), .second, .val (.long q3), .second, .val (.long q4), .second, .val (.long q5), .second, .val (.int k), .val (.ref u), .val (.ref ea), .val (.int (Int32.ofNat (tk (sel q1 q2 q3 q4) K).length)), .val (.ref so), .val (.ref r), .val (.int (1 : Int32)), .val (.int (1 : Int32))] [(.long q5)]))
                      refine GoOn.step (fun t₀ k₀ => XS.lload X60.here hx rfl (hb hby at_344) rfl k₀) ?_
                      show GoOn p e below _ (T60.setTop (mkF m 346 #[.val (.int q0), .val (.long q1), .second, .val (.long q2), .second, .val (.long q3), .second, .val (.long q4), .second, .val (.long q5), .second, .val (.int k), .val (.ref u), .val (.ref ea), .val (.int (Int32.ofNat (tk (sel q1 q2 q3 q4) K).length)), .val (.ref so), .val (.ref r), .val (.int (1 : Int32)), .val (.int (1 : Int32))] [(.long q5), (.long q5)]))
                      refine GoOn.step (fun t₀ k₀ => XS.lcmp X60.here hx rfl (hb hby at_346) rfl k₀) ?_
                      show GoOn p e below _ (T60.setTop (mkF m 347 #[.val (.int q0), .val (.long q1), .second, .val (.long q2), .second, .val (.long q3), .second, .val (.long q4), .second, .val (.long q5), .second, .val (.int k), .val (.ref u), .val (.ref ea), .val (.int (Int32.ofNat (tk (sel q1 q2 q3 q4) K).length)), .val (.ref so), .val (.ref r), .val (.int (1 : Int32)), .val (.int (1 : Int32))] [(.int (lcmpW q5 q5))]))
                      have hf61 : q5 = q5 := rfl
                      refine GoOn.step (fun t₀ k₀ => XS.ifNo X60.here hx rfl (hb hby at_347) rfl ((if0 _ _).trans (teq ((lw_eq _ _).mpr hf61)).2) k₀) ?_
                      show GoOn p e below _ (T60.setTop (mkF m 350 #[.val (.int q0), .val (.long q1), .second, .val (.long q2), .second, .val (.long q3), .second, .val (.long q4), .second, .val (.long q5), .second, .val (.int k), .val (.ref u), .val (.ref ea), .val (.int (Int32.ofNat (tk (sel q1 q2 q3 q4) K).length)), .val (.ref so), .val (.ref r), .val (.int (1 : Int32)), .val (.int (1 : Int32))] []))
                      refine GoOn.step (fun t₀ k₀ => XS.iconst X60.here hx rfl (hb hby at_350) k₀) ?_
                      show GoOn p e below _ (T60.setTop (mkF m 351 #[.val (.int q0), .val (.long q1), .second, .val (.long q2), .second, .val (.long q3), .second, .val (.long q4), .second, .val (.long q5), .second, .val (.int k), .val (.ref u), .val (.ref ea), .val (.int (Int32.ofNat (tk (sel q1 q2 q3 q4) K).length)), .val (.ref so), .val (.ref r), .val (.int (1 : Int32)), .val (.int (1 : Int32))] [(.int (1 : Int32))]))
                      refine GoOn.step (fun t₀ k₀ => XS.goto X60.here hx rfl (pc0 := 351) (pc' := 355) rfl (hb hby at_351) (by decide) (by decide) k₀) ?_
                      show GoOn p e below _ (T60.setTop (mkF m 355 #[.val (.int q0), .val (.long q1), .second, .val (.long q2), .second, .val (.long q3), .second, .val (.long q4), .second, .val (.long q5), .second, .val (.int k), .val (.ref u), .val (.ref ea), .val (.int (Int32.ofNat (tk (sel q1 q2 q3 q4) K).length)), .val (.ref so), .val (.ref r), .val (.int (1 : Int32)), .val (.int (1 : Int32))] [(.int (1 : Int32))]))
                      exact GoOn.retN X60 hx hrt hlk (by simp) (hb hby at_355) (by decide) (by decide) (by first | exact ⟨rfl, N0⟩ | (rw [e60]; exact ⟨rfl, N0⟩))
                    by_cases f0 : (0 : Int32) < k
                    · refine GoOn.step (fun t₀ k₀ => XS.ifNo X36.here hx rfl (hb hby at_263) rfl ((if0 _ _).trans (tlt f0).2.2.2) k₀) ?_
                      show GoOn p e below _ (T36.setTop (mkF m 266 #[.val (.int q0), .val (.long q1), .second, .val (.long q2), .second, .val (.long q3), .second, .val (.long q4), .second, .val (.long q5), .second, .val (.int k), .val (.ref u), .val (.ref ea), .val (.int (Int32.ofNat (tk (sel q1 q2 q3 q4) K).length)), .val (.ref so), .val (.ref r), .val (.int (1 : Int32)), .unset] []))
                      have fi := hk0.mp f0
                      refine GoOn.step (fun t₀ k₀ => XS.aload X36.here hx rfl (hb hby at_266) rfl rfl k₀) ?_
                      show GoOn p e below _ (T36.setTop (mkF m 268 #[.val (.int q0), .val (.long q1), .second, .val (.long q2), .second, .val (.long q3), .second, .val (.long q4), .second, .val (.long q5), .second, .val (.int k), .val (.ref u), .val (.ref ea), .val (.int (Int32.ofNat (tk (sel q1 q2 q3 q4) K).length)), .val (.ref so), .val (.ref r), .val (.int (1 : Int32)), .unset] [(.ref u)]))
                      refine GoOn.step (fun t₀ k₀ => XS.iconst X36.here hx rfl (hb hby at_268) k₀) ?_
                      show GoOn p e below _ (T36.setTop (mkF m 269 #[.val (.int q0), .val (.long q1), .second, .val (.long q2), .second, .val (.long q3), .second, .val (.long q4), .second, .val (.long q5), .second, .val (.int k), .val (.ref u), .val (.ref ea), .val (.int (Int32.ofNat (tk (sel q1 q2 q3 q4) K).length)), .val (.ref so), .val (.ref r), .val (.int (1 : Int32)), .unset] [(.int (0 : Int32)), (.ref u)]))
                      refine GoOn.step (fun t₀ k₀ => kLdJ X36 hx hZ rfl J_u (j := (0 : Int32)) (v := (.long q1)) ⟨by decide, by have : (0 : Int32).toInt = 0 := (by decide); omega⟩ rfl (g := (mkF m 269 #[.val (.int q0), .val (.long q1), .second, .val (.long q2), .second, .val (.long q3), .second, .val (.long q4), .second, .val (.long q5), .second, .val (.int k), .val (.ref u), .val (.ref ea), .val (.int (Int32.ofNat (tk (sel q1 q2 q3 q4) K).length)), .val (.ref so), .val (.ref r), .val (.int (1 : Int32)), .unset] [(.int (0 : Int32)), (.ref u)])) rfl rfl (hb hby at_269) t₀ k₀) ?_
                      show GoOn p e below _ (T36.setTop (mkF m 270 #[.val (.int q0), .val (.long q1), .second, .val (.long q2), .second, .val (.long q3), .second, .val (.long q4), .second, .val (.long q5), .second, .val (.int k), .val (.ref u), .val (.ref ea), .val (.int (Int32.ofNat (tk (sel q1 q2 q3 q4) K).length)), .val (.ref so), .val (.ref r), .val (.int (1 : Int32)), .unset] [(.long q1)]))
                      refine GoOn.step (fun t₀ k₀ => XS.lloadN X36.here hx rfl (hb hby at_270) rfl k₀) ?_
                      show GoOn p e below _ (T36.setTop (mkF m 271 #[.val (.int q0), .val (.long q1), .second, .val (.long q2), .second, .val (.long q3), .second, .val (.long q4), .second, .val (.long q5), .second, .val (.int k), .val (.ref u), .val (.ref ea), .val (.int (Int32.ofNat (tk (sel q1 q2 q3 q4) K).length)), .val (.ref so), .val (.ref r), .val (.int (1 : Int32)), .unset] [(.long q1), (.long q1)]))
                      refine GoOn.step (fun t₀ k₀ => XS.lcmp X36.here hx rfl (hb hby at_271) rfl k₀) ?_
                      show GoOn p e below _ (T36.setTop (mkF m 272 #[.val (.int q0), .val (.long q1), .second, .val (.long q2), .second, .val (.long q3), .second, .val (.long q4), .second, .val (.long q5), .second, .val (.int k), .val (.ref u), .val (.ref ea), .val (.int (Int32.ofNat (tk (sel q1 q2 q3 q4) K).length)), .val (.ref so), .val (.ref r), .val (.int (1 : Int32)), .unset] [(.int (lcmpW q1 q1))]))
                      have hf51 : q1 = q1 := rfl
                      refine GoOn.step (fun t₀ k₀ => XS.ifNo X36.here hx rfl (hb hby at_272) rfl ((if0 _ _).trans (teq ((lw_eq _ _).mpr hf51)).2) k₀) ?_
                      show GoOn p e below _ (T36.setTop (mkF m 275 #[.val (.int q0), .val (.long q1), .second, .val (.long q2), .second, .val (.long q3), .second, .val (.long q4), .second, .val (.long q5), .second, .val (.int k), .val (.ref u), .val (.ref ea), .val (.int (Int32.ofNat (tk (sel q1 q2 q3 q4) K).length)), .val (.ref so), .val (.ref r), .val (.int (1 : Int32)), .unset] []))
                      refine GoOn.step (fun t₀ k₀ => XS.iload X36.here hx rfl (hb hby at_275) rfl k₀) ?_
                      show GoOn p e below _ (T36.setTop (mkF m 277 #[.val (.int q0), .val (.long q1), .second, .val (.long q2), .second, .val (.long q3), .second, .val (.long q4), .second, .val (.long q5), .second, .val (.int k), .val (.ref u), .val (.ref ea), .val (.int (Int32.ofNat (tk (sel q1 q2 q3 q4) K).length)), .val (.ref so), .val (.ref r), .val (.int (1 : Int32)), .unset] [(.int k)]))
                      refine GoOn.step (fun t₀ k₀ => XS.iconst X36.here hx rfl (hb hby at_277) k₀) ?_
                      show GoOn p e below _ (T36.setTop (mkF m 278 #[.val (.int q0), .val (.long q1), .second, .val (.long q2), .second, .val (.long q3), .second, .val (.long q4), .second, .val (.long q5), .second, .val (.int k), .val (.ref u), .val (.ref ea), .val (.int (Int32.ofNat (tk (sel q1 q2 q3 q4) K).length)), .val (.ref so), .val (.ref r), .val (.int (1 : Int32)), .unset] [(.int (1 : Int32)), (.int k)]))
                      by_cases f1 : (1 : Int32) < k
                      · refine GoOn.step (fun t₀ k₀ => XS.icmpNo X36.here hx rfl (hb hby at_278) rfl (tlt f1).2.2.2 k₀) ?_
                        show GoOn p e below _ (T36.setTop (mkF m 281 #[.val (.int q0), .val (.long q1), .second, .val (.long q2), .second, .val (.long q3), .second, .val (.long q4), .second, .val (.long q5), .second, .val (.int k), .val (.ref u), .val (.ref ea), .val (.int (Int32.ofNat (tk (sel q1 q2 q3 q4) K).length)), .val (.ref so), .val (.ref r), .val (.int (1 : Int32)), .unset] []))
                        have fi := hk1.mp f1
                        refine GoOn.step (fun t₀ k₀ => XS.aload X36.here hx rfl (hb hby at_281) rfl rfl k₀) ?_
                        show GoOn p e below _ (T36.setTop (mkF m 283 #[.val (.int q0), .val (.long q1), .second, .val (.long q2), .second, .val (.long q3), .second, .val (.long q4), .second, .val (.long q5), .second, .val (.int k), .val (.ref u), .val (.ref ea), .val (.int (Int32.ofNat (tk (sel q1 q2 q3 q4) K).length)), .val (.ref so), .val (.ref r), .val (.int (1 : Int32)), .unset] [(.ref u)]))
                        refine GoOn.step (fun t₀ k₀ => XS.iconst X36.here hx rfl (hb hby at_283) k₀) ?_
                        show GoOn p e below _ (T36.setTop (mkF m 284 #[.val (.int q0), .val (.long q1), .second, .val (.long q2), .second, .val (.long q3), .second, .val (.long q4), .second, .val (.long q5), .second, .val (.int k), .val (.ref u), .val (.ref ea), .val (.int (Int32.ofNat (tk (sel q1 q2 q3 q4) K).length)), .val (.ref so), .val (.ref r), .val (.int (1 : Int32)), .unset] [(.int (1 : Int32)), (.ref u)]))
                        refine GoOn.step (fun t₀ k₀ => kLdJ X36 hx hZ rfl J_u (j := (1 : Int32)) (v := (.long q2)) ⟨by decide, by have : (1 : Int32).toInt = 1 := (by decide); omega⟩ rfl (g := (mkF m 284 #[.val (.int q0), .val (.long q1), .second, .val (.long q2), .second, .val (.long q3), .second, .val (.long q4), .second, .val (.long q5), .second, .val (.int k), .val (.ref u), .val (.ref ea), .val (.int (Int32.ofNat (tk (sel q1 q2 q3 q4) K).length)), .val (.ref so), .val (.ref r), .val (.int (1 : Int32)), .unset] [(.int (1 : Int32)), (.ref u)])) rfl rfl (hb hby at_284) t₀ k₀) ?_
                        show GoOn p e below _ (T36.setTop (mkF m 285 #[.val (.int q0), .val (.long q1), .second, .val (.long q2), .second, .val (.long q3), .second, .val (.long q4), .second, .val (.long q5), .second, .val (.int k), .val (.ref u), .val (.ref ea), .val (.int (Int32.ofNat (tk (sel q1 q2 q3 q4) K).length)), .val (.ref so), .val (.ref r), .val (.int (1 : Int32)), .unset] [(.long q2)]))
                        refine GoOn.step (fun t₀ k₀ => XS.lloadN X36.here hx rfl (hb hby at_285) rfl k₀) ?_
                        show GoOn p e below _ (T36.setTop (mkF m 286 #[.val (.int q0), .val (.long q1), .second, .val (.long q2), .second, .val (.long q3), .second, .val (.long q4), .second, .val (.long q5), .second, .val (.int k), .val (.ref u), .val (.ref ea), .val (.int (Int32.ofNat (tk (sel q1 q2 q3 q4) K).length)), .val (.ref so), .val (.ref r), .val (.int (1 : Int32)), .unset] [(.long q2), (.long q2)]))
                        refine GoOn.step (fun t₀ k₀ => XS.lcmp X36.here hx rfl (hb hby at_286) rfl k₀) ?_
                        show GoOn p e below _ (T36.setTop (mkF m 287 #[.val (.int q0), .val (.long q1), .second, .val (.long q2), .second, .val (.long q3), .second, .val (.long q4), .second, .val (.long q5), .second, .val (.int k), .val (.ref u), .val (.ref ea), .val (.int (Int32.ofNat (tk (sel q1 q2 q3 q4) K).length)), .val (.ref so), .val (.ref r), .val (.int (1 : Int32)), .unset] [(.int (lcmpW q2 q2))]))
                        have hf54 : q2 = q2 := rfl
                        refine GoOn.step (fun t₀ k₀ => XS.ifNo X36.here hx rfl (hb hby at_287) rfl ((if0 _ _).trans (teq ((lw_eq _ _).mpr hf54)).2) k₀) ?_
                        show GoOn p e below _ (T36.setTop (mkF m 290 #[.val (.int q0), .val (.long q1), .second, .val (.long q2), .second, .val (.long q3), .second, .val (.long q4), .second, .val (.long q5), .second, .val (.int k), .val (.ref u), .val (.ref ea), .val (.int (Int32.ofNat (tk (sel q1 q2 q3 q4) K).length)), .val (.ref so), .val (.ref r), .val (.int (1 : Int32)), .unset] []))
                        refine GoOn.step (fun t₀ k₀ => XS.iload X36.here hx rfl (hb hby at_290) rfl k₀) ?_
                        show GoOn p e below _ (T36.setTop (mkF m 292 #[.val (.int q0), .val (.long q1), .second, .val (.long q2), .second, .val (.long q3), .second, .val (.long q4), .second, .val (.long q5), .second, .val (.int k), .val (.ref u), .val (.ref ea), .val (.int (Int32.ofNat (tk (sel q1 q2 q3 q4) K).length)), .val (.ref so), .val (.ref r), .val (.int (1 : Int32)), .unset] [(.int k)]))
                        refine GoOn.step (fun t₀ k₀ => XS.iconst X36.here hx rfl (hb hby at_292) k₀) ?_
                        show GoOn p e below _ (T36.setTop (mkF m 293 #[.val (.int q0), .val (.long q1), .second, .val (.long q2), .second, .val (.long q3), .second, .val (.long q4), .second, .val (.long q5), .second, .val (.int k), .val (.ref u), .val (.ref ea), .val (.int (Int32.ofNat (tk (sel q1 q2 q3 q4) K).length)), .val (.ref so), .val (.ref r), .val (.int (1 : Int32)), .unset] [(.int (2 : Int32)), (.int k)]))
                        by_cases f2 : (2 : Int32) < k
                        · refine GoOn.step (fun t₀ k₀ => XS.icmpNo X36.here hx rfl (hb hby at_293) rfl (tlt f2).2.2.2 k₀) ?_
                          show GoOn p e below _ (T36.setTop (mkF m 296 #[.val (.int q0), .val (.long q1), .second, .val (.long q2), .second, .val (.long q3), .second, .val (.long q4), .second, .val (.long q5), .second, .val (.int k), .val (.ref u), .val (.ref ea), .val (.int (Int32.ofNat (tk (sel q1 q2 q3 q4) K).length)), .val (.ref so), .val (.ref r), .val (.int (1 : Int32)), .unset] []))
                          have fi := hk2.mp f2
                          refine GoOn.step (fun t₀ k₀ => XS.aload X36.here hx rfl (hb hby at_296) rfl rfl k₀) ?_
                          show GoOn p e below _ (T36.setTop (mkF m 298 #[.val (.int q0), .val (.long q1), .second, .val (.long q2), .second, .val (.long q3), .second, .val (.long q4), .second, .val (.long q5), .second, .val (.int k), .val (.ref u), .val (.ref ea), .val (.int (Int32.ofNat (tk (sel q1 q2 q3 q4) K).length)), .val (.ref so), .val (.ref r), .val (.int (1 : Int32)), .unset] [(.ref u)]))
                          refine GoOn.step (fun t₀ k₀ => XS.iconst X36.here hx rfl (hb hby at_298) k₀) ?_
                          show GoOn p e below _ (T36.setTop (mkF m 299 #[.val (.int q0), .val (.long q1), .second, .val (.long q2), .second, .val (.long q3), .second, .val (.long q4), .second, .val (.long q5), .second, .val (.int k), .val (.ref u), .val (.ref ea), .val (.int (Int32.ofNat (tk (sel q1 q2 q3 q4) K).length)), .val (.ref so), .val (.ref r), .val (.int (1 : Int32)), .unset] [(.int (2 : Int32)), (.ref u)]))
                          refine GoOn.step (fun t₀ k₀ => kLdJ X36 hx hZ rfl J_u (j := (2 : Int32)) (v := (.long q3)) ⟨by decide, by have : (2 : Int32).toInt = 2 := (by decide); omega⟩ rfl (g := (mkF m 299 #[.val (.int q0), .val (.long q1), .second, .val (.long q2), .second, .val (.long q3), .second, .val (.long q4), .second, .val (.long q5), .second, .val (.int k), .val (.ref u), .val (.ref ea), .val (.int (Int32.ofNat (tk (sel q1 q2 q3 q4) K).length)), .val (.ref so), .val (.ref r), .val (.int (1 : Int32)), .unset] [(.int (2 : Int32)), (.ref u)])) rfl rfl (hb hby at_299) t₀ k₀) ?_
                          show GoOn p e below _ (T36.setTop (mkF m 300 #[.val (.int q0), .val (.long q1), .second, .val (.long q2), .second, .val (.long q3), .second, .val (.long q4), .second, .val (.long q5), .second, .val (.int k), .val (.ref u), .val (.ref ea), .val (.int (Int32.ofNat (tk (sel q1 q2 q3 q4) K).length)), .val (.ref so), .val (.ref r), .val (.int (1 : Int32)), .unset] [(.long q3)]))
                          refine GoOn.step (fun t₀ k₀ => XS.lload X36.here hx rfl (hb hby at_300) rfl k₀) ?_
                          show GoOn p e below _ (T36.setTop (mkF m 302 #[.val (.int q0), .val (.long q1), .second, .val (.long q2), .second, .val (.long q3), .second, .val (.long q4), .second, .val (.long q5), .second, .val (.int k), .val (.ref u), .val (.ref ea), .val (.int (Int32.ofNat (tk (sel q1 q2 q3 q4) K).length)), .val (.ref so), .val (.ref r), .val (.int (1 : Int32)), .unset] [(.long q3), (.long q3)]))
                          refine GoOn.step (fun t₀ k₀ => XS.lcmp X36.here hx rfl (hb hby at_302) rfl k₀) ?_
                          show GoOn p e below _ (T36.setTop (mkF m 303 #[.val (.int q0), .val (.long q1), .second, .val (.long q2), .second, .val (.long q3), .second, .val (.long q4), .second, .val (.long q5), .second, .val (.int k), .val (.ref u), .val (.ref ea), .val (.int (Int32.ofNat (tk (sel q1 q2 q3 q4) K).length)), .val (.ref so), .val (.ref r), .val (.int (1 : Int32)), .unset] [(.int (lcmpW q3 q3))]))
                          have hf56 : q3 = q3 := rfl
                          refine GoOn.step (fun t₀ k₀ => XS.ifNo X36.here hx rfl (hb hby at_303) rfl ((if0 _ _).trans (teq ((lw_eq _ _).mpr hf56)).2) k₀) ?_
                          show GoOn p e below _ (T36.setTop (mkF m 306 #[.val (.int q0), .val (.long q1), .second, .val (.long q2), .second, .val (.long q3), .second, .val (.long q4), .second, .val (.long q5), .second, .val (.int k), .val (.ref u), .val (.ref ea), .val (.int (Int32.ofNat (tk (sel q1 q2 q3 q4) K).length)), .val (.ref so), .val (.ref r), .val (.int (1 : Int32)), .unset] []))
                          refine GoOn.step (fun t₀ k₀ => XS.iload X36.here hx rfl (hb hby at_306) rfl k₀) ?_
                          show GoOn p e below _ (T36.setTop (mkF m 308 #[.val (.int q0), .val (.long q1), .second, .val (.long q2), .second, .val (.long q3), .second, .val (.long q4), .second, .val (.long q5), .second, .val (.int k), .val (.ref u), .val (.ref ea), .val (.int (Int32.ofNat (tk (sel q1 q2 q3 q4) K).length)), .val (.ref so), .val (.ref r), .val (.int (1 : Int32)), .unset] [(.int k)]))
                          refine GoOn.step (fun t₀ k₀ => XS.iconst X36.here hx rfl (hb hby at_308) k₀) ?_
                          show GoOn p e below _ (T36.setTop (mkF m 309 #[.val (.int q0), .val (.long q1), .second, .val (.long q2), .second, .val (.long q3), .second, .val (.long q4), .second, .val (.long q5), .second, .val (.int k), .val (.ref u), .val (.ref ea), .val (.int (Int32.ofNat (tk (sel q1 q2 q3 q4) K).length)), .val (.ref so), .val (.ref r), .val (.int (1 : Int32)), .unset] [(.int (3 : Int32)), (.int k)]))
                          by_cases f3 : (3 : Int32) < k
                          · refine GoOn.step (fun t₀ k₀ => XS.icmpNo X36.here hx rfl (hb hby at_309) rfl (tlt f3).2.2.2 k₀) ?_
                            show GoOn p e below _ (T36.setTop (mkF m 312 #[.val (.int q0), .val (.long q1), .second, .val (.long q2), .second, .val (.long q3), .second, .val (.long q4), .second, .val (.long q5), .second, .val (.int k), .val (.ref u), .val (.ref ea), .val (.int (Int32.ofNat (tk (sel q1 q2 q3 q4) K).length)), .val (.ref so), .val (.ref r), .val (.int (1 : Int32)), .unset] []))
                            have fi := hk3.mp f3
                            refine GoOn.step (fun t₀ k₀ => XS.aload X36.here hx rfl (hb hby at_312) rfl rfl k₀) ?_
                            show GoOn p e below _ (T36.setTop (mkF m 314 #[.val (.int q0), .val (.long q1), .second, .val (.long q2), .second, .val (.long q3), .second, .val (.long q4), .second, .val (.long q5), .second, .val (.int k), .val (.ref u), .val (.ref ea), .val (.int (Int32.ofNat (tk (sel q1 q2 q3 q4) K).length)), .val (.ref so), .val (.ref r), .val (.int (1 : Int32)), .unset] [(.ref u)]))
                            refine GoOn.step (fun t₀ k₀ => XS.iconst X36.here hx rfl (hb hby at_314) k₀) ?_
                            show GoOn p e below _ (T36.setTop (mkF m 315 #[.val (.int q0), .val (.long q1), .second, .val (.long q2), .second, .val (.long q3), .second, .val (.long q4), .second, .val (.long q5), .second, .val (.int k), .val (.ref u), .val (.ref ea), .val (.int (Int32.ofNat (tk (sel q1 q2 q3 q4) K).length)), .val (.ref so), .val (.ref r), .val (.int (1 : Int32)), .unset] [(.int (3 : Int32)), (.ref u)]))
                            refine GoOn.step (fun t₀ k₀ => kLdJ X36 hx hZ rfl J_u (j := (3 : Int32)) (v := (.long q4)) ⟨by decide, by have : (3 : Int32).toInt = 3 := (by decide); omega⟩ rfl (g := (mkF m 315 #[.val (.int q0), .val (.long q1), .second, .val (.long q2), .second, .val (.long q3), .second, .val (.long q4), .second, .val (.long q5), .second, .val (.int k), .val (.ref u), .val (.ref ea), .val (.int (Int32.ofNat (tk (sel q1 q2 q3 q4) K).length)), .val (.ref so), .val (.ref r), .val (.int (1 : Int32)), .unset] [(.int (3 : Int32)), (.ref u)])) rfl rfl (hb hby at_315) t₀ k₀) ?_
                            show GoOn p e below _ (T36.setTop (mkF m 316 #[.val (.int q0), .val (.long q1), .second, .val (.long q2), .second, .val (.long q3), .second, .val (.long q4), .second, .val (.long q5), .second, .val (.int k), .val (.ref u), .val (.ref ea), .val (.int (Int32.ofNat (tk (sel q1 q2 q3 q4) K).length)), .val (.ref so), .val (.ref r), .val (.int (1 : Int32)), .unset] [(.long q4)]))
                            refine GoOn.step (fun t₀ k₀ => XS.lload X36.here hx rfl (hb hby at_316) rfl k₀) ?_
                            show GoOn p e below _ (T36.setTop (mkF m 318 #[.val (.int q0), .val (.long q1), .second, .val (.long q2), .second, .val (.long q3), .second, .val (.long q4), .second, .val (.long q5), .second, .val (.int k), .val (.ref u), .val (.ref ea), .val (.int (Int32.ofNat (tk (sel q1 q2 q3 q4) K).length)), .val (.ref so), .val (.ref r), .val (.int (1 : Int32)), .unset] [(.long q4), (.long q4)]))
                            refine GoOn.step (fun t₀ k₀ => XS.lcmp X36.here hx rfl (hb hby at_318) rfl k₀) ?_
                            show GoOn p e below _ (T36.setTop (mkF m 319 #[.val (.int q0), .val (.long q1), .second, .val (.long q2), .second, .val (.long q3), .second, .val (.long q4), .second, .val (.long q5), .second, .val (.int k), .val (.ref u), .val (.ref ea), .val (.int (Int32.ofNat (tk (sel q1 q2 q3 q4) K).length)), .val (.ref so), .val (.ref r), .val (.int (1 : Int32)), .unset] [(.int (lcmpW q4 q4))]))
                            have hf57 : q4 = q4 := rfl
                            refine GoOn.step (fun t₀ k₀ => XS.ifNo X36.here hx rfl (hb hby at_319) rfl ((if0 _ _).trans (teq ((lw_eq _ _).mpr hf57)).2) k₀) ?_
                            show GoOn p e below _ (T36.setTop (mkF m 322 #[.val (.int q0), .val (.long q1), .second, .val (.long q2), .second, .val (.long q3), .second, .val (.long q4), .second, .val (.long q5), .second, .val (.int k), .val (.ref u), .val (.ref ea), .val (.int (Int32.ofNat (tk (sel q1 q2 q3 q4) K).length)), .val (.ref so), .val (.ref r), .val (.int (1 : Int32)), .unset] []))
                            exact Jkept trivial
                          · refine GoOn.step (fun t₀ k₀ => XS.icmpYes X36.here hx rfl (pc0 := 309) (pc' := 322) rfl (hb hby at_309) rfl (flt f3).2.2.2 (by decide) (by decide) k₀) ?_
                            show GoOn p e below _ (T36.setTop (mkF m 322 #[.val (.int q0), .val (.long q1), .second, .val (.long q2), .second, .val (.long q3), .second, .val (.long q4), .second, .val (.long q5), .second, .val (.int k), .val (.ref u), .val (.ref ea), .val (.int (Int32.ofNat (tk (sel q1 q2 q3 q4) K).length)), .val (.ref so), .val (.ref r), .val (.int (1 : Int32)), .unset] []))
                            exact Jkept trivial
                        · refine GoOn.step (fun t₀ k₀ => XS.icmpYes X36.here hx rfl (pc0 := 293) (pc' := 306) rfl (hb hby at_293) rfl (flt f2).2.2.2 (by decide) (by decide) k₀) ?_
                          show GoOn p e below _ (T36.setTop (mkF m 306 #[.val (.int q0), .val (.long q1), .second, .val (.long q2), .second, .val (.long q3), .second, .val (.long q4), .second, .val (.long q5), .second, .val (.int k), .val (.ref u), .val (.ref ea), .val (.int (Int32.ofNat (tk (sel q1 q2 q3 q4) K).length)), .val (.ref so), .val (.ref r), .val (.int (1 : Int32)), .unset] []))
                          refine GoOn.step (fun t₀ k₀ => XS.iload X36.here hx rfl (hb hby at_306) rfl k₀) ?_
                          show GoOn p e below _ (T36.setTop (mkF m 308 #[.val (.int q0), .val (.long q1), .second, .val (.long q2), .second, .val (.long q3), .second, .val (.long q4), .second, .val (.long q5), .second, .val (.int k), .val (.ref u), .val (.ref ea), .val (.int (Int32.ofNat (tk (sel q1 q2 q3 q4) K).length)), .val (.ref so), .val (.ref r), .val (.int (1 : Int32)), .unset] [(.int k)]))
                          refine GoOn.step (fun t₀ k₀ => XS.iconst X36.here hx rfl (hb hby at_308) k₀) ?_
                          show GoOn p e below _ (T36.setTop (mkF m 309 #[.val (.int q0), .val (.long q1), .second, .val (.long q2), .second, .val (.long q3), .second, .val (.long q4), .second, .val (.long q5), .second, .val (.int k), .val (.ref u), .val (.ref ea), .val (.int (Int32.ofNat (tk (sel q1 q2 q3 q4) K).length)), .val (.ref so), .val (.ref r), .val (.int (1 : Int32)), .unset] [(.int (3 : Int32)), (.int k)]))
                          have hf55 : ¬ ((3 : Int32) < k) := (fun h => f2 (hk2.mpr (by have := hk3.mp h; omega)))
                          refine GoOn.step (fun t₀ k₀ => XS.icmpYes X36.here hx rfl (pc0 := 309) (pc' := 322) rfl (hb hby at_309) rfl (flt hf55).2.2.2 (by decide) (by decide) k₀) ?_
                          show GoOn p e below _ (T36.setTop (mkF m 322 #[.val (.int q0), .val (.long q1), .second, .val (.long q2), .second, .val (.long q3), .second, .val (.long q4), .second, .val (.long q5), .second, .val (.int k), .val (.ref u), .val (.ref ea), .val (.int (Int32.ofNat (tk (sel q1 q2 q3 q4) K).length)), .val (.ref so), .val (.ref r), .val (.int (1 : Int32)), .unset] []))
                          exact Jkept trivial
                      · refine GoOn.step (fun t₀ k₀ => XS.icmpYes X36.here hx rfl (pc0 := 278) (pc' := 290) rfl (hb hby at_278) rfl (flt f1).2.2.2 (by decide) (by decide) k₀) ?_
                        show GoOn p e below _ (T36.setTop (mkF m 290 #[.val (.int q0), .val (.long q1), .second, .val (.long q2), .second, .val (.long q3), .second, .val (.long q4), .second, .val (.long q5), .second, .val (.int k), .val (.ref u), .val (.ref ea), .val (.int (Int32.ofNat (tk (sel q1 q2 q3 q4) K).length)), .val (.ref so), .val (.ref r), .val (.int (1 : Int32)), .unset] []))
                        refine GoOn.step (fun t₀ k₀ => XS.iload X36.here hx rfl (hb hby at_290) rfl k₀) ?_
                        show GoOn p e below _ (T36.setTop (mkF m 292 #[.val (.int q0), .val (.long q1), .second, .val (.long q2), .second, .val (.long q3), .second, .val (.long q4), .second, .val (.long q5), .second, .val (.int k), .val (.ref u), .val (.ref ea), .val (.int (Int32.ofNat (tk (sel q1 q2 q3 q4) K).length)), .val (.ref so), .val (.ref r), .val (.int (1 : Int32)), .unset] [(.int k)]))
                        refine GoOn.step (fun t₀ k₀ => XS.iconst X36.here hx rfl (hb hby at_292) k₀) ?_
                        show GoOn p e below _ (T36.setTop (mkF m 293 #[.val (.int q0), .val (.long q1), .second, .val (.long q2), .second, .val (.long q3), .second, .val (.long q4), .second, .val (.long q5), .second, .val (.int k), .val (.ref u), .val (.ref ea), .val (.int (Int32.ofNat (tk (sel q1 q2 q3 q4) K).length)), .val (.ref so), .val (.ref r), .val (.int (1 : Int32)), .unset] [(.int (2 : Int32)), (.int k)]))
                        have hf52 : ¬ ((2 : Int32) < k) := (fun h => f1 (hk1.mpr (by have := hk2.mp h; omega)))
                        refine GoOn.step (fun t₀ k₀ => XS.icmpYes X36.here hx rfl (pc0 := 293) (pc' := 306) rfl (hb hby at_293) rfl (flt hf52).2.2.2 (by decide) (by decide) k₀) ?_
                        show GoOn p e below _ (T36.setTop (mkF m 306 #[.val (.int q0), .val (.long q1), .second, .val (.long q2), .second, .val (.long q3), .second, .val (.long q4), .second, .val (.long q5), .second, .val (.int k), .val (.ref u), .val (.ref ea), .val (.int (Int32.ofNat (tk (sel q1 q2 q3 q4) K).length)), .val (.ref so), .val (.ref r), .val (.int (1 : Int32)), .unset] []))
                        refine GoOn.step (fun t₀ k₀ => XS.iload X36.here hx rfl (hb hby at_306) rfl k₀) ?_
                        show GoOn p e below _ (T36.setTop (mkF m 308 #[.val (.int q0), .val (.long q1), .second, .val (.long q2), .second, .val (.long q3), .second, .val (.long q4), .second, .val (.long q5), .second, .val (.int k), .val (.ref u), .val (.ref ea), .val (.int (Int32.ofNat (tk (sel q1 q2 q3 q4) K).length)), .val (.ref so), .val (.ref r), .val (.int (1 : Int32)), .unset] [(.int k)]))
                        refine GoOn.step (fun t₀ k₀ => XS.iconst X36.here hx rfl (hb hby at_308) k₀) ?_
                        show GoOn p e below _ (T36.setTop (mkF m 309 #[.val (.int q0), .val (.long q1), .second, .val (.long q2), .second, .val (.long q3), .second, .val (.long q4), .second, .val (.long q5), .second, .val (.int k), .val (.ref u), .val (.ref ea), .val (.int (Int32.ofNat (tk (sel q1 q2 q3 q4) K).length)), .val (.ref so), .val (.ref r), .val (.int (1 : Int32)), .unset] [(.int (3 : Int32)), (.int k)]))
                        have hf53 : ¬ ((3 : Int32) < k) := (fun h => f1 (hk1.mpr (by have := hk3.mp h; omega)))
                        refine GoOn.step (fun t₀ k₀ => XS.icmpYes X36.here hx rfl (pc0 := 309) (pc' := 322) rfl (hb hby at_309) rfl (flt hf53).2.2.2 (by decide) (by decide) k₀) ?_
                        show GoOn p e below _ (T36.setTop (mkF m 322 #[.val (.int q0), .val (.long q1), .second, .val (.long q2), .second, .val (.long q3), .second, .val (.long q4), .second, .val (.long q5), .second, .val (.int k), .val (.ref u), .val (.ref ea), .val (.int (Int32.ofNat (tk (sel q1 q2 q3 q4) K).length)), .val (.ref so), .val (.ref r), .val (.int (1 : Int32)), .unset] []))
                        exact Jkept trivial
                    · refine GoOn.step (fun t₀ k₀ => XS.ifYes X36.here hx rfl (pc0 := 263) (pc' := 275) rfl (hb hby at_263) rfl ((if0 _ _).trans (flt f0).2.2.2) (by decide) (by decide) k₀) ?_
                      show GoOn p e below _ (T36.setTop (mkF m 275 #[.val (.int q0), .val (.long q1), .second, .val (.long q2), .second, .val (.long q3), .second, .val (.long q4), .second, .val (.long q5), .second, .val (.int k), .val (.ref u), .val (.ref ea), .val (.int (Int32.ofNat (tk (sel q1 q2 q3 q4) K).length)), .val (.ref so), .val (.ref r), .val (.int (1 : Int32)), .unset] []))
                      refine GoOn.step (fun t₀ k₀ => XS.iload X36.here hx rfl (hb hby at_275) rfl k₀) ?_
                      show GoOn p e below _ (T36.setTop (mkF m 277 #[.val (.int q0), .val (.long q1), .second, .val (.long q2), .second, .val (.long q3), .second, .val (.long q4), .second, .val (.long q5), .second, .val (.int k), .val (.ref u), .val (.ref ea), .val (.int (Int32.ofNat (tk (sel q1 q2 q3 q4) K).length)), .val (.ref so), .val (.ref r), .val (.int (1 : Int32)), .unset] [(.int k)]))
                      refine GoOn.step (fun t₀ k₀ => XS.iconst X36.here hx rfl (hb hby at_277) k₀) ?_
                      show GoOn p e below _ (T36.setTop (mkF m 278 #[.val (.int q0), .val (.long q1), .second, .val (.long q2), .second, .val (.long q3), .second, .val (.long q4), .second, .val (.long q5), .second, .val (.int k), .val (.ref u), .val (.ref ea), .val (.int (Int32.ofNat (tk (sel q1 q2 q3 q4) K).length)), .val (.ref so), .val (.ref r), .val (.int (1 : Int32)), .unset] [(.int (1 : Int32)), (.int k)]))
                      have hf48 : ¬ ((1 : Int32) < k) := (fun h => f0 (hk0.mpr (by have := hk1.mp h; omega)))
                      refine GoOn.step (fun t₀ k₀ => XS.icmpYes X36.here hx rfl (pc0 := 278) (pc' := 290) rfl (hb hby at_278) rfl (flt hf48).2.2.2 (by decide) (by decide) k₀) ?_
                      show GoOn p e below _ (T36.setTop (mkF m 290 #[.val (.int q0), .val (.long q1), .second, .val (.long q2), .second, .val (.long q3), .second, .val (.long q4), .second, .val (.long q5), .second, .val (.int k), .val (.ref u), .val (.ref ea), .val (.int (Int32.ofNat (tk (sel q1 q2 q3 q4) K).length)), .val (.ref so), .val (.ref r), .val (.int (1 : Int32)), .unset] []))
                      refine GoOn.step (fun t₀ k₀ => XS.iload X36.here hx rfl (hb hby at_290) rfl k₀) ?_
                      show GoOn p e below _ (T36.setTop (mkF m 292 #[.val (.int q0), .val (.long q1), .second, .val (.long q2), .second, .val (.long q3), .second, .val (.long q4), .second, .val (.long q5), .second, .val (.int k), .val (.ref u), .val (.ref ea), .val (.int (Int32.ofNat (tk (sel q1 q2 q3 q4) K).length)), .val (.ref so), .val (.ref r), .val (.int (1 : Int32)), .unset] [(.int k)]))
                      refine GoOn.step (fun t₀ k₀ => XS.iconst X36.here hx rfl (hb hby at_292) k₀) ?_
                      show GoOn p e below _ (T36.setTop (mkF m 293 #[.val (.int q0), .val (.long q1), .second, .val (.long q2), .second, .val (.long q3), .second, .val (.long q4), .second, .val (.long q5), .second, .val (.int k), .val (.ref u), .val (.ref ea), .val (.int (Int32.ofNat (tk (sel q1 q2 q3 q4) K).length)), .val (.ref so), .val (.ref r), .val (.int (1 : Int32)), .unset] [(.int (2 : Int32)), (.int k)]))
                      have hf49 : ¬ ((2 : Int32) < k) := (fun h => f0 (hk0.mpr (by have := hk2.mp h; omega)))
                      refine GoOn.step (fun t₀ k₀ => XS.icmpYes X36.here hx rfl (pc0 := 293) (pc' := 306) rfl (hb hby at_293) rfl (flt hf49).2.2.2 (by decide) (by decide) k₀) ?_
                      show GoOn p e below _ (T36.setTop (mkF m 306 #[.val (.int q0), .val (.long q1), .second, .val (.long q2), .second, .val (.long q3), .second, .val (.long q4), .second, .val (.long q5), .second, .val (.int k), .val (.ref u), .val (.ref ea), .val (.int (Int32.ofNat (tk (sel q1 q2 q3 q4) K).length)), .val (.ref so), .val (.ref r), .val (.int (1 : Int32)), .unset] []))
                      refine GoOn.step (fun t₀ k₀ => XS.iload X36.here hx rfl (hb hby at_306) rfl k₀) ?_
                      show GoOn p e below _ (T36.setTop (mkF m 308 #[.val (.int q0), .val (.long q1), .second, .val (.long q2), .second, .val (.long q3), .second, .val (.long q4), .second, .val (.long q5), .second, .val (.int k), .val (.ref u), .val (.ref ea), .val (.int (Int32.ofNat (tk (sel q1 q2 q3 q4) K).length)), .val (.ref so), .val (.ref r), .val (.int (1 : Int32)), .unset] [(.int k)]))
                      refine GoOn.step (fun t₀ k₀ => XS.iconst X36.here hx rfl (hb hby at_308) k₀) ?_
                      show GoOn p e below _ (T36.setTop (mkF m 309 #[.val (.int q0), .val (.long q1), .second, .val (.long q2), .second, .val (.long q3), .second, .val (.long q4), .second, .val (.long q5), .second, .val (.int k), .val (.ref u), .val (.ref ea), .val (.int (Int32.ofNat (tk (sel q1 q2 q3 q4) K).length)), .val (.ref so), .val (.ref r), .val (.int (1 : Int32)), .unset] [(.int (3 : Int32)), (.int k)]))
                      have hf50 : ¬ ((3 : Int32) < k) := (fun h => f0 (hk0.mpr (by have := hk3.mp h; omega)))
                      refine GoOn.step (fun t₀ k₀ => XS.icmpYes X36.here hx rfl (pc0 := 309) (pc' := 322) rfl (hb hby at_309) rfl (flt hf50).2.2.2 (by decide) (by decide) k₀) ?_
                      show GoOn p e below _ (T36.setTop (mkF m 322 #[.val (.int q0), .val (.long q1), .second, .val (.long q2), .second, .val (.long q3), .second, .val (.long q4), .second, .val (.long q5), .second, .val (.int k), .val (.ref u), .val (.ref ea), .val (.int (Int32.ofNat (tk (sel q1 q2 q3 q4) K).length)), .val (.ref so), .val (.ref r), .val (.int (1 : Int32)), .unset] []))
                      exact Jkept trivial
                  by_cases d0 : (0 : Int32) < (Int32.ofNat (tk (sel q1 q2 q3 q4) K).length)
                  · refine GoOn.step (fun t₀ k₀ => XS.ifNo X36.here hx rfl (hb hby at_189) rfl ((if0 _ _).trans (tlt d0).2.2.2) k₀) ?_
                    show GoOn p e below _ (T36.setTop (mkF m 192 #[.val (.int q0), .val (.long q1), .second, .val (.long q2), .second, .val (.long q3), .second, .val (.long q4), .second, .val (.long q5), .second, .val (.int k), .val (.ref u), .val (.ref ea), .val (.int (Int32.ofNat (tk (sel q1 q2 q3 q4) K).length)), .val (.ref so), .val (.ref r), .unset, .unset] []))
                    have di := hm0.mp d0
                    refine GoOn.step (fun t₀ k₀ => XS.aload X36.here hx rfl (hb hby at_192) rfl rfl k₀) ?_
                    show GoOn p e below _ (T36.setTop (mkF m 194 #[.val (.int q0), .val (.long q1), .second, .val (.long q2), .second, .val (.long q3), .second, .val (.long q4), .second, .val (.long q5), .second, .val (.int k), .val (.ref u), .val (.ref ea), .val (.int (Int32.ofNat (tk (sel q1 q2 q3 q4) K).length)), .val (.ref so), .val (.ref r), .unset, .unset] [(.ref r)]))
                    refine GoOn.step (fun t₀ k₀ => XS.iconst X36.here hx rfl (hb hby at_194) k₀) ?_
                    show GoOn p e below _ (T36.setTop (mkF m 195 #[.val (.int q0), .val (.long q1), .second, .val (.long q2), .second, .val (.long q3), .second, .val (.long q4), .second, .val (.long q5), .second, .val (.int k), .val (.ref u), .val (.ref ea), .val (.int (Int32.ofNat (tk (sel q1 q2 q3 q4) K).length)), .val (.ref so), .val (.ref r), .unset, .unset] [(.int (0 : Int32)), (.ref r)]))
                    refine GoOn.step (fun t₀ k₀ => kLdI X36 hx hZ rfl Jr (j := (0 : Int32)) (v := (.int (Int32.ofNat ((tk (sel q1 q2 q3 q4) K).getD 0 0)))) ⟨by decide, by have : (0 : Int32).toInt = 0 := (by decide); omega⟩ (hr 0 di) (g := (mkF m 195 #[.val (.int q0), .val (.long q1), .second, .val (.long q2), .second, .val (.long q3), .second, .val (.long q4), .second, .val (.long q5), .second, .val (.int k), .val (.ref u), .val (.ref ea), .val (.int (Int32.ofNat (tk (sel q1 q2 q3 q4) K).length)), .val (.ref so), .val (.ref r), .unset, .unset] [(.int (0 : Int32)), (.ref r)])) rfl rfl (hb hby at_195) t₀ k₀) ?_
                    show GoOn p e below _ (T36.setTop (mkF m 196 #[.val (.int q0), .val (.long q1), .second, .val (.long q2), .second, .val (.long q3), .second, .val (.long q4), .second, .val (.long q5), .second, .val (.int k), .val (.ref u), .val (.ref ea), .val (.int (Int32.ofNat (tk (sel q1 q2 q3 q4) K).length)), .val (.ref so), .val (.ref r), .unset, .unset] [(.int (Int32.ofNat ((tk (sel q1 q2 q3 q4) K).getD 0 0)))]))
                    refine GoOn.step (fun t₀ k₀ => XS.aload X36.here hx rfl (hb hby at_196) rfl rfl k₀) ?_
                    show GoOn p e below _ (T36.setTop (mkF m 198 #[.val (.int q0), .val (.long q1), .second, .val (.long q2), .second, .val (.long q3), .second, .val (.long q4), .second, .val (.long q5), .second, .val (.int k), .val (.ref u), .val (.ref ea), .val (.int (Int32.ofNat (tk (sel q1 q2 q3 q4) K).length)), .val (.ref so), .val (.ref r), .unset, .unset] [(.ref ea), (.int (Int32.ofNat ((tk (sel q1 q2 q3 q4) K).getD 0 0)))]))
                    refine GoOn.step (fun t₀ k₀ => XS.iconst X36.here hx rfl (hb hby at_198) k₀) ?_
                    show GoOn p e below _ (T36.setTop (mkF m 199 #[.val (.int q0), .val (.long q1), .second, .val (.long q2), .second, .val (.long q3), .second, .val (.long q4), .second, .val (.long q5), .second, .val (.int k), .val (.ref u), .val (.ref ea), .val (.int (Int32.ofNat (tk (sel q1 q2 q3 q4) K).length)), .val (.ref so), .val (.ref r), .unset, .unset] [(.int (0 : Int32)), (.ref ea), (.int (Int32.ofNat ((tk (sel q1 q2 q3 q4) K).getD 0 0)))]))
                    refine GoOn.step (fun t₀ k₀ => kLdI X36 hx hZ rfl J_ea (j := (0 : Int32)) (v := (.int (Int32.ofNat ((tk (sel q1 q2 q3 q4) K).getD 0 0)))) ⟨by decide, by decide⟩ (ht 0 di) (g := (mkF m 199 #[.val (.int q0), .val (.long q1), .second, .val (.long q2), .second, .val (.long q3), .second, .val (.long q4), .second, .val (.long q5), .second, .val (.int k), .val (.ref u), .val (.ref ea), .val (.int (Int32.ofNat (tk (sel q1 q2 q3 q4) K).length)), .val (.ref so), .val (.ref r), .unset, .unset] [(.int (0 : Int32)), (.ref ea), (.int (Int32.ofNat ((tk (sel q1 q2 q3 q4) K).getD 0 0)))])) rfl rfl (hb hby at_199) t₀ k₀) ?_
                    show GoOn p e below _ (T36.setTop (mkF m 200 #[.val (.int q0), .val (.long q1), .second, .val (.long q2), .second, .val (.long q3), .second, .val (.long q4), .second, .val (.long q5), .second, .val (.int k), .val (.ref u), .val (.ref ea), .val (.int (Int32.ofNat (tk (sel q1 q2 q3 q4) K).length)), .val (.ref so), .val (.ref r), .unset, .unset] [(.int (Int32.ofNat ((tk (sel q1 q2 q3 q4) K).getD 0 0))), (.int (Int32.ofNat ((tk (sel q1 q2 q3 q4) K).getD 0 0)))]))
                    have hf41 : (Int32.ofNat ((tk (sel q1 q2 q3 q4) K).getD 0 0)) = (Int32.ofNat ((tk (sel q1 q2 q3 q4) K).getD 0 0)) := rfl
                    refine GoOn.step (fun t₀ k₀ => XS.icmpNo X36.here hx rfl (hb hby at_200) rfl (teq hf41).2 k₀) ?_
                    show GoOn p e below _ (T36.setTop (mkF m 203 #[.val (.int q0), .val (.long q1), .second, .val (.long q2), .second, .val (.long q3), .second, .val (.long q4), .second, .val (.long q5), .second, .val (.int k), .val (.ref u), .val (.ref ea), .val (.int (Int32.ofNat (tk (sel q1 q2 q3 q4) K).length)), .val (.ref so), .val (.ref r), .unset, .unset] []))
                    refine GoOn.step (fun t₀ k₀ => XS.iload X36.here hx rfl (hb hby at_203) rfl k₀) ?_
                    show GoOn p e below _ (T36.setTop (mkF m 205 #[.val (.int q0), .val (.long q1), .second, .val (.long q2), .second, .val (.long q3), .second, .val (.long q4), .second, .val (.long q5), .second, .val (.int k), .val (.ref u), .val (.ref ea), .val (.int (Int32.ofNat (tk (sel q1 q2 q3 q4) K).length)), .val (.ref so), .val (.ref r), .unset, .unset] [(.int (Int32.ofNat (tk (sel q1 q2 q3 q4) K).length))]))
                    refine GoOn.step (fun t₀ k₀ => XS.iconst X36.here hx rfl (hb hby at_205) k₀) ?_
                    show GoOn p e below _ (T36.setTop (mkF m 206 #[.val (.int q0), .val (.long q1), .second, .val (.long q2), .second, .val (.long q3), .second, .val (.long q4), .second, .val (.long q5), .second, .val (.int k), .val (.ref u), .val (.ref ea), .val (.int (Int32.ofNat (tk (sel q1 q2 q3 q4) K).length)), .val (.ref so), .val (.ref r), .unset, .unset] [(.int (1 : Int32)), (.int (Int32.ofNat (tk (sel q1 q2 q3 q4) K).length))]))
                    by_cases d1 : (1 : Int32) < (Int32.ofNat (tk (sel q1 q2 q3 q4) K).length)
                    · refine GoOn.step (fun t₀ k₀ => XS.icmpNo X36.here hx rfl (hb hby at_206) rfl (tlt d1).2.2.2 k₀) ?_
                      show GoOn p e below _ (T36.setTop (mkF m 209 #[.val (.int q0), .val (.long q1), .second, .val (.long q2), .second, .val (.long q3), .second, .val (.long q4), .second, .val (.long q5), .second, .val (.int k), .val (.ref u), .val (.ref ea), .val (.int (Int32.ofNat (tk (sel q1 q2 q3 q4) K).length)), .val (.ref so), .val (.ref r), .unset, .unset] []))
                      have di := hm1.mp d1
                      refine GoOn.step (fun t₀ k₀ => XS.aload X36.here hx rfl (hb hby at_209) rfl rfl k₀) ?_
                      show GoOn p e below _ (T36.setTop (mkF m 211 #[.val (.int q0), .val (.long q1), .second, .val (.long q2), .second, .val (.long q3), .second, .val (.long q4), .second, .val (.long q5), .second, .val (.int k), .val (.ref u), .val (.ref ea), .val (.int (Int32.ofNat (tk (sel q1 q2 q3 q4) K).length)), .val (.ref so), .val (.ref r), .unset, .unset] [(.ref r)]))
                      refine GoOn.step (fun t₀ k₀ => XS.iconst X36.here hx rfl (hb hby at_211) k₀) ?_
                      show GoOn p e below _ (T36.setTop (mkF m 212 #[.val (.int q0), .val (.long q1), .second, .val (.long q2), .second, .val (.long q3), .second, .val (.long q4), .second, .val (.long q5), .second, .val (.int k), .val (.ref u), .val (.ref ea), .val (.int (Int32.ofNat (tk (sel q1 q2 q3 q4) K).length)), .val (.ref so), .val (.ref r), .unset, .unset] [(.int (1 : Int32)), (.ref r)]))
                      refine GoOn.step (fun t₀ k₀ => kLdI X36 hx hZ rfl Jr (j := (1 : Int32)) (v := (.int (Int32.ofNat ((tk (sel q1 q2 q3 q4) K).getD 1 0)))) ⟨by decide, by have : (1 : Int32).toInt = 1 := (by decide); omega⟩ (hr 1 di) (g := (mkF m 212 #[.val (.int q0), .val (.long q1), .second, .val (.long q2), .second, .val (.long q3), .second, .val (.long q4), .second, .val (.long q5), .second, .val (.int k), .val (.ref u), .val (.ref ea), .val (.int (Int32.ofNat (tk (sel q1 q2 q3 q4) K).length)), .val (.ref so), .val (.ref r), .unset, .unset] [(.int (1 : Int32)), (.ref r)])) rfl rfl (hb hby at_212) t₀ k₀) ?_
                      show GoOn p e below _ (T36.setTop (mkF m 213 #[.val (.int q0), .val (.long q1), .second, .val (.long q2), .second, .val (.long q3), .second, .val (.long q4), .second, .val (.long q5), .second, .val (.int k), .val (.ref u), .val (.ref ea), .val (.int (Int32.ofNat (tk (sel q1 q2 q3 q4) K).length)), .val (.ref so), .val (.ref r), .unset, .unset] [(.int (Int32.ofNat ((tk (sel q1 q2 q3 q4) K).getD 1 0)))]))
                      refine GoOn.step (fun t₀ k₀ => XS.aload X36.here hx rfl (hb hby at_213) rfl rfl k₀) ?_
                      show GoOn p e below _ (T36.setTop (mkF m 215 #[.val (.int q0), .val (.long q1), .second, .val (.long q2), .second, .val (.long q3), .second, .val (.long q4), .second, .val (.long q5), .second, .val (.int k), .val (.ref u), .val (.ref ea), .val (.int (Int32.ofNat (tk (sel q1 q2 q3 q4) K).length)), .val (.ref so), .val (.ref r), .unset, .unset] [(.ref ea), (.int (Int32.ofNat ((tk (sel q1 q2 q3 q4) K).getD 1 0)))]))
                      refine GoOn.step (fun t₀ k₀ => XS.iconst X36.here hx rfl (hb hby at_215) k₀) ?_
                      show GoOn p e below _ (T36.setTop (mkF m 216 #[.val (.int q0), .val (.long q1), .second, .val (.long q2), .second, .val (.long q3), .second, .val (.long q4), .second, .val (.long q5), .second, .val (.int k), .val (.ref u), .val (.ref ea), .val (.int (Int32.ofNat (tk (sel q1 q2 q3 q4) K).length)), .val (.ref so), .val (.ref r), .unset, .unset] [(.int (1 : Int32)), (.ref ea), (.int (Int32.ofNat ((tk (sel q1 q2 q3 q4) K).getD 1 0)))]))
                      refine GoOn.step (fun t₀ k₀ => kLdI X36 hx hZ rfl J_ea (j := (1 : Int32)) (v := (.int (Int32.ofNat ((tk (sel q1 q2 q3 q4) K).getD 1 0)))) ⟨by decide, by decide⟩ (ht 1 di) (g := (mkF m 216 #[.val (.int q0), .val (.long q1), .second, .val (.long q2), .second, .val (.long q3), .second, .val (.long q4), .second, .val (.long q5), .second, .val (.int k), .val (.ref u), .val (.ref ea), .val (.int (Int32.ofNat (tk (sel q1 q2 q3 q4) K).length)), .val (.ref so), .val (.ref r), .unset, .unset] [(.int (1 : Int32)), (.ref ea), (.int (Int32.ofNat ((tk (sel q1 q2 q3 q4) K).getD 1 0)))])) rfl rfl (hb hby at_216) t₀ k₀) ?_
                      show GoOn p e below _ (T36.setTop (mkF m 217 #[.val (.int q0), .val (.long q1), .second, .val (.long q2), .second, .val (.long q3), .second, .val (.long q4), .second, .val (.long q5), .second, .val (.int k), .val (.ref u), .val (.ref ea), .val (.int (Int32.ofNat (tk (sel q1 q2 q3 q4) K).length)), .val (.ref so), .val (.ref r), .unset, .unset] [(.int (Int32.ofNat ((tk (sel q1 q2 q3 q4) K).getD 1 0))), (.int (Int32.ofNat ((tk (sel q1 q2 q3 q4) K).getD 1 0)))]))
                      have hf44 : (Int32.ofNat ((tk (sel q1 q2 q3 q4) K).getD 1 0)) = (Int32.ofNat ((tk (sel q1 q2 q3 q4) K).getD 1 0)) := rfl
                      refine GoOn.step (fun t₀ k₀ => XS.icmpNo X36.here hx rfl (hb hby at_217) rfl (teq hf44).2 k₀) ?_
                      show GoOn p e below _ (T36.setTop (mkF m 220 #[.val (.int q0), .val (.long q1), .second, .val (.long q2), .second, .val (.long q3), .second, .val (.long q4), .second, .val (.long q5), .second, .val (.int k), .val (.ref u), .val (.ref ea), .val (.int (Int32.ofNat (tk (sel q1 q2 q3 q4) K).length)), .val (.ref so), .val (.ref r), .unset, .unset] []))
                      refine GoOn.step (fun t₀ k₀ => XS.iload X36.here hx rfl (hb hby at_220) rfl k₀) ?_
                      show GoOn p e below _ (T36.setTop (mkF m 222 #[.val (.int q0), .val (.long q1), .second, .val (.long q2), .second, .val (.long q3), .second, .val (.long q4), .second, .val (.long q5), .second, .val (.int k), .val (.ref u), .val (.ref ea), .val (.int (Int32.ofNat (tk (sel q1 q2 q3 q4) K).length)), .val (.ref so), .val (.ref r), .unset, .unset] [(.int (Int32.ofNat (tk (sel q1 q2 q3 q4) K).length))]))
                      refine GoOn.step (fun t₀ k₀ => XS.iconst X36.here hx rfl (hb hby at_222) k₀) ?_
                      show GoOn p e below _ (T36.setTop (mkF m 223 #[.val (.int q0), .val (.long q1), .second, .val (.long q2), .second, .val (.long q3), .second, .val (.long q4), .second, .val (.long q5), .second, .val (.int k), .val (.ref u), .val (.ref ea), .val (.int (Int32.ofNat (tk (sel q1 q2 q3 q4) K).length)), .val (.ref so), .val (.ref r), .unset, .unset] [(.int (2 : Int32)), (.int (Int32.ofNat (tk (sel q1 q2 q3 q4) K).length))]))
                      by_cases d2 : (2 : Int32) < (Int32.ofNat (tk (sel q1 q2 q3 q4) K).length)
                      · refine GoOn.step (fun t₀ k₀ => XS.icmpNo X36.here hx rfl (hb hby at_223) rfl (tlt d2).2.2.2 k₀) ?_
                        show GoOn p e below _ (T36.setTop (mkF m 226 #[.val (.int q0), .val (.long q1), .second, .val (.long q2), .second, .val (.long q3), .second, .val (.long q4), .second, .val (.long q5), .second, .val (.int k), .val (.ref u), .val (.ref ea), .val (.int (Int32.ofNat (tk (sel q1 q2 q3 q4) K).length)), .val (.ref so), .val (.ref r), .unset, .unset] []))
                        have di := hm2.mp d2
                        refine GoOn.step (fun t₀ k₀ => XS.aload X36.here hx rfl (hb hby at_226) rfl rfl k₀) ?_
                        show GoOn p e below _ (T36.setTop (mkF m 228 #[.val (.int q0), .val (.long q1), .second, .val (.long q2), .second, .val (.long q3), .second, .val (.long q4), .second, .val (.long q5), .second, .val (.int k), .val (.ref u), .val (.ref ea), .val (.int (Int32.ofNat (tk (sel q1 q2 q3 q4) K).length)), .val (.ref so), .val (.ref r), .unset, .unset] [(.ref r)]))
                        refine GoOn.step (fun t₀ k₀ => XS.iconst X36.here hx rfl (hb hby at_228) k₀) ?_
                        show GoOn p e below _ (T36.setTop (mkF m 229 #[.val (.int q0), .val (.long q1), .second, .val (.long q2), .second, .val (.long q3), .second, .val (.long q4), .second, .val (.long q5), .second, .val (.int k), .val (.ref u), .val (.ref ea), .val (.int (Int32.ofNat (tk (sel q1 q2 q3 q4) K).length)), .val (.ref so), .val (.ref r), .unset, .unset] [(.int (2 : Int32)), (.ref r)]))
                        refine GoOn.step (fun t₀ k₀ => kLdI X36 hx hZ rfl Jr (j := (2 : Int32)) (v := (.int (Int32.ofNat ((tk (sel q1 q2 q3 q4) K).getD 2 0)))) ⟨by decide, by have : (2 : Int32).toInt = 2 := (by decide); omega⟩ (hr 2 di) (g := (mkF m 229 #[.val (.int q0), .val (.long q1), .second, .val (.long q2), .second, .val (.long q3), .second, .val (.long q4), .second, .val (.long q5), .second, .val (.int k), .val (.ref u), .val (.ref ea), .val (.int (Int32.ofNat (tk (sel q1 q2 q3 q4) K).length)), .val (.ref so), .val (.ref r), .unset, .unset] [(.int (2 : Int32)), (.ref r)])) rfl rfl (hb hby at_229) t₀ k₀) ?_
                        show GoOn p e below _ (T36.setTop (mkF m 230 #[.val (.int q0), .val (.long q1), .second, .val (.long q2), .second, .val (.long q3), .second, .val (.long q4), .second, .val (.long q5), .second, .val (.int k), .val (.ref u), .val (.ref ea), .val (.int (Int32.ofNat (tk (sel q1 q2 q3 q4) K).length)), .val (.ref so), .val (.ref r), .unset, .unset] [(.int (Int32.ofNat ((tk (sel q1 q2 q3 q4) K).getD 2 0)))]))
                        refine GoOn.step (fun t₀ k₀ => XS.aload X36.here hx rfl (hb hby at_230) rfl rfl k₀) ?_
                        show GoOn p e below _ (T36.setTop (mkF m 232 #[.val (.int q0), .val (.long q1), .second, .val (.long q2), .second, .val (.long q3), .second, .val (.long q4), .second, .val (.long q5), .second, .val (.int k), .val (.ref u), .val (.ref ea), .val (.int (Int32.ofNat (tk (sel q1 q2 q3 q4) K).length)), .val (.ref so), .val (.ref r), .unset, .unset] [(.ref ea), (.int (Int32.ofNat ((tk (sel q1 q2 q3 q4) K).getD 2 0)))]))
                        refine GoOn.step (fun t₀ k₀ => XS.iconst X36.here hx rfl (hb hby at_232) k₀) ?_
                        show GoOn p e below _ (T36.setTop (mkF m 233 #[.val (.int q0), .val (.long q1), .second, .val (.long q2), .second, .val (.long q3), .second, .val (.long q4), .second, .val (.long q5), .second, .val (.int k), .val (.ref u), .val (.ref ea), .val (.int (Int32.ofNat (tk (sel q1 q2 q3 q4) K).length)), .val (.ref so), .val (.ref r), .unset, .unset] [(.int (2 : Int32)), (.ref ea), (.int (Int32.ofNat ((tk (sel q1 q2 q3 q4) K).getD 2 0)))]))
                        refine GoOn.step (fun t₀ k₀ => kLdI X36 hx hZ rfl J_ea (j := (2 : Int32)) (v := (.int (Int32.ofNat ((tk (sel q1 q2 q3 q4) K).getD 2 0)))) ⟨by decide, by decide⟩ (ht 2 di) (g := (mkF m 233 #[.val (.int q0), .val (.long q1), .second, .val (.long q2), .second, .val (.long q3), .second, .val (.long q4), .second, .val (.long q5), .second, .val (.int k), .val (.ref u), .val (.ref ea), .val (.int (Int32.ofNat (tk (sel q1 q2 q3 q4) K).length)), .val (.ref so), .val (.ref r), .unset, .unset] [(.int (2 : Int32)), (.ref ea), (.int (Int32.ofNat ((tk (sel q1 q2 q3 q4) K).getD 2 0)))])) rfl rfl (hb hby at_233) t₀ k₀) ?_
                        show GoOn p e below _ (T36.setTop (mkF m 234 #[.val (.int q0), .val (.long q1), .second, .val (.long q2), .second, .val (.long q3), .second, .val (.long q4), .second, .val (.long q5), .second, .val (.int k), .val (.ref u), .val (.ref ea), .val (.int (Int32.ofNat (tk (sel q1 q2 q3 q4) K).length)), .val (.ref so), .val (.ref r), .unset, .unset] [(.int (Int32.ofNat ((tk (sel q1 q2 q3 q4) K).getD 2 0))), (.int (Int32.ofNat ((tk (sel q1 q2 q3 q4) K).getD 2 0)))]))
                        have hf46 : (Int32.ofNat ((tk (sel q1 q2 q3 q4) K).getD 2 0)) = (Int32.ofNat ((tk (sel q1 q2 q3 q4) K).getD 2 0)) := rfl
                        refine GoOn.step (fun t₀ k₀ => XS.icmpNo X36.here hx rfl (hb hby at_234) rfl (teq hf46).2 k₀) ?_
                        show GoOn p e below _ (T36.setTop (mkF m 237 #[.val (.int q0), .val (.long q1), .second, .val (.long q2), .second, .val (.long q3), .second, .val (.long q4), .second, .val (.long q5), .second, .val (.int k), .val (.ref u), .val (.ref ea), .val (.int (Int32.ofNat (tk (sel q1 q2 q3 q4) K).length)), .val (.ref so), .val (.ref r), .unset, .unset] []))
                        refine GoOn.step (fun t₀ k₀ => XS.iload X36.here hx rfl (hb hby at_237) rfl k₀) ?_
                        show GoOn p e below _ (T36.setTop (mkF m 239 #[.val (.int q0), .val (.long q1), .second, .val (.long q2), .second, .val (.long q3), .second, .val (.long q4), .second, .val (.long q5), .second, .val (.int k), .val (.ref u), .val (.ref ea), .val (.int (Int32.ofNat (tk (sel q1 q2 q3 q4) K).length)), .val (.ref so), .val (.ref r), .unset, .unset] [(.int (Int32.ofNat (tk (sel q1 q2 q3 q4) K).length))]))
                        refine GoOn.step (fun t₀ k₀ => XS.iconst X36.here hx rfl (hb hby at_239) k₀) ?_
                        show GoOn p e below _ (T36.setTop (mkF m 240 #[.val (.int q0), .val (.long q1), .second, .val (.long q2), .second, .val (.long q3), .second, .val (.long q4), .second, .val (.long q5), .second, .val (.int k), .val (.ref u), .val (.ref ea), .val (.int (Int32.ofNat (tk (sel q1 q2 q3 q4) K).length)), .val (.ref so), .val (.ref r), .unset, .unset] [(.int (3 : Int32)), (.int (Int32.ofNat (tk (sel q1 q2 q3 q4) K).length))]))
                        by_cases d3 : (3 : Int32) < (Int32.ofNat (tk (sel q1 q2 q3 q4) K).length)
                        · refine GoOn.step (fun t₀ k₀ => XS.icmpNo X36.here hx rfl (hb hby at_240) rfl (tlt d3).2.2.2 k₀) ?_
                          show GoOn p e below _ (T36.setTop (mkF m 243 #[.val (.int q0), .val (.long q1), .second, .val (.long q2), .second, .val (.long q3), .second, .val (.long q4), .second, .val (.long q5), .second, .val (.int k), .val (.ref u), .val (.ref ea), .val (.int (Int32.ofNat (tk (sel q1 q2 q3 q4) K).length)), .val (.ref so), .val (.ref r), .unset, .unset] []))
                          have di := hm3.mp d3
                          refine GoOn.step (fun t₀ k₀ => XS.aload X36.here hx rfl (hb hby at_243) rfl rfl k₀) ?_
                          show GoOn p e below _ (T36.setTop (mkF m 245 #[.val (.int q0), .val (.long q1), .second, .val (.long q2), .second, .val (.long q3), .second, .val (.long q4), .second, .val (.long q5), .second, .val (.int k), .val (.ref u), .val (.ref ea), .val (.int (Int32.ofNat (tk (sel q1 q2 q3 q4) K).length)), .val (.ref so), .val (.ref r), .unset, .unset] [(.ref r)]))
                          refine GoOn.step (fun t₀ k₀ => XS.iconst X36.here hx rfl (hb hby at_245) k₀) ?_
                          show GoOn p e below _ (T36.setTop (mkF m 246 #[.val (.int q0), .val (.long q1), .second, .val (.long q2), .second, .val (.long q3), .second, .val (.long q4), .second, .val (.long q5), .second, .val (.int k), .val (.ref u), .val (.ref ea), .val (.int (Int32.ofNat (tk (sel q1 q2 q3 q4) K).length)), .val (.ref so), .val (.ref r), .unset, .unset] [(.int (3 : Int32)), (.ref r)]))
                          refine GoOn.step (fun t₀ k₀ => kLdI X36 hx hZ rfl Jr (j := (3 : Int32)) (v := (.int (Int32.ofNat ((tk (sel q1 q2 q3 q4) K).getD 3 0)))) ⟨by decide, by have : (3 : Int32).toInt = 3 := (by decide); omega⟩ (hr 3 di) (g := (mkF m 246 #[.val (.int q0), .val (.long q1), .second, .val (.long q2), .second, .val (.long q3), .second, .val (.long q4), .second, .val (.long q5), .second, .val (.int k), .val (.ref u), .val (.ref ea), .val (.int (Int32.ofNat (tk (sel q1 q2 q3 q4) K).length)), .val (.ref so), .val (.ref r), .unset, .unset] [(.int (3 : Int32)), (.ref r)])) rfl rfl (hb hby at_246) t₀ k₀) ?_
                          show GoOn p e below _ (T36.setTop (mkF m 247 #[.val (.int q0), .val (.long q1), .second, .val (.long q2), .second, .val (.long q3), .second, .val (.long q4), .second, .val (.long q5), .second, .val (.int k), .val (.ref u), .val (.ref ea), .val (.int (Int32.ofNat (tk (sel q1 q2 q3 q4) K).length)), .val (.ref so), .val (.ref r), .unset, .unset] [(.int (Int32.ofNat ((tk (sel q1 q2 q3 q4) K).getD 3 0)))]))
                          refine GoOn.step (fun t₀ k₀ => XS.aload X36.here hx rfl (hb hby at_247) rfl rfl k₀) ?_
                          show GoOn p e below _ (T36.setTop (mkF m 249 #[.val (.int q0), .val (.long q1), .second, .val (.long q2), .second, .val (.long q3), .second, .val (.long q4), .second, .val (.long q5), .second, .val (.int k), .val (.ref u), .val (.ref ea), .val (.int (Int32.ofNat (tk (sel q1 q2 q3 q4) K).length)), .val (.ref so), .val (.ref r), .unset, .unset] [(.ref ea), (.int (Int32.ofNat ((tk (sel q1 q2 q3 q4) K).getD 3 0)))]))
                          refine GoOn.step (fun t₀ k₀ => XS.iconst X36.here hx rfl (hb hby at_249) k₀) ?_
                          show GoOn p e below _ (T36.setTop (mkF m 250 #[.val (.int q0), .val (.long q1), .second, .val (.long q2), .second, .val (.long q3), .second, .val (.long q4), .second, .val (.long q5), .second, .val (.int k), .val (.ref u), .val (.ref ea), .val (.int (Int32.ofNat (tk (sel q1 q2 q3 q4) K).length)), .val (.ref so), .val (.ref r), .unset, .unset] [(.int (3 : Int32)), (.ref ea), (.int (Int32.ofNat ((tk (sel q1 q2 q3 q4) K).getD 3 0)))]))
                          refine GoOn.step (fun t₀ k₀ => kLdI X36 hx hZ rfl J_ea (j := (3 : Int32)) (v := (.int (Int32.ofNat ((tk (sel q1 q2 q3 q4) K).getD 3 0)))) ⟨by decide, by decide⟩ (ht 3 di) (g := (mkF m 250 #[.val (.int q0), .val (.long q1), .second, .val (.long q2), .second, .val (.long q3), .second, .val (.long q4), .second, .val (.long q5), .second, .val (.int k), .val (.ref u), .val (.ref ea), .val (.int (Int32.ofNat (tk (sel q1 q2 q3 q4) K).length)), .val (.ref so), .val (.ref r), .unset, .unset] [(.int (3 : Int32)), (.ref ea), (.int (Int32.ofNat ((tk (sel q1 q2 q3 q4) K).getD 3 0)))])) rfl rfl (hb hby at_250) t₀ k₀) ?_
                          show GoOn p e below _ (T36.setTop (mkF m 251 #[.val (.int q0), .val (.long q1), .second, .val (.long q2), .second, .val (.long q3), .second, .val (.long q4), .second, .val (.long q5), .second, .val (.int k), .val (.ref u), .val (.ref ea), .val (.int (Int32.ofNat (tk (sel q1 q2 q3 q4) K).length)), .val (.ref so), .val (.ref r), .unset, .unset] [(.int (Int32.ofNat ((tk (sel q1 q2 q3 q4) K).getD 3 0))), (.int (Int32.ofNat ((tk (sel q1 q2 q3 q4) K).getD 3 0)))]))
                          have hf47 : (Int32.ofNat ((tk (sel q1 q2 q3 q4) K).getD 3 0)) = (Int32.ofNat ((tk (sel q1 q2 q3 q4) K).getD 3 0)) := rfl
                          refine GoOn.step (fun t₀ k₀ => XS.icmpNo X36.here hx rfl (hb hby at_251) rfl (teq hf47).2 k₀) ?_
                          show GoOn p e below _ (T36.setTop (mkF m 254 #[.val (.int q0), .val (.long q1), .second, .val (.long q2), .second, .val (.long q3), .second, .val (.long q4), .second, .val (.long q5), .second, .val (.int k), .val (.ref u), .val (.ref ea), .val (.int (Int32.ofNat (tk (sel q1 q2 q3 q4) K).length)), .val (.ref so), .val (.ref r), .unset, .unset] []))
                          exact Jok trivial
                        · refine GoOn.step (fun t₀ k₀ => XS.icmpYes X36.here hx rfl (pc0 := 240) (pc' := 254) rfl (hb hby at_240) rfl (flt d3).2.2.2 (by decide) (by decide) k₀) ?_
                          show GoOn p e below _ (T36.setTop (mkF m 254 #[.val (.int q0), .val (.long q1), .second, .val (.long q2), .second, .val (.long q3), .second, .val (.long q4), .second, .val (.long q5), .second, .val (.int k), .val (.ref u), .val (.ref ea), .val (.int (Int32.ofNat (tk (sel q1 q2 q3 q4) K).length)), .val (.ref so), .val (.ref r), .unset, .unset] []))
                          exact Jok trivial
                      · refine GoOn.step (fun t₀ k₀ => XS.icmpYes X36.here hx rfl (pc0 := 223) (pc' := 237) rfl (hb hby at_223) rfl (flt d2).2.2.2 (by decide) (by decide) k₀) ?_
                        show GoOn p e below _ (T36.setTop (mkF m 237 #[.val (.int q0), .val (.long q1), .second, .val (.long q2), .second, .val (.long q3), .second, .val (.long q4), .second, .val (.long q5), .second, .val (.int k), .val (.ref u), .val (.ref ea), .val (.int (Int32.ofNat (tk (sel q1 q2 q3 q4) K).length)), .val (.ref so), .val (.ref r), .unset, .unset] []))
                        refine GoOn.step (fun t₀ k₀ => XS.iload X36.here hx rfl (hb hby at_237) rfl k₀) ?_
                        show GoOn p e below _ (T36.setTop (mkF m 239 #[.val (.int q0), .val (.long q1), .second, .val (.long q2), .second, .val (.long q3), .second, .val (.long q4), .second, .val (.long q5), .second, .val (.int k), .val (.ref u), .val (.ref ea), .val (.int (Int32.ofNat (tk (sel q1 q2 q3 q4) K).length)), .val (.ref so), .val (.ref r), .unset, .unset] [(.int (Int32.ofNat (tk (sel q1 q2 q3 q4) K).length))]))
                        refine GoOn.step (fun t₀ k₀ => XS.iconst X36.here hx rfl (hb hby at_239) k₀) ?_
                        show GoOn p e below _ (T36.setTop (mkF m 240 #[.val (.int q0), .val (.long q1), .second, .val (.long q2), .second, .val (.long q3), .second, .val (.long q4), .second, .val (.long q5), .second, .val (.int k), .val (.ref u), .val (.ref ea), .val (.int (Int32.ofNat (tk (sel q1 q2 q3 q4) K).length)), .val (.ref so), .val (.ref r), .unset, .unset] [(.int (3 : Int32)), (.int (Int32.ofNat (tk (sel q1 q2 q3 q4) K).length))]))
                        have hf45 : ¬ ((3 : Int32) < (Int32.ofNat (tk (sel q1 q2 q3 q4) K).length)) := (fun h => d2 (hm2.mpr (by have := hm3.mp h; omega)))
                        refine GoOn.step (fun t₀ k₀ => XS.icmpYes X36.here hx rfl (pc0 := 240) (pc' := 254) rfl (hb hby at_240) rfl (flt hf45).2.2.2 (by decide) (by decide) k₀) ?_
                        show GoOn p e below _ (T36.setTop (mkF m 254 #[.val (.int q0), .val (.long q1), .second, .val (.long q2), .second, .val (.long q3), .second, .val (.long q4), .second, .val (.long q5), .second, .val (.int k), .val (.ref u), .val (.ref ea), .val (.int (Int32.ofNat (tk (sel q1 q2 q3 q4) K).length)), .val (.ref so), .val (.ref r), .unset, .unset] []))
                        exact Jok trivial
                    · refine GoOn.step (fun t₀ k₀ => XS.icmpYes X36.here hx rfl (pc0 := 206) (pc' := 220) rfl (hb hby at_206) rfl (flt d1).2.2.2 (by decide) (by decide) k₀) ?_
                      show GoOn p e below _ (T36.setTop (mkF m 220 #[.val (.int q0), .val (.long q1), .second, .val (.long q2), .second, .val (.long q3), .second, .val (.long q4), .second, .val (.long q5), .second, .val (.int k), .val (.ref u), .val (.ref ea), .val (.int (Int32.ofNat (tk (sel q1 q2 q3 q4) K).length)), .val (.ref so), .val (.ref r), .unset, .unset] []))
                      refine GoOn.step (fun t₀ k₀ => XS.iload X36.here hx rfl (hb hby at_220) rfl k₀) ?_
                      show GoOn p e below _ (T36.setTop (mkF m 222 #[.val (.int q0), .val (.long q1), .second, .val (.long q2), .second, .val (.long q3), .second, .val (.long q4), .second, .val (.long q5), .second, .val (.int k), .val (.ref u), .val (.ref ea), .val (.int (Int32.ofNat (tk (sel q1 q2 q3 q4) K).length)), .val (.ref so), .val (.ref r), .unset, .unset] [(.int (Int32.ofNat (tk (sel q1 q2 q3 q4) K).length))]))
                      refine GoOn.step (fun t₀ k₀ => XS.iconst X36.here hx rfl (hb hby at_222) k₀) ?_
                      show GoOn p e below _ (T36.setTop (mkF m 223 #[.val (.int q0), .val (.long q1), .second, .val (.long q2), .second, .val (.long q3), .second, .val (.long q4), .second, .val (.long q5), .second, .val (.int k), .val (.ref u), .val (.ref ea), .val (.int (Int32.ofNat (tk (sel q1 q2 q3 q4) K).length)), .val (.ref so), .val (.ref r), .unset, .unset] [(.int (2 : Int32)), (.int (Int32.ofNat (tk (sel q1 q2 q3 q4) K).length))]))
                      have hf42 : ¬ ((2 : Int32) < (Int32.ofNat (tk (sel q1 q2 q3 q4) K).length)) := (fun h => d1 (hm1.mpr (by have := hm2.mp h; omega)))
                      refine GoOn.step (fun t₀ k₀ => XS.icmpYes X36.here hx rfl (pc0 := 223) (pc' := 237) rfl (hb hby at_223) rfl (flt hf42).2.2.2 (by decide) (by decide) k₀) ?_
                      show GoOn p e below _ (T36.setTop (mkF m 237 #[.val (.int q0), .val (.long q1), .second, .val (.long q2), .second, .val (.long q3), .second, .val (.long q4), .second, .val (.long q5), .second, .val (.int k), .val (.ref u), .val (.ref ea), .val (.int (Int32.ofNat (tk (sel q1 q2 q3 q4) K).length)), .val (.ref so), .val (.ref r), .unset, .unset] []))
                      refine GoOn.step (fun t₀ k₀ => XS.iload X36.here hx rfl (hb hby at_237) rfl k₀) ?_
                      show GoOn p e below _ (T36.setTop (mkF m 239 #[.val (.int q0), .val (.long q1), .second, .val (.long q2), .second, .val (.long q3), .second, .val (.long q4), .second, .val (.long q5), .second, .val (.int k), .val (.ref u), .val (.ref ea), .val (.int (Int32.ofNat (tk (sel q1 q2 q3 q4) K).length)), .val (.ref so), .val (.ref r), .unset, .unset] [(.int (Int32.ofNat (tk (sel q1 q2 q3 q4) K).length))]))
                      refine GoOn.step (fun t₀ k₀ => XS.iconst X36.here hx rfl (hb hby at_239) k₀) ?_
                      show GoOn p e below _ (T36.setTop (mkF m 240 #[.val (.int q0), .val (.long q1), .second, .val (.long q2), .second, .val (.long q3), .second, .val (.long q4), .second, .val (.long q5), .second, .val (.int k), .val (.ref u), .val (.ref ea), .val (.int (Int32.ofNat (tk (sel q1 q2 q3 q4) K).length)), .val (.ref so), .val (.ref r), .unset, .unset] [(.int (3 : Int32)), (.int (Int32.ofNat (tk (sel q1 q2 q3 q4) K).length))]))
                      have hf43 : ¬ ((3 : Int32) < (Int32.ofNat (tk (sel q1 q2 q3 q4) K).length)) := (fun h => d1 (hm1.mpr (by have := hm3.mp h; omega)))
                      refine GoOn.step (fun t₀ k₀ => XS.icmpYes X36.here hx rfl (pc0 := 240) (pc' := 254) rfl (hb hby at_240) rfl (flt hf43).2.2.2 (by decide) (by decide) k₀) ?_
                      show GoOn p e below _ (T36.setTop (mkF m 254 #[.val (.int q0), .val (.long q1), .second, .val (.long q2), .second, .val (.long q3), .second, .val (.long q4), .second, .val (.long q5), .second, .val (.int k), .val (.ref u), .val (.ref ea), .val (.int (Int32.ofNat (tk (sel q1 q2 q3 q4) K).length)), .val (.ref so), .val (.ref r), .unset, .unset] []))
                      exact Jok trivial
                  · refine GoOn.step (fun t₀ k₀ => XS.ifYes X36.here hx rfl (pc0 := 189) (pc' := 203) rfl (hb hby at_189) rfl ((if0 _ _).trans (flt d0).2.2.2) (by decide) (by decide) k₀) ?_
                    show GoOn p e below _ (T36.setTop (mkF m 203 #[.val (.int q0), .val (.long q1), .second, .val (.long q2), .second, .val (.long q3), .second, .val (.long q4), .second, .val (.long q5), .second, .val (.int k), .val (.ref u), .val (.ref ea), .val (.int (Int32.ofNat (tk (sel q1 q2 q3 q4) K).length)), .val (.ref so), .val (.ref r), .unset, .unset] []))
                    refine GoOn.step (fun t₀ k₀ => XS.iload X36.here hx rfl (hb hby at_203) rfl k₀) ?_
                    show GoOn p e below _ (T36.setTop (mkF m 205 #[.val (.int q0), .val (.long q1), .second, .val (.long q2), .second, .val (.long q3), .second, .val (.long q4), .second, .val (.long q5), .second, .val (.int k), .val (.ref u), .val (.ref ea), .val (.int (Int32.ofNat (tk (sel q1 q2 q3 q4) K).length)), .val (.ref so), .val (.ref r), .unset, .unset] [(.int (Int32.ofNat (tk (sel q1 q2 q3 q4) K).length))]))
                    refine GoOn.step (fun t₀ k₀ => XS.iconst X36.here hx rfl (hb hby at_205) k₀) ?_
                    show GoOn p e below _ (T36.setTop (mkF m 206 #[.val (.int q0), .val (.long q1), .second, .val (.long q2), .second, .val (.long q3), .second, .val (.long q4), .second, .val (.long q5), .second, .val (.int k), .val (.ref u), .val (.ref ea), .val (.int (Int32.ofNat (tk (sel q1 q2 q3 q4) K).length)), .val (.ref so), .val (.ref r), .unset, .unset] [(.int (1 : Int32)), (.int (Int32.ofNat (tk (sel q1 q2 q3 q4) K).length))]))
                    have hf38 : ¬ ((1 : Int32) < (Int32.ofNat (tk (sel q1 q2 q3 q4) K).length)) := (fun h => d0 (hm0.mpr (by have := hm1.mp h; omega)))
                    refine GoOn.step (fun t₀ k₀ => XS.icmpYes X36.here hx rfl (pc0 := 206) (pc' := 220) rfl (hb hby at_206) rfl (flt hf38).2.2.2 (by decide) (by decide) k₀) ?_
                    show GoOn p e below _ (T36.setTop (mkF m 220 #[.val (.int q0), .val (.long q1), .second, .val (.long q2), .second, .val (.long q3), .second, .val (.long q4), .second, .val (.long q5), .second, .val (.int k), .val (.ref u), .val (.ref ea), .val (.int (Int32.ofNat (tk (sel q1 q2 q3 q4) K).length)), .val (.ref so), .val (.ref r), .unset, .unset] []))
                    refine GoOn.step (fun t₀ k₀ => XS.iload X36.here hx rfl (hb hby at_220) rfl k₀) ?_
                    show GoOn p e below _ (T36.setTop (mkF m 222 #[.val (.int q0), .val (.long q1), .second, .val (.long q2), .second, .val (.long q3), .second, .val (.long q4), .second, .val (.long q5), .second, .val (.int k), .val (.ref u), .val (.ref ea), .val (.int (Int32.ofNat (tk (sel q1 q2 q3 q4) K).length)), .val (.ref so), .val (.ref r), .unset, .unset] [(.int (Int32.ofNat (tk (sel q1 q2 q3 q4) K).length))]))
                    refine GoOn.step (fun t₀ k₀ => XS.iconst X36.here hx rfl (hb hby at_222) k₀) ?_
                    show GoOn p e below _ (T36.setTop (mkF m 223 #[.val (.int q0), .val (.long q1), .second, .val (.long q2), .second, .val (.long q3), .second, .val (.long q4), .second, .val (.long q5), .second, .val (.int k), .val (.ref u), .val (.ref ea), .val (.int (Int32.ofNat (tk (sel q1 q2 q3 q4) K).length)), .val (.ref so), .val (.ref r), .unset, .unset] [(.int (2 : Int32)), (.int (Int32.ofNat (tk (sel q1 q2 q3 q4) K).length))]))
                    have hf39 : ¬ ((2 : Int32) < (Int32.ofNat (tk (sel q1 q2 q3 q4) K).length)) := (fun h => d0 (hm0.mpr (by have := hm2.mp h; omega)))
                    refine GoOn.step (fun t₀ k₀ => XS.icmpYes X36.here hx rfl (pc0 := 223) (pc' := 237) rfl (hb hby at_223) rfl (flt hf39).2.2.2 (by decide) (by decide) k₀) ?_
                    show GoOn p e below _ (T36.setTop (mkF m 237 #[.val (.int q0), .val (.long q1), .second, .val (.long q2), .second, .val (.long q3), .second, .val (.long q4), .second, .val (.long q5), .second, .val (.int k), .val (.ref u), .val (.ref ea), .val (.int (Int32.ofNat (tk (sel q1 q2 q3 q4) K).length)), .val (.ref so), .val (.ref r), .unset, .unset] []))
                    refine GoOn.step (fun t₀ k₀ => XS.iload X36.here hx rfl (hb hby at_237) rfl k₀) ?_
                    show GoOn p e below _ (T36.setTop (mkF m 239 #[.val (.int q0), .val (.long q1), .second, .val (.long q2), .second, .val (.long q3), .second, .val (.long q4), .second, .val (.long q5), .second, .val (.int k), .val (.ref u), .val (.ref ea), .val (.int (Int32.ofNat (tk (sel q1 q2 q3 q4) K).length)), .val (.ref so), .val (.ref r), .unset, .unset] [(.int (Int32.ofNat (tk (sel q1 q2 q3 q4) K).length))]))
                    refine GoOn.step (fun t₀ k₀ => XS.iconst X36.here hx rfl (hb hby at_239) k₀) ?_
                    show GoOn p e below _ (T36.setTop (mkF m 240 #[.val (.int q0), .val (.long q1), .second, .val (.long q2), .second, .val (.long q3), .second, .val (.long q4), .second, .val (.long q5), .second, .val (.int k), .val (.ref u), .val (.ref ea), .val (.int (Int32.ofNat (tk (sel q1 q2 q3 q4) K).length)), .val (.ref so), .val (.ref r), .unset, .unset] [(.int (3 : Int32)), (.int (Int32.ofNat (tk (sel q1 q2 q3 q4) K).length))]))
                    have hf40 : ¬ ((3 : Int32) < (Int32.ofNat (tk (sel q1 q2 q3 q4) K).length)) := (fun h => d0 (hm0.mpr (by have := hm3.mp h; omega)))
                    refine GoOn.step (fun t₀ k₀ => XS.icmpYes X36.here hx rfl (pc0 := 240) (pc' := 254) rfl (hb hby at_240) rfl (flt hf40).2.2.2 (by decide) (by decide) k₀) ?_
                    show GoOn p e below _ (T36.setTop (mkF m 254 #[.val (.int q0), .val (.long q1), .second, .val (.long q2), .second, .val (.long q3), .second, .val (.long q4), .second, .val (.long q5), .second, .val (.int k), .val (.ref u), .val (.ref ea), .val (.int (Int32.ofNat (tk (sel q1 q2 q3 q4) K).length)), .val (.ref so), .val (.ref r), .unset, .unset] []))
                    exact Jok trivial
                by_cases c3 : (3 : Int32) < k
                · refine GoOn.step (fun t₀ k₀ => XS.icmpNo X30.here hx rfl (hb hby at_133) rfl (tlt c3).2.2.2 k₀) ?_
                  show GoOn p e below _ (T30.setTop (mkF m 136 #[.val (.int q0), .val (.long q1), .second, .val (.long q2), .second, .val (.long q3), .second, .val (.long q4), .second, .val (.long q5), .second, .val (.int k), .val (.ref u), .val (.ref ea), .val (.int (Int32.ofNat (tk (sel q1 q2 q3 q4) (min 3 K)).length)), .unset, .unset, .unset, .unset] []))
                  have mm : min 4 K = 3 + 1 ∧ min 3 K = 3 := by have := hk3.mp c3; omega
                  refine GoOn.step (fun t₀ k₀ => XS.lload X30.here hx rfl (hb hby at_136) rfl k₀) ?_
                  show GoOn p e below _ (T30.setTop (mkF m 138 #[.val (.int q0), .val (.long q1), .second, .val (.long q2), .second, .val (.long q3), .second, .val (.long q4), .second, .val (.long q5), .second, .val (.int k), .val (.ref u), .val (.ref ea), .val (.int (Int32.ofNat (tk (sel q1 q2 q3 q4) (min 3 K)).length)), .unset, .unset, .unset, .unset] [(.long q4)]))
                  refine GoOn.step (fun t₀ k₀ => XS.lconst X30.here hx rfl (hb hby at_138) k₀) ?_
                  show GoOn p e below _ (T30.setTop (mkF m 139 #[.val (.int q0), .val (.long q1), .second, .val (.long q2), .second, .val (.long q3), .second, .val (.long q4), .second, .val (.long q5), .second, .val (.int k), .val (.ref u), .val (.ref ea), .val (.int (Int32.ofNat (tk (sel q1 q2 q3 q4) (min 3 K)).length)), .unset, .unset, .unset, .unset] [(.long (0 : Int64)), (.long q4)]))
                  refine GoOn.step (fun t₀ k₀ => XS.lcmp X30.here hx rfl (hb hby at_139) rfl k₀) ?_
                  show GoOn p e below _ (T30.setTop (mkF m 140 #[.val (.int q0), .val (.long q1), .second, .val (.long q2), .second, .val (.long q3), .second, .val (.long q4), .second, .val (.long q5), .second, .val (.int k), .val (.ref u), .val (.ref ea), .val (.int (Int32.ofNat (tk (sel q1 q2 q3 q4) (min 3 K)).length)), .unset, .unset, .unset, .unset] [(.int (lcmpW q4 (0 : Int64)))]))
                  by_cases p3 : (0 : Int64) < q4
                  · refine GoOn.step (fun t₀ k₀ => XS.ifNo X30.here hx rfl (hb hby at_140) rfl ((if0 _ _).trans (tlt ((lw_gt _ _).mpr p3)).2.2.2) k₀) ?_
                    show GoOn p e below _ (T30.setTop (mkF m 143 #[.val (.int q0), .val (.long q1), .second, .val (.long q2), .second, .val (.long q3), .second, .val (.long q4), .second, .val (.long q5), .second, .val (.int k), .val (.ref u), .val (.ref ea), .val (.int (Int32.ofNat (tk (sel q1 q2 q3 q4) (min 3 K)).length)), .unset, .unset, .unset, .unset] []))
                    have pq : 0 < (sel q1 q2 q3 q4) 3 := p3
                    have tl := tk_le (sel q1 q2 q3 q4) (min 3 K)
                    have ln := on (tk (sel q1 q2 q3 q4) (min 3 K)).length (by omega)
                    refine GoOn.step (fun t₀ k₀ => XS.aload X30.here hx rfl (hb hby at_143) rfl rfl k₀) ?_
                    show GoOn p e below _ (T30.setTop (mkF m 145 #[.val (.int q0), .val (.long q1), .second, .val (.long q2), .second, .val (.long q3), .second, .val (.long q4), .second, .val (.long q5), .second, .val (.int k), .val (.ref u), .val (.ref ea), .val (.int (Int32.ofNat (tk (sel q1 q2 q3 q4) (min 3 K)).length)), .unset, .unset, .unset, .unset] [(.ref ea)]))
                    refine GoOn.step (fun t₀ k₀ => XS.iload X30.here hx rfl (hb hby at_145) rfl k₀) ?_
                    show GoOn p e below _ (T30.setTop (mkF m 147 #[.val (.int q0), .val (.long q1), .second, .val (.long q2), .second, .val (.long q3), .second, .val (.long q4), .second, .val (.long q5), .second, .val (.int k), .val (.ref u), .val (.ref ea), .val (.int (Int32.ofNat (tk (sel q1 q2 q3 q4) (min 3 K)).length)), .unset, .unset, .unset, .unset] [(.int (Int32.ofNat (tk (sel q1 q2 q3 q4) (min 3 K)).length)), (.ref ea)]))
                    refine GoOn.step (fun t₀ k₀ => XS.iconst X30.here hx rfl (hb hby at_147) k₀) ?_
                    show GoOn p e below _ (T30.setTop (mkF m 148 #[.val (.int q0), .val (.long q1), .second, .val (.long q2), .second, .val (.long q3), .second, .val (.long q4), .second, .val (.long q5), .second, .val (.int k), .val (.ref u), .val (.ref ea), .val (.int (Int32.ofNat (tk (sel q1 q2 q3 q4) (min 3 K)).length)), .unset, .unset, .unset, .unset] [(.int (3 : Int32)), (.int (Int32.ofNat (tk (sel q1 q2 q3 q4) (min 3 K)).length)), (.ref ea)]))
                    obtain ⟨T33, h33, X33, e33, W33, st33⟩ := kStI X30 hx hZ e30 J_ea (j := (Int32.ofNat (tk (sel q1 q2 q3 q4) (min 3 K)).length)) ⟨by omega, by omega⟩ (g := (mkF m 148 #[.val (.int q0), .val (.long q1), .second, .val (.long q2), .second, .val (.long q3), .second, .val (.long q4), .second, .val (.long q5), .second, .val (.int k), .val (.ref u), .val (.ref ea), .val (.int (Int32.ofNat (tk (sel q1 q2 q3 q4) (min 3 K)).length)), .unset, .unset, .unset, .unset] [(.int (3 : Int32)), (.int (Int32.ofNat (tk (sel q1 q2 q3 q4) (min 3 K)).length)), (.ref ea)])) rfl rfl (hb hby at_148)
                    replace N0 := Fr.snoc X33 N0 le_ea
                    replace J_u := J_u.other W33 ne_u_ea
                    replace J_ea := J_ea.set W33
                    replace Z0 := Nat.le_trans Z0 (Nat.le_of_eq W33.size.symm)
                    refine GoOn.step st33 ?_
                    show GoOn p e below _ (T33.setTop (mkF m 149 #[.val (.int q0), .val (.long q1), .second, .val (.long q2), .second, .val (.long q3), .second, .val (.long q4), .second, .val (.long q5), .second, .val (.int k), .val (.ref u), .val (.ref ea), .val (.int (Int32.ofNat (tk (sel q1 q2 q3 q4) (min 3 K)).length)), .unset, .unset, .unset, .unset] []))
                    refine GoOn.step (fun t₀ k₀ => XS.iinc X33.here hx rfl (hb hby at_149) rfl (l' := #[.val (.int q0), .val (.long q1), .second, .val (.long q2), .second, .val (.long q3), .second, .val (.long q4), .second, .val (.long q5), .second, .val (.int k), .val (.ref u), .val (.ref ea), .val (.int ((Int32.ofNat (tk (sel q1 q2 q3 q4) (min 3 K)).length) + (1 : Int32))), .unset, .unset, .unset, .unset]) rfl k₀) ?_
                    show GoOn p e below _ (T33.setTop (mkF m 152 #[.val (.int q0), .val (.long q1), .second, .val (.long q2), .second, .val (.long q3), .second, .val (.long q4), .second, .val (.long q5), .second, .val (.int k), .val (.ref u), .val (.ref ea), .val (.int ((Int32.ofNat (tk (sel q1 q2 q3 q4) (min 3 K)).length) + (1 : Int32))), .unset, .unset, .unset, .unset] []))
                    rw [on_succ, show (tk (sel q1 q2 q3 q4) (min 3 K)).length + 1 = (tk (sel q1 q2 q3 q4) (min 4 K)).length from by rw [mm.1, mm.2, tk_y pq, List.length_append]; rfl]
                    exact Je3 _ _ _ _ X33 e33 N0 Z0 J_u J_ea (by rw [mm.1, tk_y pq]; rw [mm.2] at ht; exact ht.snoc (by rw [on_nat _ (by omega), mm.2]))
                  · refine GoOn.step (fun t₀ k₀ => XS.ifYes X30.here hx rfl (pc0 := 140) (pc' := 152) rfl (hb hby at_140) rfl ((if0 _ _).trans (flt (mt (lw_gt _ _).mp p3)).2.2.2) (by decide) (by decide) k₀) ?_
                    show GoOn p e below _ (T30.setTop (mkF m 152 #[.val (.int q0), .val (.long q1), .second, .val (.long q2), .second, .val (.long q3), .second, .val (.long q4), .second, .val (.long q5), .second, .val (.int k), .val (.ref u), .val (.ref ea), .val (.int (Int32.ofNat (tk (sel q1 q2 q3 q4) (min 3 K)).length)), .unset, .unset, .unset, .unset] []))
                    have pq : ¬ 0 < (sel q1 q2 q3 q4) 3 := p3
                    rw [mm.2, ← tk_n pq, ← mm.1]
                    exact Je3 _ _ _ _ X30 e30 N0 Z0 J_u J_ea (by rw [mm.1, tk_n pq]; rw [mm.2] at ht; exact ht)
                · refine GoOn.step (fun t₀ k₀ => XS.icmpYes X30.here hx rfl (pc0 := 133) (pc' := 152) rfl (hb hby at_133) rfl (flt c3).2.2.2 (by decide) (by decide) k₀) ?_
                  show GoOn p e below _ (T30.setTop (mkF m 152 #[.val (.int q0), .val (.long q1), .second, .val (.long q2), .second, .val (.long q3), .second, .val (.long q4), .second, .val (.long q5), .second, .val (.int k), .val (.ref u), .val (.ref ea), .val (.int (Int32.ofNat (tk (sel q1 q2 q3 q4) (min 3 K)).length)), .unset, .unset, .unset, .unset] []))
                  have mm : min 4 K = min 3 K := by have := mt hk3.mpr c3; omega
                  rw [← mm]
                  exact Je3 _ _ _ _ X30 e30 N0 Z0 J_u J_ea (by rw [mm]; exact ht)
              by_cases c2 : (2 : Int32) < k
              · refine GoOn.step (fun t₀ k₀ => XS.icmpNo X28.here hx rfl (hb hby at_111) rfl (tlt c2).2.2.2 k₀) ?_
                show GoOn p e below _ (T28.setTop (mkF m 114 #[.val (.int q0), .val (.long q1), .second, .val (.long q2), .second, .val (.long q3), .second, .val (.long q4), .second, .val (.long q5), .second, .val (.int k), .val (.ref u), .val (.ref ea), .val (.int (Int32.ofNat (tk (sel q1 q2 q3 q4) (min 2 K)).length)), .unset, .unset, .unset, .unset] []))
                have mm : min 3 K = 2 + 1 ∧ min 2 K = 2 := by have := hk2.mp c2; omega
                refine GoOn.step (fun t₀ k₀ => XS.lload X28.here hx rfl (hb hby at_114) rfl k₀) ?_
                show GoOn p e below _ (T28.setTop (mkF m 116 #[.val (.int q0), .val (.long q1), .second, .val (.long q2), .second, .val (.long q3), .second, .val (.long q4), .second, .val (.long q5), .second, .val (.int k), .val (.ref u), .val (.ref ea), .val (.int (Int32.ofNat (tk (sel q1 q2 q3 q4) (min 2 K)).length)), .unset, .unset, .unset, .unset] [(.long q3)]))
                refine GoOn.step (fun t₀ k₀ => XS.lconst X28.here hx rfl (hb hby at_116) k₀) ?_
                show GoOn p e below _ (T28.setTop (mkF m 117 #[.val (.int q0), .val (.long q1), .second, .val (.long q2), .second, .val (.long q3), .second, .val (.long q4), .second, .val (.long q5), .second, .val (.int k), .val (.ref u), .val (.ref ea), .val (.int (Int32.ofNat (tk (sel q1 q2 q3 q4) (min 2 K)).length)), .unset, .unset, .unset, .unset] [(.long (0 : Int64)), (.long q3)]))
                refine GoOn.step (fun t₀ k₀ => XS.lcmp X28.here hx rfl (hb hby at_117) rfl k₀) ?_
                show GoOn p e below _ (T28.setTop (mkF m 118 #[.val (.int q0), .val (.long q1), .second, .val (.long q2), .second, .val (.long q3), .second, .val (.long q4), .second, .val (.long q5), .second, .val (.int k), .val (.ref u), .val (.ref ea), .val (.int (Int32.ofNat (tk (sel q1 q2 q3 q4) (min 2 K)).length)), .unset, .unset, .unset, .unset] [(.int (lcmpW q3 (0 : Int64)))]))
                by_cases p2 : (0 : Int64) < q3
                · refine GoOn.step (fun t₀ k₀ => XS.ifNo X28.here hx rfl (hb hby at_118) rfl ((if0 _ _).trans (tlt ((lw_gt _ _).mpr p2)).2.2.2) k₀) ?_
                  show GoOn p e below _ (T28.setTop (mkF m 121 #[.val (.int q0), .val (.long q1), .second, .val (.long q2), .second, .val (.long q3), .second, .val (.long q4), .second, .val (.long q5), .second, .val (.int k), .val (.ref u), .val (.ref ea), .val (.int (Int32.ofNat (tk (sel q1 q2 q3 q4) (min 2 K)).length)), .unset, .unset, .unset, .unset] []))
                  have pq : 0 < (sel q1 q2 q3 q4) 2 := p2
                  have tl := tk_le (sel q1 q2 q3 q4) (min 2 K)
                  have ln := on (tk (sel q1 q2 q3 q4) (min 2 K)).length (by omega)
                  refine GoOn.step (fun t₀ k₀ => XS.aload X28.here hx rfl (hb hby at_121) rfl rfl k₀) ?_
                  show GoOn p e below _ (T28.setTop (mkF m 123 #[.val (.int q0), .val (.long q1), .second, .val (.long q2), .second, .val (.long q3), .second, .val (.long q4), .second, .val (.long q5), .second, .val (.int k), .val (.ref u), .val (.ref ea), .val (.int (Int32.ofNat (tk (sel q1 q2 q3 q4) (min 2 K)).length)), .unset, .unset, .unset, .unset] [(.ref ea)]))
                  refine GoOn.step (fun t₀ k₀ => XS.iload X28.here hx rfl (hb hby at_123) rfl k₀) ?_
                  show GoOn p e below _ (T28.setTop (mkF m 125 #[.val (.int q0), .val (.long q1), .second, .val (.long q2), .second, .val (.long q3), .second, .val (.long q4), .second, .val (.long q5), .second, .val (.int k), .val (.ref u), .val (.ref ea), .val (.int (Int32.ofNat (tk (sel q1 q2 q3 q4) (min 2 K)).length)), .unset, .unset, .unset, .unset] [(.int (Int32.ofNat (tk (sel q1 q2 q3 q4) (min 2 K)).length)), (.ref ea)]))
                  refine GoOn.step (fun t₀ k₀ => XS.iconst X28.here hx rfl (hb hby at_125) k₀) ?_
                  show GoOn p e below _ (T28.setTop (mkF m 126 #[.val (.int q0), .val (.long q1), .second, .val (.long q2), .second, .val (.long q3), .second, .val (.long q4), .second, .val (.long q5), .second, .val (.int k), .val (.ref u), .val (.ref ea), .val (.int (Int32.ofNat (tk (sel q1 q2 q3 q4) (min 2 K)).length)), .unset, .unset, .unset, .unset] [(.int (2 : Int32)), (.int (Int32.ofNat (tk (sel q1 q2 q3 q4) (min 2 K)).length)), (.ref ea)]))
                  obtain ⟨T31, h31, X31, e31, W31, st31⟩ := kStI X28 hx hZ e28 J_ea (j := (Int32.ofNat (tk (sel q1 q2 q3 q4) (min 2 K)).length)) ⟨by omega, by omega⟩ (g := (mkF m 126 #[.val (.int q0), .val (.long q1), .second, .val (.long q2), .second, .val (.long q3), .second, .val (.long q4), .second, .val (.long q5), .second, .val (.int k), .val (.ref u), .val (.ref ea), .val (.int (Int32.ofNat (tk (sel q1 q2 q3 q4) (min 2 K)).length)), .unset, .unset, .unset, .unset] [(.int (2 : Int32)), (.int (Int32.ofNat (tk (sel q1 q2 q3 q4) (min 2 K)).length)), (.ref ea)])) rfl rfl (hb hby at_126)
                  replace N0 := Fr.snoc X31 N0 le_ea
                  replace J_u := J_u.other W31 ne_u_ea
                  replace J_ea := J_ea.set W31
                  replace Z0 := Nat.le_trans Z0 (Nat.le_of_eq W31.size.symm)
                  refine GoOn.step st31 ?_
                  show GoOn p e below _ (T31.setTop (mkF m 127 #[.val (.int q0), .val (.long q1), .second, .val (.long q2), .second, .val (.long q3), .second, .val (.long q4), .second, .val (.long q5), .second, .val (.int k), .val (.ref u), .val (.ref ea), .val (.int (Int32.ofNat (tk (sel q1 q2 q3 q4) (min 2 K)).length)), .unset, .unset, .unset, .unset] []))
                  refine GoOn.step (fun t₀ k₀ => XS.iinc X31.here hx rfl (hb hby at_127) rfl (l' := #[.val (.int q0), .val (.long q1), .second, .val (.long q2), .second, .val (.long q3), .second, .val (.long q4), .second, .val (.long q5), .second, .val (.int k), .val (.ref u), .val (.ref ea), .val (.int ((Int32.ofNat (tk (sel q1 q2 q3 q4) (min 2 K)).length) + (1 : Int32))), .unset, .unset, .unset, .unset]) rfl k₀) ?_
                  show GoOn p e below _ (T31.setTop (mkF m 130 #[.val (.int q0), .val (.long q1), .second, .val (.long q2), .second, .val (.long q3), .second, .val (.long q4), .second, .val (.long q5), .second, .val (.int k), .val (.ref u), .val (.ref ea), .val (.int ((Int32.ofNat (tk (sel q1 q2 q3 q4) (min 2 K)).length) + (1 : Int32))), .unset, .unset, .unset, .unset] []))
                  rw [on_succ, show (tk (sel q1 q2 q3 q4) (min 2 K)).length + 1 = (tk (sel q1 q2 q3 q4) (min 3 K)).length from by rw [mm.1, mm.2, tk_y pq, List.length_append]; rfl]
                  exact Je2 _ _ _ _ X31 e31 N0 Z0 J_u J_ea (by rw [mm.1, tk_y pq]; rw [mm.2] at ht; exact ht.snoc (by rw [on_nat _ (by omega), mm.2]))
                · refine GoOn.step (fun t₀ k₀ => XS.ifYes X28.here hx rfl (pc0 := 118) (pc' := 130) rfl (hb hby at_118) rfl ((if0 _ _).trans (flt (mt (lw_gt _ _).mp p2)).2.2.2) (by decide) (by decide) k₀) ?_
                  show GoOn p e below _ (T28.setTop (mkF m 130 #[.val (.int q0), .val (.long q1), .second, .val (.long q2), .second, .val (.long q3), .second, .val (.long q4), .second, .val (.long q5), .second, .val (.int k), .val (.ref u), .val (.ref ea), .val (.int (Int32.ofNat (tk (sel q1 q2 q3 q4) (min 2 K)).length)), .unset, .unset, .unset, .unset] []))
                  have pq : ¬ 0 < (sel q1 q2 q3 q4) 2 := p2
                  rw [mm.2, ← tk_n pq, ← mm.1]
                  exact Je2 _ _ _ _ X28 e28 N0 Z0 J_u J_ea (by rw [mm.1, tk_n pq]; rw [mm.2] at ht; exact ht)
              · refine GoOn.step (fun t₀ k₀ => XS.icmpYes X28.here hx rfl (pc0 := 111) (pc' := 130) rfl (hb hby at_111) rfl (flt c2).2.2.2 (by decide) (by decide) k₀) ?_
                show GoOn p e below _ (T28.setTop (mkF m 130 #[.val (.int q0), .val (.long q1), .second, .val (.long q2), .second, .val (.long q3), .second, .val (.long q4), .second, .val (.long q5), .second, .val (.int k), .val (.ref u), .val (.ref ea), .val (.int (Int32.ofNat (tk (sel q1 q2 q3 q4) (min 2 K)).length)), .unset, .unset, .unset, .unset] []))
                have mm : min 3 K = min 2 K := by have := mt hk2.mpr c2; omega
                rw [← mm]
                exact Je2 _ _ _ _ X28 e28 N0 Z0 J_u J_ea (by rw [mm]; exact ht)
            by_cases c1 : (1 : Int32) < k
            · refine GoOn.step (fun t₀ k₀ => XS.icmpNo X26.here hx rfl (hb hby at_90) rfl (tlt c1).2.2.2 k₀) ?_
              show GoOn p e below _ (T26.setTop (mkF m 93 #[.val (.int q0), .val (.long q1), .second, .val (.long q2), .second, .val (.long q3), .second, .val (.long q4), .second, .val (.long q5), .second, .val (.int k), .val (.ref u), .val (.ref ea), .val (.int (Int32.ofNat (tk (sel q1 q2 q3 q4) (min 1 K)).length)), .unset, .unset, .unset, .unset] []))
              have mm : min 2 K = 1 + 1 ∧ min 1 K = 1 := by have := hk1.mp c1; omega
              refine GoOn.step (fun t₀ k₀ => XS.lloadN X26.here hx rfl (hb hby at_93) rfl k₀) ?_
              show GoOn p e below _ (T26.setTop (mkF m 94 #[.val (.int q0), .val (.long q1), .second, .val (.long q2), .second, .val (.long q3), .second, .val (.long q4), .second, .val (.long q5), .second, .val (.int k), .val (.ref u), .val (.ref ea), .val (.int (Int32.ofNat (tk (sel q1 q2 q3 q4) (min 1 K)).length)), .unset, .unset, .unset, .unset] [(.long q2)]))
              refine GoOn.step (fun t₀ k₀ => XS.lconst X26.here hx rfl (hb hby at_94) k₀) ?_
              show GoOn p e below _ (T26.setTop (mkF m 95 #[.val (.int q0), .val (.long q1), .second, .val (.long q2), .second, .val (.long q3), .second, .val (.long q4), .second, .val (.long q5), .second, .val (.int k), .val (.ref u), .val (.ref ea), .val (.int (Int32.ofNat (tk (sel q1 q2 q3 q4) (min 1 K)).length)), .unset, .unset, .unset, .unset] [(.long (0 : Int64)), (.long q2)]))
              refine GoOn.step (fun t₀ k₀ => XS.lcmp X26.here hx rfl (hb hby at_95) rfl k₀) ?_
              show GoOn p e below _ (T26.setTop (mkF m 96 #[.val (.int q0), .val (.long q1), .second, .val (.long q2), .second, .val (.long q3), .second, .val (.long q4), .second, .val (.long q5), .second, .val (.int k), .val (.ref u), .val (.ref ea), .val (.int (Int32.ofNat (tk (sel q1 q2 q3 q4) (min 1 K)).length)), .unset, .unset, .unset, .unset] [(.int (lcmpW q2 (0 : Int64)))]))
              by_cases p1 : (0 : Int64) < q2
              · refine GoOn.step (fun t₀ k₀ => XS.ifNo X26.here hx rfl (hb hby at_96) rfl ((if0 _ _).trans (tlt ((lw_gt _ _).mpr p1)).2.2.2) k₀) ?_
                show GoOn p e below _ (T26.setTop (mkF m 99 #[.val (.int q0), .val (.long q1), .second, .val (.long q2), .second, .val (.long q3), .second, .val (.long q4), .second, .val (.long q5), .second, .val (.int k), .val (.ref u), .val (.ref ea), .val (.int (Int32.ofNat (tk (sel q1 q2 q3 q4) (min 1 K)).length)), .unset, .unset, .unset, .unset] []))
                have pq : 0 < (sel q1 q2 q3 q4) 1 := p1
                have tl := tk_le (sel q1 q2 q3 q4) (min 1 K)
                have ln := on (tk (sel q1 q2 q3 q4) (min 1 K)).length (by omega)
                refine GoOn.step (fun t₀ k₀ => XS.aload X26.here hx rfl (hb hby at_99) rfl rfl k₀) ?_
                show GoOn p e below _ (T26.setTop (mkF m 101 #[.val (.int q0), .val (.long q1), .second, .val (.long q2), .second, .val (.long q3), .second, .val (.long q4), .second, .val (.long q5), .second, .val (.int k), .val (.ref u), .val (.ref ea), .val (.int (Int32.ofNat (tk (sel q1 q2 q3 q4) (min 1 K)).length)), .unset, .unset, .unset, .unset] [(.ref ea)]))
                refine GoOn.step (fun t₀ k₀ => XS.iload X26.here hx rfl (hb hby at_101) rfl k₀) ?_
                show GoOn p e below _ (T26.setTop (mkF m 103 #[.val (.int q0), .val (.long q1), .second, .val (.long q2), .second, .val (.long q3), .second, .val (.long q4), .second, .val (.long q5), .second, .val (.int k), .val (.ref u), .val (.ref ea), .val (.int (Int32.ofNat (tk (sel q1 q2 q3 q4) (min 1 K)).length)), .unset, .unset, .unset, .unset] [(.int (Int32.ofNat (tk (sel q1 q2 q3 q4) (min 1 K)).length)), (.ref ea)]))
                refine GoOn.step (fun t₀ k₀ => XS.iconst X26.here hx rfl (hb hby at_103) k₀) ?_
                show GoOn p e below _ (T26.setTop (mkF m 104 #[.val (.int q0), .val (.long q1), .second, .val (.long q2), .second, .val (.long q3), .second, .val (.long q4), .second, .val (.long q5), .second, .val (.int k), .val (.ref u), .val (.ref ea), .val (.int (Int32.ofNat (tk (sel q1 q2 q3 q4) (min 1 K)).length)), .unset, .unset, .unset, .unset] [(.int (1 : Int32)), (.int (Int32.ofNat (tk (sel q1 q2 q3 q4) (min 1 K)).length)), (.ref ea)]))
                obtain ⟨T29, h29, X29, e29, W29, st29⟩ := kStI X26 hx hZ e26 J_ea (j := (Int32.ofNat (tk (sel q1 q2 q3 q4) (min 1 K)).length)) ⟨by omega, by omega⟩ (g := (mkF m 104 #[.val (.int q0), .val (.long q1), .second, .val (.long q2), .second, .val (.long q3), .second, .val (.long q4), .second, .val (.long q5), .second, .val (.int k), .val (.ref u), .val (.ref ea), .val (.int (Int32.ofNat (tk (sel q1 q2 q3 q4) (min 1 K)).length)), .unset, .unset, .unset, .unset] [(.int (1 : Int32)), (.int (Int32.ofNat (tk (sel q1 q2 q3 q4) (min 1 K)).length)), (.ref ea)])) rfl rfl (hb hby at_104)
                replace N0 := Fr.snoc X29 N0 le_ea
                replace J_u := J_u.other W29 ne_u_ea
                replace J_ea := J_ea.set W29
                replace Z0 := Nat.le_trans Z0 (Nat.le_of_eq W29.size.symm)
                refine GoOn.step st29 ?_
                show GoOn p e below _ (T29.setTop (mkF m 105 #[.val (.int q0), .val (.long q1), .second, .val (.long q2), .second, .val (.long q3), .second, .val (.long q4), .second, .val (.long q5), .second, .val (.int k), .val (.ref u), .val (.ref ea), .val (.int (Int32.ofNat (tk (sel q1 q2 q3 q4) (min 1 K)).length)), .unset, .unset, .unset, .unset] []))
                refine GoOn.step (fun t₀ k₀ => XS.iinc X29.here hx rfl (hb hby at_105) rfl (l' := #[.val (.int q0), .val (.long q1), .second, .val (.long q2), .second, .val (.long q3), .second, .val (.long q4), .second, .val (.long q5), .second, .val (.int k), .val (.ref u), .val (.ref ea), .val (.int ((Int32.ofNat (tk (sel q1 q2 q3 q4) (min 1 K)).length) + (1 : Int32))), .unset, .unset, .unset, .unset]) rfl k₀) ?_
                show GoOn p e below _ (T29.setTop (mkF m 108 #[.val (.int q0), .val (.long q1), .second, .val (.long q2), .second, .val (.long q3), .second, .val (.long q4), .second, .val (.long q5), .second, .val (.int k), .val (.ref u), .val (.ref ea), .val (.int ((Int32.ofNat (tk (sel q1 q2 q3 q4) (min 1 K)).length) + (1 : Int32))), .unset, .unset, .unset, .unset] []))
                rw [on_succ, show (tk (sel q1 q2 q3 q4) (min 1 K)).length + 1 = (tk (sel q1 q2 q3 q4) (min 2 K)).length from by rw [mm.1, mm.2, tk_y pq, List.length_append]; rfl]
                exact Je1 _ _ _ _ X29 e29 N0 Z0 J_u J_ea (by rw [mm.1, tk_y pq]; rw [mm.2] at ht; exact ht.snoc (by rw [on_nat _ (by omega), mm.2]))
              · refine GoOn.step (fun t₀ k₀ => XS.ifYes X26.here hx rfl (pc0 := 96) (pc' := 108) rfl (hb hby at_96) rfl ((if0 _ _).trans (flt (mt (lw_gt _ _).mp p1)).2.2.2) (by decide) (by decide) k₀) ?_
                show GoOn p e below _ (T26.setTop (mkF m 108 #[.val (.int q0), .val (.long q1), .second, .val (.long q2), .second, .val (.long q3), .second, .val (.long q4), .second, .val (.long q5), .second, .val (.int k), .val (.ref u), .val (.ref ea), .val (.int (Int32.ofNat (tk (sel q1 q2 q3 q4) (min 1 K)).length)), .unset, .unset, .unset, .unset] []))
                have pq : ¬ 0 < (sel q1 q2 q3 q4) 1 := p1
                rw [mm.2, ← tk_n pq, ← mm.1]
                exact Je1 _ _ _ _ X26 e26 N0 Z0 J_u J_ea (by rw [mm.1, tk_n pq]; rw [mm.2] at ht; exact ht)
            · refine GoOn.step (fun t₀ k₀ => XS.icmpYes X26.here hx rfl (pc0 := 90) (pc' := 108) rfl (hb hby at_90) rfl (flt c1).2.2.2 (by decide) (by decide) k₀) ?_
              show GoOn p e below _ (T26.setTop (mkF m 108 #[.val (.int q0), .val (.long q1), .second, .val (.long q2), .second, .val (.long q3), .second, .val (.long q4), .second, .val (.long q5), .second, .val (.int k), .val (.ref u), .val (.ref ea), .val (.int (Int32.ofNat (tk (sel q1 q2 q3 q4) (min 1 K)).length)), .unset, .unset, .unset, .unset] []))
              have mm : min 2 K = min 1 K := by have := mt hk1.mpr c1; omega
              rw [← mm]
              exact Je1 _ _ _ _ X26 e26 N0 Z0 J_u J_ea (by rw [mm]; exact ht)
          by_cases c0 : (0 : Int32) < k
          · refine GoOn.step (fun t₀ k₀ => XS.ifNo X25.here hx rfl (hb hby at_69) rfl ((if0 _ _).trans (tlt c0).2.2.2) k₀) ?_
            show GoOn p e below _ (T25.setTop (mkF m 72 #[.val (.int q0), .val (.long q1), .second, .val (.long q2), .second, .val (.long q3), .second, .val (.long q4), .second, .val (.long q5), .second, .val (.int k), .val (.ref u), .val (.ref ea), .val (.int (Int32.ofNat (tk (sel q1 q2 q3 q4) (min 0 K)).length)), .unset, .unset, .unset, .unset] []))
            have mm : min 1 K = 0 + 1 ∧ min 0 K = 0 := by have := hk0.mp c0; omega
            refine GoOn.step (fun t₀ k₀ => XS.lloadN X25.here hx rfl (hb hby at_72) rfl k₀) ?_
            show GoOn p e below _ (T25.setTop (mkF m 73 #[.val (.int q0), .val (.long q1), .second, .val (.long q2), .second, .val (.long q3), .second, .val (.long q4), .second, .val (.long q5), .second, .val (.int k), .val (.ref u), .val (.ref ea), .val (.int (Int32.ofNat (tk (sel q1 q2 q3 q4) (min 0 K)).length)), .unset, .unset, .unset, .unset] [(.long q1)]))
            refine GoOn.step (fun t₀ k₀ => XS.lconst X25.here hx rfl (hb hby at_73) k₀) ?_
            show GoOn p e below _ (T25.setTop (mkF m 74 #[.val (.int q0), .val (.long q1), .second, .val (.long q2), .second, .val (.long q3), .second, .val (.long q4), .second, .val (.long q5), .second, .val (.int k), .val (.ref u), .val (.ref ea), .val (.int (Int32.ofNat (tk (sel q1 q2 q3 q4) (min 0 K)).length)), .unset, .unset, .unset, .unset] [(.long (0 : Int64)), (.long q1)]))
            refine GoOn.step (fun t₀ k₀ => XS.lcmp X25.here hx rfl (hb hby at_74) rfl k₀) ?_
            show GoOn p e below _ (T25.setTop (mkF m 75 #[.val (.int q0), .val (.long q1), .second, .val (.long q2), .second, .val (.long q3), .second, .val (.long q4), .second, .val (.long q5), .second, .val (.int k), .val (.ref u), .val (.ref ea), .val (.int (Int32.ofNat (tk (sel q1 q2 q3 q4) (min 0 K)).length)), .unset, .unset, .unset, .unset] [(.int (lcmpW q1 (0 : Int64)))]))
            by_cases p0 : (0 : Int64) < q1
            · refine GoOn.step (fun t₀ k₀ => XS.ifNo X25.here hx rfl (hb hby at_75) rfl ((if0 _ _).trans (tlt ((lw_gt _ _).mpr p0)).2.2.2) k₀) ?_
              show GoOn p e below _ (T25.setTop (mkF m 78 #[.val (.int q0), .val (.long q1), .second, .val (.long q2), .second, .val (.long q3), .second, .val (.long q4), .second, .val (.long q5), .second, .val (.int k), .val (.ref u), .val (.ref ea), .val (.int (Int32.ofNat (tk (sel q1 q2 q3 q4) (min 0 K)).length)), .unset, .unset, .unset, .unset] []))
              have pq : 0 < (sel q1 q2 q3 q4) 0 := p0
              have tl := tk_le (sel q1 q2 q3 q4) (min 0 K)
              have ln := on (tk (sel q1 q2 q3 q4) (min 0 K)).length (by omega)
              refine GoOn.step (fun t₀ k₀ => XS.aload X25.here hx rfl (hb hby at_78) rfl rfl k₀) ?_
              show GoOn p e below _ (T25.setTop (mkF m 80 #[.val (.int q0), .val (.long q1), .second, .val (.long q2), .second, .val (.long q3), .second, .val (.long q4), .second, .val (.long q5), .second, .val (.int k), .val (.ref u), .val (.ref ea), .val (.int (Int32.ofNat (tk (sel q1 q2 q3 q4) (min 0 K)).length)), .unset, .unset, .unset, .unset] [(.ref ea)]))
              refine GoOn.step (fun t₀ k₀ => XS.iload X25.here hx rfl (hb hby at_80) rfl k₀) ?_
              show GoOn p e below _ (T25.setTop (mkF m 82 #[.val (.int q0), .val (.long q1), .second, .val (.long q2), .second, .val (.long q3), .second, .val (.long q4), .second, .val (.long q5), .second, .val (.int k), .val (.ref u), .val (.ref ea), .val (.int (Int32.ofNat (tk (sel q1 q2 q3 q4) (min 0 K)).length)), .unset, .unset, .unset, .unset] [(.int (Int32.ofNat (tk (sel q1 q2 q3 q4) (min 0 K)).length)), (.ref ea)]))
              refine GoOn.step (fun t₀ k₀ => XS.iconst X25.here hx rfl (hb hby at_82) k₀) ?_
              show GoOn p e below _ (T25.setTop (mkF m 83 #[.val (.int q0), .val (.long q1), .second, .val (.long q2), .second, .val (.long q3), .second, .val (.long q4), .second, .val (.long q5), .second, .val (.int k), .val (.ref u), .val (.ref ea), .val (.int (Int32.ofNat (tk (sel q1 q2 q3 q4) (min 0 K)).length)), .unset, .unset, .unset, .unset] [(.int (0 : Int32)), (.int (Int32.ofNat (tk (sel q1 q2 q3 q4) (min 0 K)).length)), (.ref ea)]))
              obtain ⟨T27, h27, X27, e27, W27, st27⟩ := kStI X25 hx hZ e25 J_ea (j := (Int32.ofNat (tk (sel q1 q2 q3 q4) (min 0 K)).length)) ⟨by omega, by omega⟩ (g := (mkF m 83 #[.val (.int q0), .val (.long q1), .second, .val (.long q2), .second, .val (.long q3), .second, .val (.long q4), .second, .val (.long q5), .second, .val (.int k), .val (.ref u), .val (.ref ea), .val (.int (Int32.ofNat (tk (sel q1 q2 q3 q4) (min 0 K)).length)), .unset, .unset, .unset, .unset] [(.int (0 : Int32)), (.int (Int32.ofNat (tk (sel q1 q2 q3 q4) (min 0 K)).length)), (.ref ea)])) rfl rfl (hb hby at_83)
              replace N0 := Fr.snoc X27 N0 le_ea
              replace J_u := J_u.other W27 ne_u_ea
              replace J_ea := J_ea.set W27
              replace Z0 := Nat.le_trans Z0 (Nat.le_of_eq W27.size.symm)
              refine GoOn.step st27 ?_
              show GoOn p e below _ (T27.setTop (mkF m 84 #[.val (.int q0), .val (.long q1), .second, .val (.long q2), .second, .val (.long q3), .second, .val (.long q4), .second, .val (.long q5), .second, .val (.int k), .val (.ref u), .val (.ref ea), .val (.int (Int32.ofNat (tk (sel q1 q2 q3 q4) (min 0 K)).length)), .unset, .unset, .unset, .unset] []))
              refine GoOn.step (fun t₀ k₀ => XS.iinc X27.here hx rfl (hb hby at_84) rfl (l' := #[.val (.int q0), .val (.long q1), .second, .val (.long q2), .second, .val (.long q3), .second, .val (.long q4), .second, .val (.long q5), .second, .val (.int k), .val (.ref u), .val (.ref ea), .val (.int ((Int32.ofNat (tk (sel q1 q2 q3 q4) (min 0 K)).length) + (1 : Int32))), .unset, .unset, .unset, .unset]) rfl k₀) ?_
              show GoOn p e below _ (T27.setTop (mkF m 87 #[.val (.int q0), .val (.long q1), .second, .val (.long q2), .second, .val (.long q3), .second, .val (.long q4), .second, .val (.long q5), .second, .val (.int k), .val (.ref u), .val (.ref ea), .val (.int ((Int32.ofNat (tk (sel q1 q2 q3 q4) (min 0 K)).length) + (1 : Int32))), .unset, .unset, .unset, .unset] []))
              rw [on_succ, show (tk (sel q1 q2 q3 q4) (min 0 K)).length + 1 = (tk (sel q1 q2 q3 q4) (min 1 K)).length from by rw [mm.1, mm.2, tk_y pq, List.length_append]; rfl]
              exact Je0 _ _ _ _ X27 e27 N0 Z0 J_u J_ea (by rw [mm.1, tk_y pq]; rw [mm.2] at ht; exact ht.snoc (by rw [on_nat _ (by omega), mm.2]))
            · refine GoOn.step (fun t₀ k₀ => XS.ifYes X25.here hx rfl (pc0 := 75) (pc' := 87) rfl (hb hby at_75) rfl ((if0 _ _).trans (flt (mt (lw_gt _ _).mp p0)).2.2.2) (by decide) (by decide) k₀) ?_
              show GoOn p e below _ (T25.setTop (mkF m 87 #[.val (.int q0), .val (.long q1), .second, .val (.long q2), .second, .val (.long q3), .second, .val (.long q4), .second, .val (.long q5), .second, .val (.int k), .val (.ref u), .val (.ref ea), .val (.int (Int32.ofNat (tk (sel q1 q2 q3 q4) (min 0 K)).length)), .unset, .unset, .unset, .unset] []))
              have pq : ¬ 0 < (sel q1 q2 q3 q4) 0 := p0
              rw [mm.2, ← tk_n pq, ← mm.1]
              exact Je0 _ _ _ _ X25 e25 N0 Z0 J_u J_ea (by rw [mm.1, tk_n pq]; rw [mm.2] at ht; exact ht)
          · refine GoOn.step (fun t₀ k₀ => XS.ifYes X25.here hx rfl (pc0 := 69) (pc' := 87) rfl (hb hby at_69) rfl ((if0 _ _).trans (flt c0).2.2.2) (by decide) (by decide) k₀) ?_
            show GoOn p e below _ (T25.setTop (mkF m 87 #[.val (.int q0), .val (.long q1), .second, .val (.long q2), .second, .val (.long q3), .second, .val (.long q4), .second, .val (.long q5), .second, .val (.int k), .val (.ref u), .val (.ref ea), .val (.int (Int32.ofNat (tk (sel q1 q2 q3 q4) (min 0 K)).length)), .unset, .unset, .unset, .unset] []))
            have mm : min 1 K = min 0 K := by have := mt hk0.mpr c0; omega
            rw [← mm]
            exact Je0 _ _ _ _ X25 e25 N0 Z0 J_u J_ea (by rw [mm]; exact ht)
        by_cases c3 : (3 : Int32) < k
        · refine GoOn.step (fun t₀ k₀ => XS.icmpNo X21.here hx rfl (hb hby at_50) rfl (tlt c3).2.2.2 k₀) ?_
          show GoOn p e below _ (T21.setTop (mkF m 53 #[.val (.int q0), .val (.long q1), .second, .val (.long q2), .second, .val (.long q3), .second, .val (.long q4), .second, .val (.long q5), .second, .val (.int k), .val (.ref u), .unset, .unset, .unset, .unset, .unset, .unset] []))
          refine GoOn.step (fun t₀ k₀ => XS.aload X21.here hx rfl (hb hby at_53) rfl rfl k₀) ?_
          show GoOn p e below _ (T21.setTop (mkF m 55 #[.val (.int q0), .val (.long q1), .second, .val (.long q2), .second, .val (.long q3), .second, .val (.long q4), .second, .val (.long q5), .second, .val (.int k), .val (.ref u), .unset, .unset, .unset, .unset, .unset, .unset] [(.ref u)]))
          refine GoOn.step (fun t₀ k₀ => XS.iconst X21.here hx rfl (hb hby at_55) k₀) ?_
          show GoOn p e below _ (T21.setTop (mkF m 56 #[.val (.int q0), .val (.long q1), .second, .val (.long q2), .second, .val (.long q3), .second, .val (.long q4), .second, .val (.long q5), .second, .val (.int k), .val (.ref u), .unset, .unset, .unset, .unset, .unset, .unset] [(.int (3 : Int32)), (.ref u)]))
          refine GoOn.step (fun t₀ k₀ => XS.lload X21.here hx rfl (hb hby at_56) rfl k₀) ?_
          show GoOn p e below _ (T21.setTop (mkF m 58 #[.val (.int q0), .val (.long q1), .second, .val (.long q2), .second, .val (.long q3), .second, .val (.long q4), .second, .val (.long q5), .second, .val (.int k), .val (.ref u), .unset, .unset, .unset, .unset, .unset, .unset] [(.long q4), (.int (3 : Int32)), (.ref u)]))
          obtain ⟨T24, h24, X24, e24, W24, st24⟩ := kStJ X21 hx hZ e21 J_u (j := (3 : Int32)) ⟨by decide, by have := hk3.mp c3; have : (3 : Int32).toInt = 3 := (by decide); omega⟩ (g := (mkF m 58 #[.val (.int q0), .val (.long q1), .second, .val (.long q2), .second, .val (.long q3), .second, .val (.long q4), .second, .val (.long q5), .second, .val (.int k), .val (.ref u), .unset, .unset, .unset, .unset, .unset, .unset] [(.long q4), (.int (3 : Int32)), (.ref u)])) rfl rfl (hb hby at_58)
          replace N0 := Fr.snoc X24 N0 le_u
          replace J_u := J_u.set W24
          replace Z0 := Nat.le_trans Z0 (Nat.le_of_eq W24.size.symm)
          refine GoOn.step st24 ?_
          show GoOn p e below _ (T24.setTop (mkF m 59 #[.val (.int q0), .val (.long q1), .second, .val (.long q2), .second, .val (.long q3), .second, .val (.long q4), .second, .val (.long q5), .second, .val (.int k), .val (.ref u), .unset, .unset, .unset, .unset, .unset, .unset] []))
          exact Ju3 _ _ _ X24 e24 N0 Z0 (J_u.congr (fun j hj => own_u3 j)) 
        · refine GoOn.step (fun t₀ k₀ => XS.icmpYes X21.here hx rfl (pc0 := 50) (pc' := 59) rfl (hb hby at_50) rfl (flt c3).2.2.2 (by decide) (by decide) k₀) ?_
          show GoOn p e below _ (T21.setTop (mkF m 59 #[.val (.int q0), .val (.long q1), .second, .val (.long q2), .second, .val (.long q3), .second, .val (.long q4), .second, .val (.long q5), .second, .val (.int k), .val (.ref u), .unset, .unset, .unset, .unset, .unset, .unset] []))
          exact Ju3 _ _ _ X21 e21 N0 Z0 (J_u.congr (fun j hj => own_v3 j (by have := mt hk3.mpr c3; omega))) 
      by_cases c2 : (2 : Int32) < k
      · refine GoOn.step (fun t₀ k₀ => XS.icmpNo X19.here hx rfl (hb hby at_38) rfl (tlt c2).2.2.2 k₀) ?_
        show GoOn p e below _ (T19.setTop (mkF m 41 #[.val (.int q0), .val (.long q1), .second, .val (.long q2), .second, .val (.long q3), .second, .val (.long q4), .second, .val (.long q5), .second, .val (.int k), .val (.ref u), .unset, .unset, .unset, .unset, .unset, .unset] []))
        refine GoOn.step (fun t₀ k₀ => XS.aload X19.here hx rfl (hb hby at_41) rfl rfl k₀) ?_
        show GoOn p e below _ (T19.setTop (mkF m 43 #[.val (.int q0), .val (.long q1), .second, .val (.long q2), .second, .val (.long q3), .second, .val (.long q4), .second, .val (.long q5), .second, .val (.int k), .val (.ref u), .unset, .unset, .unset, .unset, .unset, .unset] [(.ref u)]))
        refine GoOn.step (fun t₀ k₀ => XS.iconst X19.here hx rfl (hb hby at_43) k₀) ?_
        show GoOn p e below _ (T19.setTop (mkF m 44 #[.val (.int q0), .val (.long q1), .second, .val (.long q2), .second, .val (.long q3), .second, .val (.long q4), .second, .val (.long q5), .second, .val (.int k), .val (.ref u), .unset, .unset, .unset, .unset, .unset, .unset] [(.int (2 : Int32)), (.ref u)]))
        refine GoOn.step (fun t₀ k₀ => XS.lload X19.here hx rfl (hb hby at_44) rfl k₀) ?_
        show GoOn p e below _ (T19.setTop (mkF m 46 #[.val (.int q0), .val (.long q1), .second, .val (.long q2), .second, .val (.long q3), .second, .val (.long q4), .second, .val (.long q5), .second, .val (.int k), .val (.ref u), .unset, .unset, .unset, .unset, .unset, .unset] [(.long q3), (.int (2 : Int32)), (.ref u)]))
        obtain ⟨T22, h22, X22, e22, W22, st22⟩ := kStJ X19 hx hZ e19 J_u (j := (2 : Int32)) ⟨by decide, by have := hk2.mp c2; have : (2 : Int32).toInt = 2 := (by decide); omega⟩ (g := (mkF m 46 #[.val (.int q0), .val (.long q1), .second, .val (.long q2), .second, .val (.long q3), .second, .val (.long q4), .second, .val (.long q5), .second, .val (.int k), .val (.ref u), .unset, .unset, .unset, .unset, .unset, .unset] [(.long q3), (.int (2 : Int32)), (.ref u)])) rfl rfl (hb hby at_46)
        replace N0 := Fr.snoc X22 N0 le_u
        replace J_u := J_u.set W22
        replace Z0 := Nat.le_trans Z0 (Nat.le_of_eq W22.size.symm)
        refine GoOn.step st22 ?_
        show GoOn p e below _ (T22.setTop (mkF m 47 #[.val (.int q0), .val (.long q1), .second, .val (.long q2), .second, .val (.long q3), .second, .val (.long q4), .second, .val (.long q5), .second, .val (.int k), .val (.ref u), .unset, .unset, .unset, .unset, .unset, .unset] []))
        exact Ju2 _ _ _ X22 e22 N0 Z0 (J_u.congr (fun j hj => own_u2 j)) 
      · refine GoOn.step (fun t₀ k₀ => XS.icmpYes X19.here hx rfl (pc0 := 38) (pc' := 47) rfl (hb hby at_38) rfl (flt c2).2.2.2 (by decide) (by decide) k₀) ?_
        show GoOn p e below _ (T19.setTop (mkF m 47 #[.val (.int q0), .val (.long q1), .second, .val (.long q2), .second, .val (.long q3), .second, .val (.long q4), .second, .val (.long q5), .second, .val (.int k), .val (.ref u), .unset, .unset, .unset, .unset, .unset, .unset] []))
        exact Ju2 _ _ _ X19 e19 N0 Z0 (J_u.congr (fun j hj => own_v2 j (by have := mt hk2.mpr c2; omega))) 
    by_cases c1 : (1 : Int32) < k
    · refine GoOn.step (fun t₀ k₀ => XS.icmpNo X17.here hx rfl (hb hby at_27) rfl (tlt c1).2.2.2 k₀) ?_
      show GoOn p e below _ (T17.setTop (mkF m 30 #[.val (.int q0), .val (.long q1), .second, .val (.long q2), .second, .val (.long q3), .second, .val (.long q4), .second, .val (.long q5), .second, .val (.int k), .val (.ref u), .unset, .unset, .unset, .unset, .unset, .unset] []))
      refine GoOn.step (fun t₀ k₀ => XS.aload X17.here hx rfl (hb hby at_30) rfl rfl k₀) ?_
      show GoOn p e below _ (T17.setTop (mkF m 32 #[.val (.int q0), .val (.long q1), .second, .val (.long q2), .second, .val (.long q3), .second, .val (.long q4), .second, .val (.long q5), .second, .val (.int k), .val (.ref u), .unset, .unset, .unset, .unset, .unset, .unset] [(.ref u)]))
      refine GoOn.step (fun t₀ k₀ => XS.iconst X17.here hx rfl (hb hby at_32) k₀) ?_
      show GoOn p e below _ (T17.setTop (mkF m 33 #[.val (.int q0), .val (.long q1), .second, .val (.long q2), .second, .val (.long q3), .second, .val (.long q4), .second, .val (.long q5), .second, .val (.int k), .val (.ref u), .unset, .unset, .unset, .unset, .unset, .unset] [(.int (1 : Int32)), (.ref u)]))
      refine GoOn.step (fun t₀ k₀ => XS.lloadN X17.here hx rfl (hb hby at_33) rfl k₀) ?_
      show GoOn p e below _ (T17.setTop (mkF m 34 #[.val (.int q0), .val (.long q1), .second, .val (.long q2), .second, .val (.long q3), .second, .val (.long q4), .second, .val (.long q5), .second, .val (.int k), .val (.ref u), .unset, .unset, .unset, .unset, .unset, .unset] [(.long q2), (.int (1 : Int32)), (.ref u)]))
      obtain ⟨T20, h20, X20, e20, W20, st20⟩ := kStJ X17 hx hZ e17 J_u (j := (1 : Int32)) ⟨by decide, by have := hk1.mp c1; have : (1 : Int32).toInt = 1 := (by decide); omega⟩ (g := (mkF m 34 #[.val (.int q0), .val (.long q1), .second, .val (.long q2), .second, .val (.long q3), .second, .val (.long q4), .second, .val (.long q5), .second, .val (.int k), .val (.ref u), .unset, .unset, .unset, .unset, .unset, .unset] [(.long q2), (.int (1 : Int32)), (.ref u)])) rfl rfl (hb hby at_34)
      replace N0 := Fr.snoc X20 N0 le_u
      replace J_u := J_u.set W20
      replace Z0 := Nat.le_trans Z0 (Nat.le_of_eq W20.size.symm)
      refine GoOn.step st20 ?_
      show GoOn p e below _ (T20.setTop (mkF m 35 #[.val (.int q0), .val (.long q1), .second, .val (.long q2), .second, .val (.long q3), .second, .val (.long q4), .second, .val (.long q5), .second, .val (.int k), .val (.ref u), .unset, .unset, .unset, .unset, .unset, .unset] []))
      exact Ju1 _ _ _ X20 e20 N0 Z0 (J_u.congr (fun j hj => own_u1 j)) 
    · refine GoOn.step (fun t₀ k₀ => XS.icmpYes X17.here hx rfl (pc0 := 27) (pc' := 35) rfl (hb hby at_27) rfl (flt c1).2.2.2 (by decide) (by decide) k₀) ?_
      show GoOn p e below _ (T17.setTop (mkF m 35 #[.val (.int q0), .val (.long q1), .second, .val (.long q2), .second, .val (.long q3), .second, .val (.long q4), .second, .val (.long q5), .second, .val (.int k), .val (.ref u), .unset, .unset, .unset, .unset, .unset, .unset] []))
      exact Ju1 _ _ _ X17 e17 N0 Z0 (J_u.congr (fun j hj => own_v1 j (by have := mt hk1.mpr c1; omega))) 
  by_cases c0 : (0 : Int32) < k
  · refine GoOn.step (fun t₀ k₀ => XS.ifNo X16.here hx rfl (hb hby at_16) rfl ((if0 _ _).trans (tlt c0).2.2.2) k₀) ?_
    show GoOn p e below _ (T16.setTop (mkF m 19 #[.val (.int q0), .val (.long q1), .second, .val (.long q2), .second, .val (.long q3), .second, .val (.long q4), .second, .val (.long q5), .second, .val (.int k), .val (.ref u), .unset, .unset, .unset, .unset, .unset, .unset] []))
    refine GoOn.step (fun t₀ k₀ => XS.aload X16.here hx rfl (hb hby at_19) rfl rfl k₀) ?_
    show GoOn p e below _ (T16.setTop (mkF m 21 #[.val (.int q0), .val (.long q1), .second, .val (.long q2), .second, .val (.long q3), .second, .val (.long q4), .second, .val (.long q5), .second, .val (.int k), .val (.ref u), .unset, .unset, .unset, .unset, .unset, .unset] [(.ref u)]))
    refine GoOn.step (fun t₀ k₀ => XS.iconst X16.here hx rfl (hb hby at_21) k₀) ?_
    show GoOn p e below _ (T16.setTop (mkF m 22 #[.val (.int q0), .val (.long q1), .second, .val (.long q2), .second, .val (.long q3), .second, .val (.long q4), .second, .val (.long q5), .second, .val (.int k), .val (.ref u), .unset, .unset, .unset, .unset, .unset, .unset] [(.int (0 : Int32)), (.ref u)]))
    refine GoOn.step (fun t₀ k₀ => XS.lloadN X16.here hx rfl (hb hby at_22) rfl k₀) ?_
    show GoOn p e below _ (T16.setTop (mkF m 23 #[.val (.int q0), .val (.long q1), .second, .val (.long q2), .second, .val (.long q3), .second, .val (.long q4), .second, .val (.long q5), .second, .val (.int k), .val (.ref u), .unset, .unset, .unset, .unset, .unset, .unset] [(.long q1), (.int (0 : Int32)), (.ref u)]))
    obtain ⟨T18, h18, X18, e18, W18, st18⟩ := kStJ X16 hx hZ e16 J_u (j := (0 : Int32)) ⟨by decide, by have := hk0.mp c0; have : (0 : Int32).toInt = 0 := (by decide); omega⟩ (g := (mkF m 23 #[.val (.int q0), .val (.long q1), .second, .val (.long q2), .second, .val (.long q3), .second, .val (.long q4), .second, .val (.long q5), .second, .val (.int k), .val (.ref u), .unset, .unset, .unset, .unset, .unset, .unset] [(.long q1), (.int (0 : Int32)), (.ref u)])) rfl rfl (hb hby at_23)
    replace N0 := Fr.snoc X18 N0 le_u
    replace J_u := J_u.set W18
    replace Z0 := Nat.le_trans Z0 (Nat.le_of_eq W18.size.symm)
    refine GoOn.step st18 ?_
    show GoOn p e below _ (T18.setTop (mkF m 24 #[.val (.int q0), .val (.long q1), .second, .val (.long q2), .second, .val (.long q3), .second, .val (.long q4), .second, .val (.long q5), .second, .val (.int k), .val (.ref u), .unset, .unset, .unset, .unset, .unset, .unset] []))
    exact Ju0 _ _ _ X18 e18 N0 Z0 (J_u.congr (fun j hj => own_u0 j)) 
  · refine GoOn.step (fun t₀ k₀ => XS.ifYes X16.here hx rfl (pc0 := 16) (pc' := 24) rfl (hb hby at_16) rfl ((if0 _ _).trans (flt c0).2.2.2) (by decide) (by decide) k₀) ?_
    show GoOn p e below _ (T16.setTop (mkF m 24 #[.val (.int q0), .val (.long q1), .second, .val (.long q2), .second, .val (.long q3), .second, .val (.long q4), .second, .val (.long q5), .second, .val (.int k), .val (.ref u), .unset, .unset, .unset, .unset, .unset, .unset] []))
    exact Ju0 _ _ _ X16 e16 N0 Z0 (J_u.congr (fun j hj => own_v0 j (by have := mt hk0.mpr c0; omega))) 
set_option maxRecDepth 65536 in
set_option maxHeartbeats 40000000 in
theorem comes_1 {Post : Tables → Env → Array Value → State → Outcome → State → Prop} (hpost : ∀ tb e args s v u, (limb_1_1.after args s (.returned v) u = true ∧ limb_1_2.after args s (.returned v) u = true ∧ True) → FrameEnd s (.returned v) u (Jvm.fieldLocs frame_1_writes args s ++ Jvm.arrayLocs frame_1_arrays args s ++ Jvm.staticLocs frame_1_statics s) 16 128 → Post tb e args s (.returned v) u) :
    ArmFor flags0 classFile x code maxLocals ret World_1 tables_1 room_1 Calls_1 rest_1 Pre_1 Post := by
  intro l hfl _ _ p e ha hc hk s m args below hf hA hF happ hP
  obtain ⟨hcalls, hrest, hpre⟩ := hP
  obtain ⟨-, -, -, hnamed, -, -, -, hat⟩ := (Spec.applies_iff hf).mp happ
  obtain ⟨hg, hn⟩ := and_e (Cond.before_iff.mp (show (Jvm.Cond.and given_1 narrow_1).before args s = true from hpre))
  obtain ⟨g0, r0⟩ := and_e hg
  obtain ⟨g1, r1⟩ := and_e r0
  obtain ⟨g2, r2⟩ := and_e r1
  obtain ⟨g3, r3⟩ := and_e r2
  obtain ⟨g4, r4⟩ := and_e r3
  obtain ⟨g5, r5⟩ := and_e r4
  obtain ⟨w0, w1, w2, w3, w4, w5, rfl⟩ : ∃ w0 w1 w2 w3 w4 w5 : Value, args = #[w0, w1, w2, w3, w4, w5] := by
    have hs : args.size = 6 := by simpa [Cond.value, given_1] using g0
    obtain ⟨L⟩ := args
    match L, hs with
    | [w0, w1, w2, w3, w4, w5], _ => exact ⟨w0, w1, w2, w3, w4, w5, rfl⟩
  have hw := fun d (hd : d ∈ tables_1) => atoms_spec (ws := Jvm.Cond.code x code maxLocals ret :: tables_1) hat d (List.mem_cons_of_mem _ hd)
  have hfit : Fit s := fun {y c} hc i hi => by
    obtain ⟨ha, rfl⟩ := Array.getElem?_eq_some_iff.mp hc
    have q := List.all_eq_true.mp ((Array.all_eq_true_iff_forall_mem.mp hF) _ (Array.getElem_mem ha)) i (List.mem_range.mpr hi)
    simpa [Array.getElem?_eq_getElem hi] using q
  obtain ⟨i0, ei0⟩ := is_v g1
  obtain rfl : w0 = (.int i0) := Option.some.inj ei0
  obtain ⟨i1, ei1⟩ := isL_v g2
  obtain rfl : w1 = (.long i1) := Option.some.inj ei1
  obtain ⟨i2, ei2⟩ := isL_v g3
  obtain rfl : w2 = (.long i2) := Option.some.inj ei2
  obtain ⟨i3, ei3⟩ := isL_v g4
  obtain rfl : w3 = (.long i3) := Option.some.inj ei3
  obtain ⟨i4, ei4⟩ := isL_v g5
  obtain rfl : w4 = (.long i4) := Option.some.inj ei4
  obtain ⟨i5, ei5⟩ := isL_v r5
  obtain rfl : w5 = (.long i5) := Option.some.inj ei5
  obtain ⟨n, o, h1, h2, h3, _, L, rfl, ⟨rfl, N⟩, hq⟩ := law_ok l s _ hw i0 i1 i2 i3 i4 i5 s.heap s.heap.size (Nat.le_refl _) tables_1 p e ha hc hk s m _ below hf ((Spec.applies_iff_loose hf).mp happ).1 ⟨rfl, State.Warmed39.refl s, rfl⟩ trivial
  refine ⟨n, _, h1, h2, h3, hpost _ _ _ _ _ _ ⟨Cond.after_iff.mpr rfl, Cond.after_iff.mpr (eq_i res_at (Term.int_eval (1)) rfl), trivial⟩ ⟨hq.1, hq.2.1, (hq.2.2.sift fun y hy => Or.inr (N y hy)).mono (by decide) (by decide)⟩⟩
theorem main_1_1 : Claimed_1_1 := comes_1 fun _ _ _ _ _ _ h hF => ⟨h.1, hF⟩
theorem main_1_2 : Claimed_1_2 := comes_1 fun _ _ _ _ _ _ h hF => ⟨h.2.1, hF⟩
end Jvm.Pilot.@@N@@
namespace Jvm.Pilot.@@N@@
open Jvm Jvm.ClassFile Sem Op Lib Jvm.Free Jvm.Stand Jvm.Pilot.@@N@@.Jvm.D
/-! MADE BY PROGRAM (witnessworld.py) out of the Statement's table words and the real class files: 11 classes; the members and pool entries that the words name. The judged class is class 1, her method 1. -/
namespace start1
open Jvm.ClassFile
def u (s : String) : CpInfo := .utf8 (stringToUtf16 s)
/-- a pool by its gaps: so many unusable entries, then the entry; so many at the end -/
def gap : Nat → List CpInfo → List CpInfo
  | 0, r => r
  | n + 1, r => .unusable :: gap n r
def poolList (es : List (Nat × CpInfo)) (last : Nat) : List CpInfo := es.foldr (fun e r => gap e.1 (e.2 :: r)) (gap last [])
def pool (es : List (Nat × CpInfo)) (last : Nat) : Array CpInfo := ⟨poolList es last⟩
def fileOf (pool : Array CpInfo) (this : Nat) (attrs : Array Attribute := #[]) (ms : Array MethodInfo := #[]) (fl : Nat := 33) (sup : Nat := 0) (ifs : Array Nat := #[]) (fds : Array FieldInfo := #[]) : ClassFile where
  minorVersion := 0
  majorVersion := 65
  constantPool := pool
  accessFlags := fl
  thisClass := this
  superClass := sup
  interfaces := ifs
  fields := fds
  methods := ms
  attributes := attrs
def plain (name : String) (sup : Option ClassId) : Class where
  name := name
  kind := .ordinary
  loader := none
  accessFlags := 33
  super := sup
  interfaces := #[]
  cf := none
  fields := #[]
  methods := #[]
  instanceTypes := #[]
  staticTypes := #[]
  resolved := #[]
  callSites := []
  init := .initialized
  statics := none
  mirror := none

def pool0 : Array CpInfo := pool [(5, u "<init>"), (0, u "()V"), (1, .class_ 10), (1, u "java/lang/Object")] 113

def k0c0 : Code := { maxStack := 0, maxLocals := 1, code := object_method_1_code, exceptionTable := #[], attributes := #[] }
def k0m0 : Method := { name := "<init>", desc := "()V", sig := { parameters := [], returnType := none }, accessFlags := 1, code := some k0c0 }
/-- java/lang/Object -/
def k0 : Class := { plain "java/lang/Object" none with
  accessFlags := 33
  interfaces := #[]
  cf := some (fileOf pool0 8 #[] #[{ accessFlags := 1, nameIndex := 5, descriptorIndex := 6, attributes := #[] }] 33 0 #[] #[])
  fields := #[]
  methods := #[k0m0]
  instanceTypes := #[]
  staticTypes := #[]
  resolved := Array.replicate 124 none
  statics := none }

def pool1 : Array CpInfo := pool [(2, .class_ 4), (1, u "java/lang/Object"), (0, u "<init>"), (0, u "()V"), (0, .integer 2147483647), (0, .class_ 9), (0, u "com/example/treesack/treesack/core/Solution"), (0, .methodref 8 11), (0, .nameAndType 5 12), (0, u "(J[J)V"), (0, .methodref 8 14), (0, .nameAndType 15 16), (0, u "takenNodes"), (0, u "()[I"), (0, .methodref 8 18), (0, .nameAndType 19 20), (0, u "value"), (0, u "()J"), (0, .class_ 22), (0, u "com/example/treesack/treesack/core/SolutionTakenNodesPinLaw"), (2, u "law"), (0, u "(IJJJJJ)Z")] 7

def k1m0 : Method := { name := "<init>", desc := "()V", sig := { parameters := [], returnType := none }, accessFlags := 1, code := none }
def k1c1 : Code := { maxStack := 5, maxLocals := 19, code := code, exceptionTable := #[], attributes := #[] }
def k1m1 : Method := { name := "law", desc := "(IJJJJJ)Z", sig := { parameters := [.int, .long, .long, .long, .long, .long], returnType := some .boolean }, accessFlags := 9, code := some k1c1 }
/-- com/example/treesack/treesack/core/SolutionTakenNodesPinLaw -/
def k1 : Class := { plain "com/example/treesack/treesack/core/SolutionTakenNodesPinLaw" (some 0) with
  accessFlags := 49
  interfaces := #[]
  cf := some (fileOf pool1 21 #[] #[{ accessFlags := 1, nameIndex := 5, descriptorIndex := 6, attributes := #[] }, { accessFlags := 9, nameIndex := 25, descriptorIndex := 26, attributes := #[] }] 49 2 #[] #[])
  fields := #[]
  methods := #[k1m0, k1m1]
  instanceTypes := #[]
  staticTypes := #[]
  resolved := Array.replicate 34 none
  statics := none }

def pool2 : Array CpInfo := pool [(1, .methodref 2 3), (0, .class_ 4), (0, .nameAndType 5 6), (0, u "java/lang/Object"), (0, u "<init>"), (0, u "()V"), (0, .fieldref 8 9), (0, .class_ 10), (0, .nameAndType 11 12), (0, u "com/example/treesack/treesack/core/Solution"), (0, u "value"), (0, u "J"), (0, .fieldref 8 14), (0, .nameAndType 15 16), (0, u "uses"), (0, u "[J"), (10, u "(J[J)V"), (2, u "()J"), (1, u "takenNodes"), (0, u "()[I")] 22

def k2c0 : Code := { maxStack := 3, maxLocals := 4, code := prog_56_method_1_code, exceptionTable := #[], attributes := #[] }
def k2m0 : Method := { name := "<init>", desc := "(J[J)V", sig := { parameters := [.long, (.array .long)], returnType := none }, accessFlags := 0, code := some k2c0 }
def k2c1 : Code := { maxStack := 2, maxLocals := 1, code := prog_56_method_2_code, exceptionTable := #[], attributes := #[] }
def k2m1 : Method := { name := "value", desc := "()J", sig := { parameters := [], returnType := some .long }, accessFlags := 1, code := some k2c1 }
def k2c2 : Code := { maxStack := 4, maxLocals := 7, code := prog_56_method_4_code, exceptionTable := #[], attributes := #[] }
def k2m2 : Method := { name := "takenNodes", desc := "()[I", sig := { parameters := [], returnType := some (.array .int) }, accessFlags := 1, code := some k2c2 }
/-- com/example/treesack/treesack/core/Solution -/
def k2 : Class := { plain "com/example/treesack/treesack/core/Solution" (some 0) with
  accessFlags := 33
  interfaces := #[]
  cf := some (fileOf pool2 8 #[] #[{ accessFlags := 0, nameIndex := 5, descriptorIndex := 27, attributes := #[] }, { accessFlags := 1, nameIndex := 11, descriptorIndex := 30, attributes := #[] }, { accessFlags := 1, nameIndex := 32, descriptorIndex := 33, attributes := #[] }] 33 2 #[] #[{ accessFlags := 18, nameIndex := 11, descriptorIndex := 12, attributes := #[] }, { accessFlags := 18, nameIndex := 15, descriptorIndex := 16, attributes := #[] }])
  fields := #[{ name := "value", type := .long, accessFlags := 18, slot := 0, constantValue := 0 }, { name := "uses", type := (.array .long), accessFlags := 18, slot := 1, constantValue := 0 }]
  methods := #[k2m0, k2m1, k2m2]
  instanceTypes := #[.long, (.array .long)]
  staticTypes := #[]
  resolved := Array.replicate 56 none
  statics := none }

def pool3 : Array CpInfo := pool [(1, u "java/lang/Cloneable"), (0, .class_ 1), (0, u "java/lang/Object"), (0, .class_ 3)] 3

/-- java/lang/Cloneable -/
def k3 : Class := { plain "java/lang/Cloneable" (some 0) with
  accessFlags := 1537
  interfaces := #[]
  cf := some (fileOf pool3 2 #[] #[] 1537 4 #[] #[])
  fields := #[]
  methods := #[]
  instanceTypes := #[]
  staticTypes := #[]
  resolved := Array.replicate 8 none
  statics := none }

def pool4 : Array CpInfo := pool [(1, u "java/io/Serializable"), (0, .class_ 1), (0, u "java/lang/Object"), (0, .class_ 3)] 3

/-- java/io/Serializable -/
def k4 : Class := { plain "java/io/Serializable" (some 0) with
  accessFlags := 1537
  interfaces := #[]
  cf := some (fileOf pool4 2 #[] #[] 1537 4 #[] #[])
  fields := #[]
  methods := #[]
  instanceTypes := #[]
  staticTypes := #[]
  resolved := Array.replicate 8 none
  statics := none }

/-- the primitive byte -/
def k5 : Class := { plain "byte" none with kind := .primitive 'B', accessFlags := 0x411 }
/-- [B -/
def k6 : Class := { plain "[B" (some 0) with kind := .array 5 .byte, interfaces := #[3, 4], accessFlags := 1041 }

/-- the primitive int -/
def k7 : Class := { plain "int" none with kind := .primitive 'I', accessFlags := 0x411 }
/-- [I -/
def k8 : Class := { plain "[I" (some 0) with kind := .array 7 .int, interfaces := #[3, 4], accessFlags := 1041 }

/-- the primitive long -/
def k9 : Class := { plain "long" none with kind := .primitive 'J', accessFlags := 0x411 }
/-- [J -/
def k10 : Class := { plain "[J" (some 0) with kind := .array 9 .long, interfaces := #[3, 4], accessFlags := 1041 }

def heap : Heap := #[]
def classes : Array Class := #[k0, k1, k2, k3, k4, k5, k6, k7, k8, k9, k10]
def interned : List (Array UInt16 × Addr) := []
def slotsUsed : Nat := 0
def theMethod : MethodId := ⟨1, 1⟩
def args0 : Array Value := #[.int 3, .long 50, .long 7, .long 2, .long 3, .long 6]
def aboutOver (below : List Frame) : State where
  vm := { classes := classes, interned := interned.toArray }
  heap := heap
  slotsUsed := slotsUsed
  threads := #[{ frames := .invoking theMethod args0 :: below }]
def below0 : List Frame := [.native { method := ⟨0, 0⟩, args := #[] }]
def about1 : State := aboutOver below0
def p0 : Program := .bare "" "" ""
def e0 : Env := launch0.env 0 0 0
theorem w_frames : about1.frames = Frame.invoking theMethod args0 :: below0 := rfl
set_option maxRecDepth 65536 in
theorem w_args : argsFit about1.vm theMethod args0 = true := by decide +kernel
set_option maxRecDepth 65536 in
theorem w_heap : heapFits about1 = true := by decide +kernel
set_option maxRecDepth 65536 in
theorem w_runnable : about1.curStatus? = some .runnable := by decide +kernel
set_option maxRecDepth 65536 in
theorem w_alone : about1.alone = true := by decide +kernel
set_option maxRecDepth 65536 in
theorem w_named : about1.methodNamed? x = some theMethod := by decide +kernel
set_option maxRecDepth 65536 in
theorem w_hears : about1.hears theMethod below0 = true := by decide +kernel
set_option maxRecDepth 65536 in
theorem w_ripe : about1.ripe theMethod args0 below0 = true := by decide +kernel
theorem w_running : about1.status = .running := rfl
set_option maxRecDepth 65536 in
theorem w_room : about1.hasRoom e0.platform room_1 = true :=
  launch0.hasRoom_least _ room_1 (by decide +kernel) (by decide +kernel) (by decide +kernel) (by decide +kernel) (by decide +kernel) (by decide +kernel)
theorem allAtoms_all (ts : List Jvm.Cond) (a : Array Jvm.Value) (st : Jvm.State) : (allAtoms ts).before a st = ts.all (fun c => c.before a st) := by
  induction ts with
  | nil => rfl
  | cons c t ih =>
    show (Jvm.Cond.and c (allAtoms t)).before a st = _
    rw [Jvm.Cond.before_and, ih, List.all_cons]
def words1 : List Jvm.Cond := Jvm.Cond.code x code maxLocals ret :: tables_1
/-- a 'code' word, met by the world's own term for the bytes: nothing is compared byte by byte -/
theorem code_word {y : MethodName} {bytes : ByteArray} {mx : Nat} {rt : Option FieldType} {a : Array Value} {s : State} {m : MethodId} {meth : Method} {c : Code} (h1 : s.methodNamed? y = some m) (h2 : s.vm.method? m = some meth) (h3 : meth.code = some c) (h4 : c.code = bytes)
    (h5 : (c.maxLocals == mx && c.exceptionTable.isEmpty && decide (c.maxStack ≤ mostOperands) && decide (meth.sig.returnType = rt) && !meth.locks && decide (parseMethodDescriptor y.desc = some meth.sig)) = true) : (Jvm.Cond.code y bytes mx rt).before a s = true := by
  simp only [Bool.and_eq_true, beq_iff_eq, Bool.not_eq_true', decide_eq_true_eq] at h5
  obtain ⟨⟨⟨⟨⟨g1, g2⟩, g3⟩, g4⟩, g5⟩, g6⟩ := h5
  simp [Cond.before, Cond.holds, Cond.value, h1, h2, h3, h4, g1, g2, g3, g4, g5, g6]
def isCode : Jvm.Cond → Bool
  | .code _ _ _ _ => true
  | _ => false
theorem all_split {L : List Jvm.Cond} {P : Jvm.Cond → Bool} (h1 : L.all (fun c => isCode c || P c) = true) (h2 : ∀ c ∈ L.filter isCode, P c = true) : L.all P = true := by
  refine List.all_eq_true.mpr fun c hc => ?_
  have h := List.all_eq_true.mp h1 c hc
  rcases Bool.eq_false_or_eq_true (isCode c) with hi | hi
  · exact h2 c (List.mem_filter.mpr ⟨hc, hi⟩)
  · simpa [hi] using h
set_option maxRecDepth 65536 in
theorem w_c0 : (Jvm.Cond.code x code maxLocals ret).before args0 about1 = true := code_word (m := ⟨1, 1⟩) (meth := k1m1) (c := k1c1) (by decide +kernel) rfl rfl rfl (by decide +kernel)
set_option maxRecDepth 65536 in
theorem w_c1 : (Jvm.Cond.code ({ cls := "com/example/treesack/treesack/core/Solution", name := "<init>", desc := "(J[J)V" } : Jvm.MethodName) prog_56_method_1_code (4 : Nat) (Option.none : Option Jvm.ClassFile.FieldType)).before args0 about1 = true := code_word (m := ⟨2, 0⟩) (meth := k2m0) (c := k2c0) (by decide +kernel) rfl rfl rfl (by decide +kernel)
set_option maxRecDepth 65536 in
theorem w_c2 : (Jvm.Cond.code ({ cls := "java/lang/Object", name := "<init>", desc := "()V" } : Jvm.MethodName) object_method_1_code (1 : Nat) (Option.none : Option Jvm.ClassFile.FieldType)).before args0 about1 = true := code_word (m := ⟨0, 0⟩) (meth := k0m0) (c := k0c0) (by decide +kernel) rfl rfl rfl (by decide +kernel)
set_option maxRecDepth 65536 in
theorem w_c3 : (Jvm.Cond.code ({ cls := "com/example/treesack/treesack/core/Solution", name := "takenNodes", desc := "()[I" } : Jvm.MethodName) prog_56_method_4_code (7 : Nat) (Option.some (Jvm.ClassFile.FieldType.array Jvm.ClassFile.FieldType.int))).before args0 about1 = true := code_word (m := ⟨2, 2⟩) (meth := k2m2) (c := k2c2) (by decide +kernel) rfl rfl rfl (by decide +kernel)
set_option maxRecDepth 65536 in
theorem w_c4 : (Jvm.Cond.code ({ cls := "com/example/treesack/treesack/core/Solution", name := "value", desc := "()J" } : Jvm.MethodName) prog_56_method_2_code (1 : Nat) (Option.some Jvm.ClassFile.FieldType.long)).before args0 about1 = true := code_word (m := ⟨2, 1⟩) (meth := k2m1) (c := k2c1) (by decide +kernel) rfl rfl rfl (by decide +kernel)
def codes1 : List Jvm.Cond := [Jvm.Cond.code x code maxLocals ret, Jvm.Cond.code ({ cls := "com/example/treesack/treesack/core/Solution", name := "<init>", desc := "(J[J)V" } : Jvm.MethodName) prog_56_method_1_code (4 : Nat) (Option.none : Option Jvm.ClassFile.FieldType), Jvm.Cond.code ({ cls := "java/lang/Object", name := "<init>", desc := "()V" } : Jvm.MethodName) object_method_1_code (1 : Nat) (Option.none : Option Jvm.ClassFile.FieldType), Jvm.Cond.code ({ cls := "com/example/treesack/treesack/core/Solution", name := "takenNodes", desc := "()[I" } : Jvm.MethodName) prog_56_method_4_code (7 : Nat) (Option.some (Jvm.ClassFile.FieldType.array Jvm.ClassFile.FieldType.int)), Jvm.Cond.code ({ cls := "com/example/treesack/treesack/core/Solution", name := "value", desc := "()J" } : Jvm.MethodName) prog_56_method_2_code (1 : Nat) (Option.some Jvm.ClassFile.FieldType.long)]
set_option maxRecDepth 65536 in
theorem codes_eq : words1.filter isCode = codes1 := rfl
theorem w_codes : ∀ c ∈ words1.filter isCode, c.before args0 about1 = true := by
  rw [codes_eq]
  intro c hc
  simp only [codes1, List.mem_cons, List.not_mem_nil, or_false] at hc
  rcases hc with rfl | rfl | rfl | rfl | rfl
  · exact w_c0
  · exact w_c1
  · exact w_c2
  · exact w_c3
  · exact w_c4
set_option maxRecDepth 65536 in
theorem w_t1 : (words1.take 24).all (fun c => isCode c || c.before args0 about1) = true := by decide +kernel
set_option maxRecDepth 65536 in
theorem w_t2 : (words1.drop 24).all (fun c => isCode c || c.before args0 about1) = true := by decide +kernel
theorem w_tables : (allAtoms (Jvm.Cond.code x code maxLocals ret :: tables_1)).before args0 about1 = true := by
  rw [allAtoms_all]
  show words1.all (fun c => c.before args0 about1) = true
  refine all_split ?_ w_codes
  rw [← List.take_append_drop 24 words1, List.all_append, w_t1, w_t2]
  rfl
set_option maxRecDepth 65536 in
theorem w_case : (Jvm.Cond.and given_1 narrow_1).before args0 about1 = true := by decide +kernel
theorem w_applies : (headSpec (Jvm.Cond.code x code maxLocals ret :: tables_1) room_1).applies x e0.platform about1 = true :=
  (Spec.applies_iff w_frames).mpr ⟨w_running, w_runnable, w_alone, w_named, w_hears, w_ripe, w_room, w_tables⟩
theorem atStart : AtStart classFile x code maxLocals ret World_1 tables_1 room_1 Calls_1 rest_1 Pre_1 launch0 p0 e0 about1 theMethod args0 below0 :=
  ⟨lists_1, trivial, launch0.admits_env _ _ _, launch0.least_env, fairChoices_fair.cas, fairChoices_fair.clock, w_frames, w_args, w_heap, w_applies, trivial, trivial, w_case⟩
end start1
theorem witness_1 : WitnessClaimed_1 := ⟨start1.p0, start1.e0, start1.about1, start1.theMethod, start1.args0, start1.below0, start1.atStart⟩
end Jvm.Pilot.@@N@@
