import JvmDerived
import JvmDerived.Pilot.@@N@@Statement
import JvmDerived.Pilot.@@N@@Code
set_option linter.unusedVariables false
set_option linter.unusedSimpArgs false
namespace Jvm.Pilot.@@N@@
open Jvm Jvm.ClassFile Sem Op Lib Jvm.Free Jvm.Stand Jvm.LawKit Jvm.RoadKit Bundle Jvm.Pilot.@@N@@.Jvm.D
/-! ## own kit: a walk in continuation style over the library's steps -/
section OwnKit
variable {p : Program} {l : Launch} {e : Env} {R : Room} {s : State} {m : MethodId} {args : Array Value} {below : List Frame} {meth : Method} {c : Code} {T : State} {locs : List Loc} {cells slots : Nat} {Z : State} {a0 : Array Value} {h h' : Heap}
/-- from U the run ends, and then E holds -/
def GoOn (p : Program) (e : Env) (below : List Frame) (E : State → Outcome → Prop) (U : State) : Prop :=
  ∃ t o, Steps p.tables e below U t ∧ t.status = .running ∧ Ended t below o ∧ E t o
theorem GoOn.step {E : State → Outcome → Prop} {U U' : State} (hs : ∀ t, Steps p.tables e below U' t → Steps p.tables e below U t) (g : GoOn p e below E U') : GoOn p e below E U := by
  obtain ⟨t, o, h1, h2⟩ := g
  exact ⟨t, o, hs _ h1, h2⟩
/-- how a body ends: what it returns, its heap, the places that it wrote -/
abbrev EndQ (s : State) (rm : Room) (Q : Option Value → Heap → List Loc → Prop) : State → Outcome → Prop :=
  fun U o => ∃ v L, o = .returned v ∧ Q v U.heap L ∧ FrameEnd s o U L rm.cells rm.slots
/-- a body's contract at one array of arguments and one heap -/
def Con (l : Launch) (Z : State) (y : MethodName) (bytes : ByteArray) (mx : Nat) (rt : Option FieldType) (rm : Room) (as : Array Value) (h : Heap) (Q : Option Value → Heap → List Loc → Prop) : Prop :=
  ∀ ws : List Jvm.Cond, MetFree l y (head1 (Jvm.Cond.code y bytes mx rt :: ws) rm) (fun a U => a = as ∧ Z.Warmed39 U.vm ∧ U.heap = h) (fun _ _ _ _ _ => True) (fun _ U o U' => ∃ v L, o = .returned v ∧ Q v U'.heap L ∧ FrameEnd U o U' L rm.cells rm.slots)
theorem Con.intro {y : MethodName} {bytes : ByteArray} {mx : Nat} {rt : Option FieldType} {rm : Room} {as : Array Value} {Q : Option Value → Heap → List Loc → Prop} (hp : plainFor y = true)
    (body : ∀ (p : Program) (e : Env) (s : State) (m : MethodId) (below : List Frame) (meth : Method) (c : Code) (s₁ : State), p.tables.exec = Jvm.exec → c.code = bytes → c.maxLocals = mx → meth.sig.returnType = rt → meth.locks = false → Z.Warmed39 s.vm → s.vm.findClass y.cls = some m.cls → meth.name = y.name →
      Stand p l e rm s m as below meth c s₁ [] 0 0 → s₁.heap = h → GoOn p e below (EndQ s rm Q) (s₁.setTop (entryFrame m as mx))) : Con l Z y bytes mx rt rm as h Q := fun ws => by
  refine MetFree.of_bodySF hp hisR ?_
  intro p e s m args below meth c s₁ Bd hml0 hP hK
  obtain ⟨rfl, hZ, hh⟩ := hP
  have X0 : Stand p l e rm s m args below meth c s₁ [] 0 0 := Stand.of_body Bd
  obtain ⟨t, o, h1, h2, h3, h4⟩ := body p e s m below meth c s₁ Bd.exec Bd.bytes hml0 Bd.returns Bd.notSynchronized hZ (findClass_of_methodNamed Bd.named) (name_of_methodNamed Bd.named Bd.method).1 X0 (by rw [← hh, Bd.state]; rfl)
  exact ⟨t, o, h1, h2, h3, h4⟩
theorem GoOn.cast {E : State → Outcome → Prop} {g g' : JFrame} (q : g = g') (k : GoOn p e below E (T.setTop g')) : GoOn p e below E (T.setTop g) := q ▸ k
theorem GoOn.retI (X : Stand p l e R s m args below meth c T locs cells slots) (hx : p.tables.exec = Jvm.exec) (hrt : meth.sig.returnType = some .int) (hlk : meth.locks = false) {rm : Room} {Q : Option Value → Heap → List Loc → Prop} {pc : Nat} {Ls : Array Slot} {z : Int32} {rest : List Value}
    (hd : decode c.code pc = .ok (.ireturn, 1)) (hc : cells ≤ rm.cells) (hs : slots ≤ rm.slots) (hQ : Q (some (.int z)) T.heap locs) : GoOn p e below (EndQ s rm Q) (T.setTop (mkF m pc Ls (.int z :: rest))) := by
  obtain ⟨fs, hr, hrun, hended, hW, hsame⟩ := X.leave (v := some (.int z)) (fun h => by rw [hrt] at h; cases h) hlk
  exact ⟨_, _, Jvm.RoadKit.retOut X hx hrt rfl (Or.inl ⟨rfl, Or.inl rfl, _, rfl⟩) hd hr, hrun, hended, _, _, rfl, hQ, ⟨_, rfl⟩, hW, hsame.mono hc hs⟩
theorem GoOn.retN (X : Stand p l e R s m args below meth c T locs cells slots) (hx : p.tables.exec = Jvm.exec) {t : FieldType} (hrt : meth.sig.returnType = some t) (hlk : meth.locks = false) {rm : Room} {Q : Option Value → Heap → List Loc → Prop} {pc : Nat} {Ls : Array Slot} {z : Int32} {rest : List Value} (ht : t = .boolean ∨ t = .byte ∨ t = .char ∨ t = .short)
    (hd : decode c.code pc = .ok (.ireturn, 1)) (hc : cells ≤ rm.cells) (hs : slots ≤ rm.slots) (hQ : Q (some (.int (nar t z))) T.heap locs) : GoOn p e below (EndQ s rm Q) (T.setTop (mkF m pc Ls (.int z :: rest))) := by
  obtain ⟨fs, hr, hrun, hended, hW, hsame⟩ := X.leave (v := some (.int (nar t z))) (fun h => by rw [hrt] at h; cases h) hlk
  exact ⟨_, _, Jvm.RoadKit.retN X hx hrt ht hd hr, hrun, hended, _, _, rfl, hQ, ⟨_, rfl⟩, hW, hsame.mono hc hs⟩
theorem GoOn.retJ (X : Stand p l e R s m args below meth c T locs cells slots) (hx : p.tables.exec = Jvm.exec) (hrt : meth.sig.returnType = some .long) (hlk : meth.locks = false) {rm : Room} {Q : Option Value → Heap → List Loc → Prop} {pc : Nat} {Ls : Array Slot} {z : Int64} {rest : List Value}
    (hd : decode c.code pc = .ok (.lreturn, 1)) (hc : cells ≤ rm.cells) (hs : slots ≤ rm.slots) (hQ : Q (some (.long z)) T.heap locs) : GoOn p e below (EndQ s rm Q) (T.setTop (mkF m pc Ls (.long z :: rest))) := by
  obtain ⟨fs, hr, hrun, hended, hW, hsame⟩ := X.leave (v := some (.long z)) (fun h => by rw [hrt] at h; cases h) hlk
  exact ⟨_, _, Jvm.RoadKit.retOut X hx hrt rfl (Or.inr (Or.inl ⟨rfl, rfl, _, rfl⟩)) hd hr, hrun, hended, _, _, rfl, hQ, ⟨_, rfl⟩, hW, hsame.mono hc hs⟩
theorem GoOn.retR (X : Stand p l e R s m args below meth c T locs cells slots) (hx : p.tables.exec = Jvm.exec) {t : FieldType} (hrt : meth.sig.returnType = some t) (htr : t.isReference = true) (hlk : meth.locks = false) {rm : Room} {Q : Option Value → Heap → List Loc → Prop} {pc : Nat} {Ls : Array Slot} {z : Value} (hz : z.isRef = true) {rest : List Value}
    (hd : decode c.code pc = .ok (.areturn, 1)) (hc : cells ≤ rm.cells) (hs : slots ≤ rm.slots) (hQ : Q (some z) T.heap locs) : GoOn p e below (EndQ s rm Q) (T.setTop (mkF m pc Ls (z :: rest))) := by
  obtain ⟨fs, hr, hrun, hended, hW, hsame⟩ := X.leave (v := some z) (fun h => by rw [hrt] at h; cases h) hlk
  refine ⟨_, _, Jvm.RoadKit.retOut X hx hrt ?_ (Or.inr (Or.inr (Or.inr (Or.inr ⟨rfl, htr, hz⟩)))) hd hr, hrun, hended, _, _, rfl, hQ, ⟨_, rfl⟩, hW, hsame.mono hc hs⟩
  cases z <;> first | (cases t <;> rfl) | (simp [Value.isRef] at hz)
theorem GoOn.ret0 (X : Stand p l e R s m args below meth c T locs cells slots) (hx : p.tables.exec = Jvm.exec) (hrt : meth.sig.returnType = none) (hlk : meth.locks = false) {rm : Room} {Q : Option Value → Heap → List Loc → Prop} {pc : Nat} {Ls : Array Slot}
    (hd : decode c.code pc = .ok (.return_, 1)) (hc : cells ≤ rm.cells) (hs : slots ≤ rm.slots) (hQ : Q none T.heap locs) : GoOn p e below (EndQ s rm Q) (T.setTop (mkF m pc Ls [])) := by
  obtain ⟨fs, hr, hrun, hended, hW, hsame⟩ := X.leave (v := none) (fun _ => rfl) hlk
  exact ⟨_, _, X.returnOut hx hrt hd hr, hrun, hended, _, _, rfl, hQ, ⟨_, rfl⟩, hW, hsame.mono hc hs⟩
/-- a static call by its contract -/
theorem kCallS (X : Stand p l e R s m args below meth c T locs cells slots) (hx : p.tables.exec = Jvm.exec) (hZ : Z.Warmed39 s.vm) {own : String} {index : Nat} {y : MethodName} {bytes : ByteArray} {mx : Nat} {rt : Option FieldType} {rm : Room} {Q : Option Value → Heap → List Loc → Prop} {argsL rest : List Value}
    (K : Con l Z y bytes mx rt rm argsL.toArray h Q) (hown : s.vm.findClass own = some m.cls) (w1 : (Jvm.Cond.methodLink own index y).before a0 Z = true) (w2 : (Jvm.Cond.static y).before a0 Z = true) (w3 : (Jvm.Cond.initialized y.cls).before a0 Z = true) (w4 : (Jvm.Cond.code y bytes mx rt).before a0 Z = true)
    (hy : y.cls ≠ "java/lang/invoke/MethodHandle" ∧ y.cls ≠ "java/lang/invoke/VarHandle") (eT : T.heap = h) {g : JFrame} (hg : g.method = m) (hsize : g.locals.size = c.maxLocals) (hlen : ∀ sig, parseMethodDescriptor y.desc = some sig → argsL.length = sig.parameters.length) (hstack : g.stack = argsL.reverse ++ rest)
    {W : Nat} (hW : 2 * g.monitorRoom + (rest.map fun v => v.category).sum ≤ W) (hd : decode c.code g.pc = .ok (.invokestatic index, 3)) (hf : rm.frames + 1 ≤ R.frames) (hl : W + (mx + 11) + rm.locals ≤ R.locals) (hc : cells + rm.cells ≤ R.cells) (hs : slots + rm.slots ≤ R.slots) :
    ∃ v T' L, Stand p l e R s m args below meth c T' (locs ++ L) (cells + rm.cells) (slots + rm.slots) ∧ Q v T'.heap L ∧ ∀ target, Steps p.tables e below (T'.setTop { g with pc := g.pc + 3, stack := v.toList ++ rest }) target → Steps p.tables e below (T.setTop g) target := by
  obtain ⟨v, _, ⟨T', L', k', n'⟩, -, X', ⟨L, hQ, l1, l2, l3⟩, st⟩ := Jvm.LawKit.callS X hx (y := y) hown (mvT hZ w1) (mvT hZ w2) (mvT hZ w3) (mvT hZ w4) hy (backOf (W := W) (K []) hZ w4 w3 hf hl) hg hsize hlen hstack hW hd (fun _ _ => ⟨rfl, eT, hc, hs⟩)
  dsimp only [Pt.U, Pt.locs, Pt.cells, Pt.slots] at X' l1 l2 l3 hQ st
  subst l1 l2 l3
  exact ⟨v, T', L, X', hQ, fun t k => st _ k⟩
/-- a constructor by its contract -/
theorem kCallI (X : Stand p l e R s m args below meth c T locs cells slots) (hx : p.tables.exec = Jvm.exec) (hZ : Z.Warmed39 s.vm) {own : String} {index : Nat} {y : MethodName} {bytes : ByteArray} {mx : Nat} {rm : Room} {Q : Option Value → Heap → List Loc → Prop} {a : Addr} {argsL rest : List Value}
    (K : Con l Z y bytes mx none rm (.ref a :: argsL).toArray h Q) (hy1 : y.name = "<init>") (hown : s.vm.findClass own = some m.cls) (w1 : (Jvm.Cond.methodLink own index y).before a0 Z = true) (w2 : (Jvm.Cond.instanceMethod y).before a0 Z = true) (w3 : (Jvm.Cond.initialized y.cls).before a0 Z = true) (w4 : (Jvm.Cond.code y bytes mx none).before a0 Z = true)
    (hy : y.cls ≠ "java/lang/invoke/MethodHandle" ∧ y.cls ≠ "java/lang/invoke/VarHandle") (eT : T.heap = h) {g : JFrame} (hg : g.method = m) (hsize : g.locals.size = c.maxLocals) (hlen : ∀ sig, parseMethodDescriptor y.desc = some sig → argsL.length = sig.parameters.length) (hstack : g.stack = argsL.reverse ++ .ref a :: rest)
    {W : Nat} (hW : 2 * g.monitorRoom + (rest.map fun v => v.category).sum ≤ W) (hd : decode c.code g.pc = .ok (.invokespecial index, 3)) (hf : rm.frames + 1 ≤ R.frames) (hl : W + (mx + 11) + rm.locals ≤ R.locals) (hc : cells + rm.cells ≤ R.cells) (hs : slots + rm.slots ≤ R.slots) :
    ∃ v T' L, Stand p l e R s m args below meth c T' (locs ++ L) (cells + rm.cells) (slots + rm.slots) ∧ Q v T'.heap L ∧ ∀ target, Steps p.tables e below (T'.setTop { g with pc := g.pc + 3, stack := v.toList ++ rest }) target → Steps p.tables e below (T.setTop g) target := by
  obtain ⟨v, _, ⟨T', L', k', n'⟩, -, X', ⟨L, hQ, l1, l2, l3⟩, st⟩ := X.specialBack hx (y := y) hy1 hown (mvT hZ w1) (mvT hZ w2) (mvT hZ w4) hy (backOf (W := W) (K []) hZ w4 w3 hf hl) hg hsize (Steps.refl _) (a := a) hlen hstack hW hd (fun _ _ => ⟨rfl, eT, hc, hs⟩)
  dsimp only [Pt.U, Pt.locs, Pt.cells, Pt.slots] at X' l1 l2 l3 hQ st
  subst l1 l2 l3
  exact ⟨v, T', L, X', hQ, fun t k => st.trans k⟩
/-- an instance method by its contract, on an object of that very class -/
theorem kCallV (X : Stand p l e R s m args below meth c T locs cells slots) (hx : p.tables.exec = Jvm.exec) (hZ : Z.Warmed39 s.vm) {own C : String} {index : Nat} {y z : MethodName} {bytes : ByteArray} {mx : Nat} {rt : Option FieldType} {rm : Room} {Q : Option Value → Heap → List Loc → Prop} {a : Addr} {argsL rest : List Value}
    (K : Con l Z z bytes mx rt rm (.ref a :: argsL).toArray h Q) (hown : s.vm.findClass own = some m.cls) (w1 : (Jvm.Cond.methodLink own index y).before a0 Z = true) (wd : (Jvm.Cond.declares y).before a0 Z = true) (hnf : NotFace s y) (ws : (Jvm.Cond.selects C y z).before a0 Z = true) (w2 : (Jvm.Cond.instanceMethod z).before a0 Z = true) (w3 : (Jvm.Cond.initialized z.cls).before a0 Z = true) (w4 : (Jvm.Cond.code z bytes mx rt).before a0 Z = true)
    (hy : y.cls ≠ "java/lang/invoke/MethodHandle" ∧ y.cls ≠ "java/lang/invoke/VarHandle") (eT : T.heap = h) (E : Exa Z h a C) {g : JFrame} (hg : g.method = m) (hsize : g.locals.size = c.maxLocals) (hlen : ∀ sig, parseMethodDescriptor y.desc = some sig → argsL.length = sig.parameters.length) (hstack : g.stack = argsL.reverse ++ .ref a :: rest)
    {W : Nat} (hW : 2 * g.monitorRoom + (rest.map fun v => v.category).sum ≤ W) (hd : decode c.code g.pc = .ok (.invokevirtual index, 3)) (hf : rm.frames + 1 ≤ R.frames) (hl : W + (mx + 11) + rm.locals ≤ R.locals) (hc : cells + rm.cells ≤ R.cells) (hs : slots + rm.slots ≤ R.slots) :
    ∃ v T' L, Stand p l e R s m args below meth c T' (locs ++ L) (cells + rm.cells) (slots + rm.slots) ∧ Q v T'.heap L ∧ ∀ target, Steps p.tables e below (T'.setTop { g with pc := g.pc + 3, stack := v.toList ++ rest }) target → Steps p.tables e below (T.setTop g) target := by
  obtain ⟨cB, kB, q1, q2, q3⟩ := isOf hZ eT E
  obtain ⟨v, _, ⟨T', L', k', n'⟩, -, X', ⟨L, hQ, l1, l2, l3⟩, st⟩ := X.virtualBack hx (y := y) (z := z) hown (mvT hZ w1) (mvT hZ wd) hnf (mvT hZ ws) (mvT hZ w2) hy (backOf (W := W) (K []) hZ w4 w3 hf hl) q1 q3 hg hsize (Steps.refl _) hlen hstack hW hd (fun _ _ => ⟨rfl, eT, hc, hs⟩)
  dsimp only [Pt.U, Pt.locs, Pt.cells, Pt.slots] at X' l1 l2 l3 hQ st
  subst l1 l2 l3
  exact ⟨v, T', L, X', hQ, fun t k => st.trans k⟩
/-- a private method by its contract ('invokevirtual'); y2: a method of the same class of which is known that its class is no interface -/
theorem kCallP (X : Stand p l e R s m args below meth c T locs cells slots) (hx : p.tables.exec = Jvm.exec) (hZ : Z.Warmed39 s.vm) {own C : String} {index : Nat} {y y2 : MethodName} {bytes : ByteArray} {mx : Nat} {rt : Option FieldType} {rm : Room} {Q : Option Value → Heap → List Loc → Prop} {a : Addr} {argsL rest : List Value}
    (K : Con l Z y bytes mx rt rm (.ref a :: argsL).toArray h Q) (hown : s.vm.findClass own = some m.cls) (w1 : (Jvm.Cond.methodLink own index y).before a0 Z = true) (w2 : (Jvm.Cond.instanceMethod y).before a0 Z = true) (wp : (Jvm.Cond.privateMethod y).before a0 Z = true) (w3 : (Jvm.Cond.initialized y.cls).before a0 Z = true) (w4 : (Jvm.Cond.code y bytes mx rt).before a0 Z = true)
    (hnf : NotFace s y2) (hcl : y2.cls = y.cls) (w5 : (Jvm.Cond.instanceMethod y2).before a0 Z = true)
    (hy : y.cls ≠ "java/lang/invoke/MethodHandle" ∧ y.cls ≠ "java/lang/invoke/VarHandle") (eT : T.heap = h) (E : Exa Z h a C) {g : JFrame} (hg : g.method = m) (hsize : g.locals.size = c.maxLocals) (hlen : ∀ sig, parseMethodDescriptor y.desc = some sig → argsL.length = sig.parameters.length) (hstack : g.stack = argsL.reverse ++ .ref a :: rest)
    {W : Nat} (hW : 2 * g.monitorRoom + (rest.map fun v => v.category).sum ≤ W) (hd : decode c.code g.pc = .ok (.invokevirtual index, 3)) (hf : rm.frames + 1 ≤ R.frames) (hl : W + (mx + 11) + rm.locals ≤ R.locals) (hc : cells + rm.cells ≤ R.cells) (hs : slots + rm.slots ≤ R.slots) :
    ∃ v T' L, Stand p l e R s m args below meth c T' (locs ++ L) (cells + rm.cells) (slots + rm.slots) ∧ Q v T'.heap L ∧ ∀ target, Steps p.tables e below (T'.setTop { g with pc := g.pc + 3, stack := v.toList ++ rest }) target → Steps p.tables e below (T.setTop g) target := by
  obtain ⟨cB, kB, q1, q2, cell, q3, q4, q5⟩ := isOf hZ eT E
  obtain ⟨mk, methM, hnamed, hmethM, hstM, habM⟩ := Cond.instanceMethod_spec (mvT (args := args) hZ w2)
  obtain ⟨methM', cM, hmethM', -, -, -, -, -, -, hsigM⟩ := Cond.code_spec hnamed (mvT (args := args) hZ w4)
  cases hmethM.symm.trans hmethM'
  obtain ⟨mk2, methM2, hnamed2, -⟩ := Cond.instanceMethod_spec (mvT (args := args) hZ w5)
  obtain ⟨kP, hkP, hkPi⟩ := hnf mk2 hnamed2
  have hcc : mk2.cls = mk.cls := by
    have u1 := findClass_of_methodNamed hnamed2
    rw [hcl] at u1
    exact Option.some.inj (u1.symm.trans (findClass_of_methodNamed hnamed))
  rw [hcc] at hkP
  have hpriv : s.PrivateAt y := Cond.privateMethod_at (mvP hZ wp (args := args))
  obtain ⟨vm₁, X₁, hstep₁⟩ := X.invokevirtual hx hown (mvT hZ w1) hnamed hmethM hstM hkP hkPi hy (a := a) (cell := cell) q3 (fun q z => by rw [z] at q5; cases q5) (selectMethod_private hmethM (hpriv mk methM hnamed hmethM)) hmethM habM hkP hkPi (g := g) hg (argsL := argsL) (rest := rest) (hlen _ hsigM) hstack hd
  obtain ⟨v, ⟨T', L', k', n'⟩, X', ⟨L, hQ, l1, l2, l3⟩, st⟩ := (backOf (W := W) (K []) hZ w4 w3 hf hl) m meth c ⟨T.setVm vm₁, locs, cells, slots⟩ { g with stack := rest } (.invokevirtual index) mk (.ref a :: argsL).toArray X₁ hg hsize hd hW (X₁.named hnamed) ⟨rfl, eT, hc, hs⟩
  dsimp only [Pt.U, Pt.locs, Pt.cells, Pt.slots] at X' l1 l2 l3 hQ st
  subst l1 l2 l3
  exact ⟨v, T', L, X', hQ, fun t k => (hstep₁ _ fun acts => by rw [doInvoke_state]; exact Steps.refl _).trans (st.trans k)⟩
/-- an array: its kind, its length, what each place holds -/
def Jar (Z : State) (h : Heap) (a : Addr) (ty : FieldType) (n : Nat) (f : Nat → Value) : Prop := ∃ cl : Cell, Arr Z h a cl ty ∧ cl.slots.size = n ∧ ∀ i, i < n → cl.slots[i]? = some (f i)
section JarS
variable {a b : Addr} {ty : FieldType} {n : Nat} {f g : Nat → Value} {v : Value} {sl : Nat} {ws : List Addr}
theorem Jar.lt (F : Jar Z h a ty n f) : a < h.size := by obtain ⟨cl, A, -⟩ := F; exact A.lt
theorem Jar.ext (F : Jar Z h a ty n f) (E : Ext h h') : Jar Z h' a ty n f := by obtain ⟨cl, A, r⟩ := F; exact ⟨cl, A.ext E, r⟩
theorem Jar.other (F : Jar Z h b ty n f) (W : Wr h h' a sl v) (q : b ≠ a) : Jar Z h' b ty n f := by obtain ⟨cl, A, r⟩ := F; exact ⟨cl, A.other W q, r⟩
theorem Jar.keep (F : Jar Z h a ty n f) (K : Keep h h' ws) (q : a ∉ ws) : Jar Z h' a ty n f := by obtain ⟨cl, A, r⟩ := F; exact ⟨cl, ⟨K.2.1 a cl A.1 q, A.2⟩, r⟩
theorem Jar.congr (F : Jar Z h a ty n f) (q : ∀ i, i < n → f i = g i) : Jar Z h a ty n g := by obtain ⟨cl, A, s1, s2⟩ := F; exact ⟨cl, A, s1, fun i hi => by rw [s2 i hi, q i hi]⟩
theorem Jar.new {k : ClassId} {z : Int32} (A : Arr Z h a (newA k ty z) ty) (hz : z.toNatClampNeg = n) : Jar Z h a ty n (fun _ => defaultValue ty) := ⟨_, A, (sz_new _ _ _).trans hz, fun i hi => by simp [newA, hz, hi]⟩
theorem Jar.set (F : Jar Z h a ty n f) (W : Wr h h' a sl v) : Jar Z h' a ty n (fun i => if i = sl then v else f i) := by
  obtain ⟨cl, A, s1, s2⟩ := F
  obtain ⟨c2, q1, -, q3, -⟩ := id W
  cases A.1.symm.trans q1
  refine ⟨_, Arr.same W A, by simp [Cell.setSlot, s1], fun i hi => ?_⟩
  by_cases q : i = sl
  · subst q; simp [Cell.setSlot, q3]
  · show (cl.slots.setIfInBounds sl v)[i]? = some (if i = sl then v else f i)
    rw [if_neg q, ← s2 i hi, Array.getElem?_setIfInBounds_ne (Ne.symm q)]
theorem Jar.ints (F : Jar Z h a ty n f) (H : ∀ i, ∃ x, f i = .int x) : ∃ g : Nat → Int32, Jar Z h a ty n (fun i => .int (g i)) := ⟨fun i => Classical.choose (H i), F.congr fun i _ => Classical.choose_spec (H i)⟩
theorem Jar.longs (F : Jar Z h a ty n f) (H : ∀ i, ∃ x, f i = .long x) : ∃ g : Nat → Int64, Jar Z h a ty n (fun i => .long (g i)) := ⟨fun i => Classical.choose (H i), F.congr fun i _ => Classical.choose_spec (H i)⟩
theorem inJ {cl : Cell} {j : Int32} (s1 : cl.slots.size = n) (hj : 0 ≤ j.toInt ∧ j.toInt < n) : ¬ (j < 0 ∨ cl.slots.size ≤ j.toNatClampNeg) := by
  rw [s1, Int32.lt_iff_toInt_lt]
  have e1 : (0 : Int32).toInt = 0 := rfl
  have e2 : j.toNatClampNeg = j.toInt.toNat := rfl
  omega
theorem natJ {j : Int32} (hj : 0 ≤ j.toInt ∧ j.toInt < n) : j.toNatClampNeg < n := by
  have e2 : j.toNatClampNeg = j.toInt.toNat := rfl
  omega
end JarS
theorem kLdI (X : Stand p l e R s m args below meth c T locs cells slots) (hx : p.tables.exec = Jvm.exec) (hZ : Z.Warmed39 s.vm) (eT : T.heap = h) {a : Addr} {n : Nat} {f : Nat → Value} (F : Jar Z h a .int n f) {j : Int32} {v : Value} (hj : 0 ≤ j.toInt ∧ j.toInt < n) (hv : f j.toNatClampNeg = v) {g : JFrame} (hg : g.method = m) {rest : List Value} (hs : g.stack = .int j :: .ref a :: rest) (hd : decode c.code g.pc = .ok (.iaload, 1)) :
    ∀ t, Steps p.tables e below (T.setTop { g with pc := g.pc + 1, stack := v :: rest }) t → Steps p.tables e below (T.setTop g) t := by
  obtain ⟨cl, A, s1, s2⟩ := F
  exact X.iaload hx (j := j) (v := v) (by rw [eT]; exact A.1) (State.isArrayOf_alike hZ.alike A.2.1) A.2.2 (inJ s1 hj) (by rw [s2 _ (natJ hj), hv]) hg hs hd
theorem kLdJ (X : Stand p l e R s m args below meth c T locs cells slots) (hx : p.tables.exec = Jvm.exec) (hZ : Z.Warmed39 s.vm) (eT : T.heap = h) {a : Addr} {n : Nat} {f : Nat → Value} (F : Jar Z h a .long n f) {j : Int32} {v : Value} (hj : 0 ≤ j.toInt ∧ j.toInt < n) (hv : f j.toNatClampNeg = v) {g : JFrame} (hg : g.method = m) {rest : List Value} (hs : g.stack = .int j :: .ref a :: rest) (hd : decode c.code g.pc = .ok (.laload, 1)) :
    ∀ t, Steps p.tables e below (T.setTop { g with pc := g.pc + 1, stack := v :: rest }) t → Steps p.tables e below (T.setTop g) t := by
  obtain ⟨cl, A, s1, s2⟩ := F
  exact X.laload hx (j := j) (v := v) (by rw [eT]; exact A.1) (State.isArrayOf_alike hZ.alike A.2.1) A.2.2 (inJ s1 hj) (by rw [s2 _ (natJ hj), hv]) hg hs hd
theorem kLdB (X : Stand p l e R s m args below meth c T locs cells slots) (hx : p.tables.exec = Jvm.exec) (hZ : Z.Warmed39 s.vm) (eT : T.heap = h) {a : Addr} {n : Nat} {f : Nat → Value} (F : Jar Z h a .byte n f) {j : Int32} {v : Value} (hj : 0 ≤ j.toInt ∧ j.toInt < n) (hv : f j.toNatClampNeg = v) {g : JFrame} (hg : g.method = m) {rest : List Value} (hs : g.stack = .int j :: .ref a :: rest) (hd : decode c.code g.pc = .ok (.baload, 1)) :
    ∀ t, Steps p.tables e below (T.setTop { g with pc := g.pc + 1, stack := v :: rest }) t → Steps p.tables e below (T.setTop g) t := by
  obtain ⟨cl, A, s1, s2⟩ := F
  exact X.baloadBytes hx (j := j) (v := v) (by rw [eT]; exact A.1) (State.isArrayOf_alike hZ.alike A.2.1) A.2.2 (inJ s1 hj) (by rw [s2 _ (natJ hj), hv]) hg hs hd
theorem kLdA (X : Stand p l e R s m args below meth c T locs cells slots) (hx : p.tables.exec = Jvm.exec) (hZ : Z.Warmed39 s.vm) (eT : T.heap = h) {a : Addr} {ty : FieldType} {n : Nat} {f : Nat → Value} (F : Jar Z h a ty n f) (hty : ty.isReference = true) {j : Int32} {v : Value} (hj : 0 ≤ j.toInt ∧ j.toInt < n) (hv : f j.toNatClampNeg = v) {g : JFrame} (hg : g.method = m) {rest : List Value} (hs : g.stack = .int j :: .ref a :: rest) (hd : decode c.code g.pc = .ok (.aaload, 1)) :
    ∀ t, Steps p.tables e below (T.setTop { g with pc := g.pc + 1, stack := v :: rest }) t → Steps p.tables e below (T.setTop g) t := by
  obtain ⟨cl, A, s1, s2⟩ := F
  exact X.aaload hx (j := j) (v := v) (by rw [eT]; exact A.1) (State.isArrayOf_alike hZ.alike A.2.1) hty A.2.2 (inJ s1 hj) (by rw [s2 _ (natJ hj), hv]) hg hs hd
theorem kLen (X : Stand p l e R s m args below meth c T locs cells slots) (hx : p.tables.exec = Jvm.exec) (hZ : Z.Warmed39 s.vm) (eT : T.heap = h) {a : Addr} {ty : FieldType} {n : Nat} {f : Nat → Value} (F : Jar Z h a ty n f) {z : Int32} (hz : n.toInt32 = z) {g : JFrame} (hg : g.method = m) {rest : List Value} (hs : g.stack = .ref a :: rest) (hd : decode c.code g.pc = .ok (.arraylength, 1)) :
    ∀ t, Steps p.tables e below (T.setTop { g with pc := g.pc + 1, stack := .int z :: rest }) t → Steps p.tables e below (T.setTop g) t := by
  obtain ⟨cl, A, s1, s2⟩ := F
  subst hz s1
  exact X.arraylength hx (by rw [eT]; exact A.1) (State.isArrayOf_alike hZ.alike A.2.1) hg hs hd
/-- a store: what the three kinds say alike -/
theorem kStI (X : Stand p l e R s m args below meth c T locs cells slots) (hx : p.tables.exec = Jvm.exec) (hZ : Z.Warmed39 s.vm) (eT : T.heap = h) {a : Addr} {n : Nat} {f : Nat → Value} (F : Jar Z h a .int n f) {j x : Int32} (hj : 0 ≤ j.toInt ∧ j.toInt < n) {g : JFrame} (hg : g.method = m) {rest : List Value} (hs : g.stack = .int x :: .int j :: .ref a :: rest) (hd : decode c.code g.pc = .ok (.iastore, 1)) :
    ∃ T' h', Stand p l e R s m args below meth c T' (locs ++ [⟨a, j.toNatClampNeg⟩]) cells slots ∧ T'.heap = h' ∧ Wr h h' a j.toNatClampNeg (.int x) ∧ ∀ target, Steps p.tables e below (T'.setTop { g with pc := g.pc + 1, stack := rest }) target → Steps p.tables e below (T.setTop g) target := by
  obtain ⟨cl, A, s1, s2⟩ := F
  exact stI X hx hZ eT A (inJ s1 hj) hg hs hd
theorem kStJ (X : Stand p l e R s m args below meth c T locs cells slots) (hx : p.tables.exec = Jvm.exec) (hZ : Z.Warmed39 s.vm) (eT : T.heap = h) {a : Addr} {n : Nat} {f : Nat → Value} (F : Jar Z h a .long n f) {j : Int32} {x : Int64} (hj : 0 ≤ j.toInt ∧ j.toInt < n) {g : JFrame} (hg : g.method = m) {rest : List Value} (hs : g.stack = .long x :: .int j :: .ref a :: rest) (hd : decode c.code g.pc = .ok (.lastore, 1)) :
    ∃ T' h', Stand p l e R s m args below meth c T' (locs ++ [⟨a, j.toNatClampNeg⟩]) cells slots ∧ T'.heap = h' ∧ Wr h h' a j.toNatClampNeg (.long x) ∧ ∀ target, Steps p.tables e below (T'.setTop { g with pc := g.pc + 1, stack := rest }) target → Steps p.tables e below (T.setTop g) target := by
  obtain ⟨cl, A, s1, s2⟩ := F
  exact stJ X hx hZ eT A (inJ s1 hj) hg hs hd
theorem kStB (X : Stand p l e R s m args below meth c T locs cells slots) (hx : p.tables.exec = Jvm.exec) (hZ : Z.Warmed39 s.vm) (eT : T.heap = h) {a : Addr} {n : Nat} {f : Nat → Value} (F : Jar Z h a .byte n f) {j x : Int32} (hj : 0 ≤ j.toInt ∧ j.toInt < n) {g : JFrame} (hg : g.method = m) {rest : List Value} (hs : g.stack = .int x :: .int j :: .ref a :: rest) (hd : decode c.code g.pc = .ok (.bastore, 1)) :
    ∃ T' h', Stand p l e R s m args below meth c T' (locs ++ [⟨a, j.toNatClampNeg⟩]) cells slots ∧ T'.heap = h' ∧ Wr h h' a j.toNatClampNeg (.int (x.toInt8.toInt32)) ∧ ∀ target, Steps p.tables e below (T'.setTop { g with pc := g.pc + 1, stack := rest }) target → Steps p.tables e below (T.setTop g) target := by
  obtain ⟨cl, A, s1, s2⟩ := F
  exact stB X hx hZ eT A (inJ s1 hj) hg hs hd
theorem kClone (X : Stand p l e R s m args below meth c T locs cells slots) (hx : p.tables.exec = Jvm.exec) (hZ : Z.Warmed39 s.vm) {own ad : String} {index : Nat} (hown : s.vm.findClass own = some m.cls)
    (w1 : (Jvm.Cond.methodLink own index ⟨ad, "clone", "()Ljava/lang/Object;"⟩).before a0 Z = true) (w2 : (Jvm.Cond.sameMethod ad "java/lang/Object" "clone" "()Ljava/lang/Object;").before a0 Z = true) (w3 : (Jvm.Cond.native ⟨"java/lang/Object", "clone", "()Ljava/lang/Object;"⟩).before a0 Z = true)
    (w4 : (Jvm.Cond.instanceMethod ⟨"java/lang/Object", "clone", "()Ljava/lang/Object;"⟩).before a0 Z = true) (w5 : (Jvm.Cond.selects ad ⟨ad, "clone", "()Ljava/lang/Object;"⟩ ⟨"java/lang/Object", "clone", "()Ljava/lang/Object;"⟩).before a0 Z = true) (w6 : (Jvm.Cond.castable ad "java/lang/Cloneable").before a0 Z = true)
    (eT : T.heap = h) {a : Addr} {ty : FieldType} {n : Nat} {f : Nat → Value} (F : Jar Z h a ty n f) (E : Exa Z h a ad) (hft : ∀ i, i < n → fits ty (f i) = true) {g : JFrame} (hg : g.method = m) (hsize : g.locals.size = c.maxLocals) {rest : List Value} (hs : g.stack = .ref a :: rest) (hd : decode c.code g.pc = .ok (.invokevirtual index, 3))
    (hf : 1 ≤ R.frames) {W cap : Nat} (hW : 2 * g.monitorRoom + (rest.map fun v => v.category).sum ≤ W) (hl : W + 14 ≤ R.locals) (hcap : n ≤ cap) (hc : cells + 1 ≤ R.cells) (hsl : slots + cap ≤ R.slots) :
    ∃ T' h', Stand p l e R s m args below meth c T' locs (cells + 1) (slots + cap) ∧ T'.heap = h' ∧ Ext h h' ∧ Jar Z h' h.size ty n f ∧ Exa Z h' h.size ad ∧
      ∀ target, Steps p.tables e below (T'.setTop { g with pc := g.pc + 3, stack := .ref h.size :: rest }) target → Steps p.tables e below (T.setTop g) target := by
  obtain ⟨cl, A, s1, s2⟩ := F
  have FC : FitC Z cl := fitC_of A fun i hi v hv => by rw [s2 i (s1 ▸ hi)] at hv; cases hv; exact hft i (s1 ▸ hi)
  obtain ⟨T', h', X', e', ex, A', E', st⟩ := cloneA X hx hZ hown w1 w2 w3 w4 w5 w6 eT A E FC hg hsize hs hd hf hW hl (by rw [s1]; exact hcap) hc hsl
  exact ⟨T', h', X', e', ex, ⟨cloneOf cl, A', s1, s2⟩, E', st⟩
theorem catR {v : Value} (h : v.isRef = true) : v.category = 1 := by cases v <;> first | rfl | (simp [Value.isRef] at h)
theorem narO {C : String} (v : Value) : narrow (.object C) v = v := by cases v <;> rfl
theorem fitO {C : String} {v : Value} (h : v.isRef = true) : fits (.object C) v = true := by cases v <;> first | rfl | (simp [Value.isRef] at h)
/-- what a body that writes nothing and makes nothing leaves -/
def PQ (r : Option Value) (h0 : Heap) : Option Value → Heap → List Loc → Prop := fun v h L => v = r ∧ L = [] ∧ h = h0
/-- what the law leaves -/
def LQ (n0 : Nat) : Option Value → Heap → List Loc → Prop := fun v _ L => v = some (.int 1) ∧ Fr n0 L
end OwnKit
theorem d1_0 : decode jdk_29_method_70_code 0 = .ok (.lload_n 0, 1) := by decide +kernel
theorem d1_1 : decode jdk_29_method_70_code 1 = .ok (.lload_n 2, 1) := by decide +kernel
theorem d1_2 : decode jdk_29_method_70_code 2 = .ok (.lcmp, 1) := by decide +kernel
theorem d1_3 : decode jdk_29_method_70_code 3 = .ok (.ifCond .gt 7, 3) := by decide +kernel
theorem d1_10 : decode jdk_29_method_70_code 10 = .ok (.lload_n 2, 1) := by decide +kernel
theorem d1_11 : decode jdk_29_method_70_code 11 = .ok (.lreturn, 1) := by decide +kernel
theorem d1_6 : decode jdk_29_method_70_code 6 = .ok (.lload_n 0, 1) := by decide +kernel
theorem d1_7 : decode jdk_29_method_70_code 7 = .ok (.goto 4, 3) := by decide +kernel
theorem d2_0 : decode jdk_29_method_66_code 0 = .ok (.lload_n 0, 1) := by decide +kernel
theorem d2_1 : decode jdk_29_method_66_code 1 = .ok (.lload_n 2, 1) := by decide +kernel
theorem d2_2 : decode jdk_29_method_66_code 2 = .ok (.lcmp, 1) := by decide +kernel
theorem d2_3 : decode jdk_29_method_66_code 3 = .ok (.ifCond .lt 7, 3) := by decide +kernel
theorem d2_10 : decode jdk_29_method_66_code 10 = .ok (.lload_n 2, 1) := by decide +kernel
theorem d2_11 : decode jdk_29_method_66_code 11 = .ok (.lreturn, 1) := by decide +kernel
theorem d2_6 : decode jdk_29_method_66_code 6 = .ok (.lload_n 0, 1) := by decide +kernel
theorem d2_7 : decode jdk_29_method_66_code 7 = .ok (.goto 4, 3) := by decide +kernel
theorem d10_0 : decode jdk_29_method_69_code 0 = .ok (.iload_n 0, 1) := by decide +kernel
theorem d10_1 : decode jdk_29_method_69_code 1 = .ok (.iload_n 1, 1) := by decide +kernel
theorem d10_2 : decode jdk_29_method_69_code 2 = .ok (.if_icmp .gt 7, 3) := by decide +kernel
theorem d10_9 : decode jdk_29_method_69_code 9 = .ok (.iload_n 1, 1) := by decide +kernel
theorem d10_10 : decode jdk_29_method_69_code 10 = .ok (.ireturn, 1) := by decide +kernel
theorem d10_5 : decode jdk_29_method_69_code 5 = .ok (.iload_n 0, 1) := by decide +kernel
theorem d10_6 : decode jdk_29_method_69_code 6 = .ok (.goto 4, 3) := by decide +kernel
theorem pn_0 : plainName "com/example/treesack/treesack/core/ValueSteps" = true := by first | (simp [plainName, overriddenIn]; done) | decide +kernel
theorem d3_0 : decode prog_62_method_1_code 0 = .ok (.aload_n 0, 1) := by decide +kernel
theorem d3_1 : decode prog_62_method_1_code 1 = .ok (.invokespecial 3, 3) := by decide +kernel
theorem d3_4 : decode prog_62_method_1_code 4 = .ok (.aload_n 0, 1) := by decide +kernel
theorem d3_5 : decode prog_62_method_1_code 5 = .ok (.iconst 4, 1) := by decide +kernel
theorem d3_6 : decode prog_62_method_1_code 6 = .ok (.newarray .long, 2) := by decide +kernel
theorem d3_8 : decode prog_62_method_1_code 8 = .ok (.putfield 9, 3) := by decide +kernel
theorem d3_11 : decode prog_62_method_1_code 11 = .ok (.aload_n 0, 1) := by decide +kernel
theorem d3_12 : decode prog_62_method_1_code 12 = .ok (.iconst 4, 1) := by decide +kernel
theorem d3_13 : decode prog_62_method_1_code 13 = .ok (.newarray .long, 2) := by decide +kernel
theorem d3_15 : decode prog_62_method_1_code 15 = .ok (.putfield 15, 3) := by decide +kernel
theorem d3_18 : decode prog_62_method_1_code 18 = .ok (.aload_n 0, 1) := by decide +kernel
theorem d3_19 : decode prog_62_method_1_code 19 = .ok (.iconst 4, 1) := by decide +kernel
theorem d3_20 : decode prog_62_method_1_code 20 = .ok (.newarray .long, 2) := by decide +kernel
theorem d3_22 : decode prog_62_method_1_code 22 = .ok (.putfield 18, 3) := by decide +kernel
theorem d3_25 : decode prog_62_method_1_code 25 = .ok (.aload_n 0, 1) := by decide +kernel
theorem d3_26 : decode prog_62_method_1_code 26 = .ok (.iconst 4, 1) := by decide +kernel
theorem d3_27 : decode prog_62_method_1_code 27 = .ok (.newarray .long, 2) := by decide +kernel
theorem d3_29 : decode prog_62_method_1_code 29 = .ok (.putfield 21, 3) := by decide +kernel
theorem d3_32 : decode prog_62_method_1_code 32 = .ok (.return_, 1) := by decide +kernel
theorem d6_0 : decode prog_62_method_24_code 0 = .ok (.lload_n 1, 1) := by decide +kernel
theorem d6_1 : decode prog_62_method_24_code 1 = .ok (.ldc2_w 84, 3) := by decide +kernel
theorem d6_4 : decode prog_62_method_24_code 4 = .ok (.lcmp, 1) := by decide +kernel
theorem d6_5 : decode prog_62_method_24_code 5 = .ok (.ifCond .le 10, 3) := by decide +kernel
theorem d6_15 : decode prog_62_method_24_code 15 = .ok (.aload_n 0, 1) := by decide +kernel
theorem d6_16 : decode prog_62_method_24_code 16 = .ok (.getfield 18, 3) := by decide +kernel
theorem d6_19 : decode prog_62_method_24_code 19 = .ok (.arraylength, 1) := by decide +kernel
theorem d6_20 : decode prog_62_method_24_code 20 = .ok (.i2l, 1) := by decide +kernel
theorem d6_21 : decode prog_62_method_24_code 21 = .ok (.lload_n 1, 1) := by decide +kernel
theorem d6_22 : decode prog_62_method_24_code 22 = .ok (.lcmp, 1) := by decide +kernel
theorem d6_23 : decode prog_62_method_24_code 23 = .ok (.ifCond .ge 39, 3) := by decide +kernel
theorem d6_62 : decode prog_62_method_24_code 62 = .ok (.return_, 1) := by decide +kernel
theorem d7_0 : decode prog_62_method_23_code 0 = .ok (.aload_n 0, 1) := by decide +kernel
theorem d7_1 : decode prog_62_method_23_code 1 = .ok (.getfield 9, 3) := by decide +kernel
theorem d7_4 : decode prog_62_method_23_code 4 = .ok (.astore_n 2, 1) := by decide +kernel
theorem d7_5 : decode prog_62_method_23_code 5 = .ok (.aload_n 0, 1) := by decide +kernel
theorem d7_6 : decode prog_62_method_23_code 6 = .ok (.getfield 15, 3) := by decide +kernel
theorem d7_9 : decode prog_62_method_23_code 9 = .ok (.astore_n 3, 1) := by decide +kernel
theorem d7_10 : decode prog_62_method_23_code 10 = .ok (.aload_n 0, 1) := by decide +kernel
theorem d7_11 : decode prog_62_method_23_code 11 = .ok (.aload_n 0, 1) := by decide +kernel
theorem d7_12 : decode prog_62_method_23_code 12 = .ok (.getfield 18, 3) := by decide +kernel
theorem d7_15 : decode prog_62_method_23_code 15 = .ok (.putfield 9, 3) := by decide +kernel
theorem d7_18 : decode prog_62_method_23_code 18 = .ok (.aload_n 0, 1) := by decide +kernel
theorem d7_19 : decode prog_62_method_23_code 19 = .ok (.aload_n 0, 1) := by decide +kernel
theorem d7_20 : decode prog_62_method_23_code 20 = .ok (.getfield 21, 3) := by decide +kernel
theorem d7_23 : decode prog_62_method_23_code 23 = .ok (.putfield 15, 3) := by decide +kernel
theorem d7_26 : decode prog_62_method_23_code 26 = .ok (.aload_n 0, 1) := by decide +kernel
theorem d7_27 : decode prog_62_method_23_code 27 = .ok (.iload_n 1, 1) := by decide +kernel
theorem d7_28 : decode prog_62_method_23_code 28 = .ok (.putfield 25, 3) := by decide +kernel
theorem d7_31 : decode prog_62_method_23_code 31 = .ok (.aload_n 0, 1) := by decide +kernel
theorem d7_32 : decode prog_62_method_23_code 32 = .ok (.aconst_null, 1) := by decide +kernel
theorem d7_33 : decode prog_62_method_23_code 33 = .ok (.putfield 29, 3) := by decide +kernel
theorem d7_36 : decode prog_62_method_23_code 36 = .ok (.aload_n 0, 1) := by decide +kernel
theorem d7_37 : decode prog_62_method_23_code 37 = .ok (.aload_n 2, 1) := by decide +kernel
theorem d7_38 : decode prog_62_method_23_code 38 = .ok (.putfield 18, 3) := by decide +kernel
theorem d7_41 : decode prog_62_method_23_code 41 = .ok (.aload_n 0, 1) := by decide +kernel
theorem d7_42 : decode prog_62_method_23_code 42 = .ok (.aload_n 3, 1) := by decide +kernel
theorem d7_43 : decode prog_62_method_23_code 43 = .ok (.putfield 21, 3) := by decide +kernel
theorem d7_46 : decode prog_62_method_23_code 46 = .ok (.return_, 1) := by decide +kernel
theorem d5_0 : decode prog_62_method_14_code 0 = .ok (.aload_n 0, 1) := by decide +kernel
theorem d5_1 : decode prog_62_method_14_code 1 = .ok (.iload_n 2, 1) := by decide +kernel
theorem d5_2 : decode prog_62_method_14_code 2 = .ok (.i2l, 1) := by decide +kernel
theorem d5_3 : decode prog_62_method_14_code 3 = .ok (.lconst 1, 1) := by decide +kernel
theorem d5_4 : decode prog_62_method_14_code 4 = .ok (.ladd, 1) := by decide +kernel
theorem pd_0 : parseMethodDescriptor "(J)V" = some ⟨[.long], none⟩ := by decide +kernel
theorem d5_5 : decode prog_62_method_14_code 5 = .ok (.invokevirtual 44, 3) := by decide +kernel
theorem d5_8 : decode prog_62_method_14_code 8 = .ok (.iconst 0, 1) := by decide +kernel
theorem d5_9 : decode prog_62_method_14_code 9 = .ok (.istore_n 3, 1) := by decide +kernel
theorem d5_10 : decode prog_62_method_14_code 10 = .ok (.ldc2_w 42, 3) := by decide +kernel
theorem d5_13 : decode prog_62_method_14_code 13 = .ok (.lstore 4, 2) := by decide +kernel
theorem d5_15 : decode prog_62_method_14_code 15 = .ok (.iconst 0, 1) := by decide +kernel
theorem d5_16 : decode prog_62_method_14_code 16 = .ok (.istore 6, 2) := by decide +kernel
theorem d5_18 : decode prog_62_method_14_code 18 = .ok (.iload 6, 2) := by decide +kernel
theorem d5_20 : decode prog_62_method_14_code 20 = .ok (.iload_n 2, 1) := by decide +kernel
theorem d5_21 : decode prog_62_method_14_code 21 = .ok (.if_icmp .gt 47, 3) := by decide +kernel
theorem d5_68 : decode prog_62_method_14_code 68 = .ok (.aload_n 0, 1) := by decide +kernel
theorem d5_69 : decode prog_62_method_14_code 69 = .ok (.iload_n 3, 1) := by decide +kernel
theorem pd_1 : parseMethodDescriptor "(I)V" = some ⟨[.int], none⟩ := by decide +kernel
theorem d5_70 : decode prog_62_method_14_code 70 = .ok (.invokevirtual 74, 3) := by decide +kernel
theorem d5_73 : decode prog_62_method_14_code 73 = .ok (.return_, 1) := by decide +kernel
theorem d5_24 : decode prog_62_method_14_code 24 = .ok (.aload_n 1, 1) := by decide +kernel
theorem d5_25 : decode prog_62_method_14_code 25 = .ok (.iload 6, 2) := by decide +kernel
theorem d5_27 : decode prog_62_method_14_code 27 = .ok (.laload, 1) := by decide +kernel
theorem d5_28 : decode prog_62_method_14_code 28 = .ok (.lload 4, 2) := by decide +kernel
theorem d5_30 : decode prog_62_method_14_code 30 = .ok (.lcmp, 1) := by decide +kernel
theorem d5_31 : decode prog_62_method_14_code 31 = .ok (.ifCond .le 31, 3) := by decide +kernel
theorem d5_34 : decode prog_62_method_14_code 34 = .ok (.aload_n 0, 1) := by decide +kernel
theorem d5_35 : decode prog_62_method_14_code 35 = .ok (.getfield 18, 3) := by decide +kernel
theorem d5_38 : decode prog_62_method_14_code 38 = .ok (.iload_n 3, 1) := by decide +kernel
theorem d5_39 : decode prog_62_method_14_code 39 = .ok (.iload 6, 2) := by decide +kernel
theorem d5_41 : decode prog_62_method_14_code 41 = .ok (.i2l, 1) := by decide +kernel
theorem d5_42 : decode prog_62_method_14_code 42 = .ok (.lastore, 1) := by decide +kernel
theorem d5_43 : decode prog_62_method_14_code 43 = .ok (.aload_n 0, 1) := by decide +kernel
theorem d5_44 : decode prog_62_method_14_code 44 = .ok (.getfield 21, 3) := by decide +kernel
theorem d5_47 : decode prog_62_method_14_code 47 = .ok (.iload_n 3, 1) := by decide +kernel
theorem d5_48 : decode prog_62_method_14_code 48 = .ok (.aload_n 1, 1) := by decide +kernel
theorem d5_49 : decode prog_62_method_14_code 49 = .ok (.iload 6, 2) := by decide +kernel
theorem d5_51 : decode prog_62_method_14_code 51 = .ok (.laload, 1) := by decide +kernel
theorem d5_52 : decode prog_62_method_14_code 52 = .ok (.lastore, 1) := by decide +kernel
theorem d5_53 : decode prog_62_method_14_code 53 = .ok (.iinc 3 1, 3) := by decide +kernel
theorem d5_56 : decode prog_62_method_14_code 56 = .ok (.aload_n 1, 1) := by decide +kernel
theorem d5_57 : decode prog_62_method_14_code 57 = .ok (.iload 6, 2) := by decide +kernel
theorem d5_59 : decode prog_62_method_14_code 59 = .ok (.laload, 1) := by decide +kernel
theorem d5_60 : decode prog_62_method_14_code 60 = .ok (.lstore 4, 2) := by decide +kernel
theorem d5_62 : decode prog_62_method_14_code 62 = .ok (.iinc 6 1, 3) := by decide +kernel
theorem d5_65 : decode prog_62_method_14_code 65 = .ok (.goto (-47), 3) := by decide +kernel
theorem d8_0 : decode prog_62_method_15_code 0 = .ok (.iconst (-1), 1) := by decide +kernel
theorem d8_1 : decode prog_62_method_15_code 1 = .ok (.istore_n 3, 1) := by decide +kernel
theorem d8_2 : decode prog_62_method_15_code 2 = .ok (.iconst 0, 1) := by decide +kernel
theorem d8_3 : decode prog_62_method_15_code 3 = .ok (.istore 4, 2) := by decide +kernel
theorem d8_5 : decode prog_62_method_15_code 5 = .ok (.iload 4, 2) := by decide +kernel
theorem d8_7 : decode prog_62_method_15_code 7 = .ok (.iload_n 2, 1) := by decide +kernel
theorem d8_8 : decode prog_62_method_15_code 8 = .ok (.if_icmp .gt 60, 3) := by decide +kernel
theorem d8_68 : decode prog_62_method_15_code 68 = .ok (.return_, 1) := by decide +kernel
theorem d8_42 : decode prog_62_method_15_code 42 = .ok (.aload_n 1, 1) := by decide +kernel
theorem d8_43 : decode prog_62_method_15_code 43 = .ok (.iload 4, 2) := by decide +kernel
theorem d8_45 : decode prog_62_method_15_code 45 = .ok (.iload_n 3, 1) := by decide +kernel
theorem d8_46 : decode prog_62_method_15_code 46 = .ok (.ifCond .ge 9, 3) := by decide +kernel
theorem d8_49 : decode prog_62_method_15_code 49 = .ok (.ldc2_w 42, 3) := by decide +kernel
theorem d8_52 : decode prog_62_method_15_code 52 = .ok (.goto 9, 3) := by decide +kernel
theorem d8_61 : decode prog_62_method_15_code 61 = .ok (.lastore, 1) := by decide +kernel
theorem d8_62 : decode prog_62_method_15_code 62 = .ok (.iinc 4 1, 3) := by decide +kernel
theorem d8_65 : decode prog_62_method_15_code 65 = .ok (.goto (-60), 3) := by decide +kernel
theorem d8_55 : decode prog_62_method_15_code 55 = .ok (.aload_n 0, 1) := by decide +kernel
theorem d8_56 : decode prog_62_method_15_code 56 = .ok (.getfield 15, 3) := by decide +kernel
theorem d8_59 : decode prog_62_method_15_code 59 = .ok (.iload_n 3, 1) := by decide +kernel
theorem d8_60 : decode prog_62_method_15_code 60 = .ok (.laload, 1) := by decide +kernel
theorem d8_11 : decode prog_62_method_15_code 11 = .ok (.iload_n 3, 1) := by decide +kernel
theorem d8_12 : decode prog_62_method_15_code 12 = .ok (.iconst 1, 1) := by decide +kernel
theorem d8_13 : decode prog_62_method_15_code 13 = .ok (.iadd, 1) := by decide +kernel
theorem d8_14 : decode prog_62_method_15_code 14 = .ok (.aload_n 0, 1) := by decide +kernel
theorem d8_15 : decode prog_62_method_15_code 15 = .ok (.getfield 25, 3) := by decide +kernel
theorem d8_18 : decode prog_62_method_15_code 18 = .ok (.if_icmp .ge 24, 3) := by decide +kernel
theorem d8_21 : decode prog_62_method_15_code 21 = .ok (.aload_n 0, 1) := by decide +kernel
theorem d8_22 : decode prog_62_method_15_code 22 = .ok (.getfield 9, 3) := by decide +kernel
theorem d8_25 : decode prog_62_method_15_code 25 = .ok (.iload_n 3, 1) := by decide +kernel
theorem d8_26 : decode prog_62_method_15_code 26 = .ok (.iconst 1, 1) := by decide +kernel
theorem d8_27 : decode prog_62_method_15_code 27 = .ok (.iadd, 1) := by decide +kernel
theorem d8_28 : decode prog_62_method_15_code 28 = .ok (.laload, 1) := by decide +kernel
theorem d8_29 : decode prog_62_method_15_code 29 = .ok (.iload 4, 2) := by decide +kernel
theorem d8_31 : decode prog_62_method_15_code 31 = .ok (.i2l, 1) := by decide +kernel
theorem d8_32 : decode prog_62_method_15_code 32 = .ok (.lcmp, 1) := by decide +kernel
theorem d8_33 : decode prog_62_method_15_code 33 = .ok (.ifCond .gt 9, 3) := by decide +kernel
theorem d8_36 : decode prog_62_method_15_code 36 = .ok (.iinc 3 1, 3) := by decide +kernel
theorem d8_39 : decode prog_62_method_15_code 39 = .ok (.goto (-28), 3) := by decide +kernel
theorem pn_1 : plainName "com/example/treesack/treesack/core/ValueStepsExpandIntoPinLaw" = true := by first | (simp [plainName, overriddenIn]; done) | decide +kernel
theorem d9_0 : decode method_3_code 0 = .ok (.iload_n 1, 1) := by decide +kernel
theorem d9_1 : decode method_3_code 1 = .ok (.iload_n 2, 1) := by decide +kernel
theorem d9_2 : decode method_3_code 2 = .ok (.if_icmp .le 19, 3) := by decide +kernel
theorem d9_5 : decode method_3_code 5 = .ok (.aload_n 0, 1) := by decide +kernel
theorem d9_6 : decode method_3_code 6 = .ok (.iload_n 1, 1) := by decide +kernel
theorem d9_7 : decode method_3_code 7 = .ok (.laload, 1) := by decide +kernel
theorem d9_8 : decode method_3_code 8 = .ok (.ldc2_w 22, 3) := by decide +kernel
theorem d9_11 : decode method_3_code 11 = .ok (.lcmp, 1) := by decide +kernel
theorem d9_12 : decode method_3_code 12 = .ok (.ifCond .ne 7, 3) := by decide +kernel
theorem d9_15 : decode method_3_code 15 = .ok (.iconst 1, 1) := by decide +kernel
theorem d9_16 : decode method_3_code 16 = .ok (.goto 4, 3) := by decide +kernel
theorem d9_20 : decode method_3_code 20 = .ok (.ireturn, 1) := by decide +kernel
theorem d9_21 : decode method_3_code 21 = .ok (.aload_n 0, 1) := by decide +kernel
theorem d9_22 : decode method_3_code 22 = .ok (.iload_n 1, 1) := by decide +kernel
theorem d9_23 : decode method_3_code 23 = .ok (.laload, 1) := by decide +kernel
theorem d9_24 : decode method_3_code 24 = .ok (.aload 4, 2) := by decide +kernel
theorem d9_26 : decode method_3_code 26 = .ok (.iload_n 1, 1) := by decide +kernel
theorem d9_27 : decode method_3_code 27 = .ok (.iload_n 3, 1) := by decide +kernel
theorem pd_2 : parseMethodDescriptor "(II)I" = some ⟨[.int, .int], some .int⟩ := by decide +kernel
theorem d9_28 : decode method_3_code 28 = .ok (.invokestatic 36, 3) := by decide +kernel
theorem d9_31 : decode method_3_code 31 = .ok (.laload, 1) := by decide +kernel
theorem d9_32 : decode method_3_code 32 = .ok (.lcmp, 1) := by decide +kernel
theorem d9_33 : decode method_3_code 33 = .ok (.ifCond .ne 7, 3) := by decide +kernel
theorem d9_36 : decode method_3_code 36 = .ok (.iconst 1, 1) := by decide +kernel
theorem d9_37 : decode method_3_code 37 = .ok (.goto 4, 3) := by decide +kernel
theorem d9_41 : decode method_3_code 41 = .ok (.ireturn, 1) := by decide +kernel
theorem pd_3 : parseMethodDescriptor "(JJ)J" = some ⟨[.long, .long], some .long⟩ := by decide +kernel
theorem pd_4 : parseMethodDescriptor "()V" = some ⟨[], none⟩ := by decide +kernel
theorem pd_5 : parseMethodDescriptor "([JI)V" = some ⟨[(.array .long), .int], none⟩ := by decide +kernel
theorem pd_6 : parseMethodDescriptor "([JIII[J)Z" = some ⟨[(.array .long), .int, .int, .int, (.array .long)], some .boolean⟩ := by decide +kernel
def lastv (r : Nat → Int64) : Nat → Int64
  | 0 => -9223372036854775808
  | k + 1 => if lastv r k < r k then r k else lastv r k
def stp (r : Nat → Int64) : Nat → List Nat
  | 0 => []
  | k + 1 => if lastv r k < r k then stp r k ++ [k] else stp r k
theorem stp_y {r : Nat → Int64} {k : Nat} (h : lastv r k < r k) : stp r (k + 1) = stp r k ++ [k] := if_pos h
theorem stp_n {r : Nat → Int64} {k : Nat} (h : ¬ lastv r k < r k) : stp r (k + 1) = stp r k := if_neg h
theorem las_y {r : Nat → Int64} {k : Nat} (h : lastv r k < r k) : lastv r (k + 1) = r k := if_pos h
theorem las_n {r : Nat → Int64} {k : Nat} (h : ¬ lastv r k < r k) : lastv r (k + 1) = lastv r k := if_neg h
theorem stp_le (r : Nat → Int64) : ∀ n, (stp r n).length ≤ n
  | 0 => Nat.le_refl _
  | n + 1 => by
    have := stp_le r n
    by_cases h : lastv r n < r n
    · rw [stp_y h]; simp; omega
    · rw [stp_n h]; omega
def Mono (r : Nat → Int64) : Prop := ∀ i, i < 3 → (r i).toInt ≤ (r (i + 1)).toInt
theorem las_eq {r : Nat → Int64} (hm : Mono r) : ∀ k, k < 4 → lastv r (k + 1) = r k
  | 0, _ => by
    by_cases h : lastv r 0 < r 0
    · exact las_y h
    · rw [las_n h]
      rw [Int64.lt_iff_toInt_lt] at h
      have : (lastv r 0).toInt = -9223372036854775808 := (by decide : (-9223372036854775808 : Int64).toInt = -9223372036854775808)
      have := rng64 (r 0)
      exact Int64.toInt_inj.mp (by omega)
  | k + 1, hk => by
    have ih := las_eq hm k (by omega)
    have := hm k (by omega)
    by_cases h : lastv r (k + 1) < r (k + 1)
    · exact las_y h
    · rw [las_n h]
      rw [Int64.lt_iff_toInt_lt, ih] at h
      rw [ih]; exact Int64.toInt_inj.mp (by omega)
theorem getD_snoc (l : List Nat) (x j : Nat) (h : j < l.length + 1) : (l ++ [x]).getD j 0 = if j = l.length then x else l.getD j 0 := by
  by_cases q : j = l.length
  · subst q; simp [List.getD]
  · rw [if_neg q]; simp [List.getD, List.getElem?_append_left (show j < l.length by omega)]
/-- the last value is that at the last step -/
theorem las_at (r : Nat → Int64) : ∀ k, ((stp r k).length = 0 → lastv r k = -9223372036854775808) ∧ (0 < (stp r k).length → lastv r k = r ((stp r k).getD ((stp r k).length - 1) 0))
  | 0 => ⟨fun _ => rfl, fun h => absurd h (by simp [stp])⟩
  | k + 1 => by
    obtain ⟨h1, h2⟩ := las_at r k
    by_cases h : lastv r k < r k
    · rw [stp_y h, las_y h]
      refine ⟨fun q => by simp at q, fun _ => ?_⟩
      rw [getD_snoc _ _ _ (by simp), if_pos (by simp)]
    · rw [stp_n h, las_n h]; exact ⟨h1, h2⟩
theorem stp_mono (r : Nat → Int64) (k : Nat) : ∀ d, (stp r k).length ≤ (stp r (k + d)).length ∧ (∀ j, j < (stp r k).length → (stp r (k + d)).getD j 0 = (stp r k).getD j 0) ∧ ∀ j, (stp r k).length ≤ j → j < (stp r (k + d)).length → k ≤ (stp r (k + d)).getD j 0
  | 0 => ⟨Nat.le_refl _, fun _ _ => rfl, fun j h1 h2 => absurd h2 (by simp; omega)⟩
  | d + 1 => by
    obtain ⟨h1, h2, h3⟩ := stp_mono r k d
    rw [← Nat.add_assoc]
    by_cases h : lastv r (k + d) < r (k + d)
    · rw [stp_y h]
      refine ⟨by simp; omega, fun j hj => ?_, fun j q1 q2 => ?_⟩
      · rw [getD_snoc _ _ _ (by omega), if_neg (by omega)]; exact h2 j hj
      · simp at q2
        rw [getD_snoc _ _ _ q2]
        by_cases q : j = (stp r (k + d)).length
        · rw [if_pos q]; omega
        · rw [if_neg q]; exact h3 j q1 (by omega)
    · rw [stp_n h]; exact ⟨h1, h2, h3⟩
/-- what the inner loop meets -/
theorem stp_in {r : Nat → Int64} {i n : Nat} (hi : i < n) (h : lastv r i < r i) : (stp r i).length < (stp r n).length ∧ (stp r n).getD (stp r i).length 0 = i ∧ (stp r (i + 1)).length = (stp r i).length + 1 := by
  obtain ⟨d, rfl⟩ : ∃ d, n = i + 1 + d := ⟨n - (i + 1), by omega⟩
  obtain ⟨h1, h2, h3⟩ := stp_mono r (i + 1) d
  rw [stp_y h] at h1 h2
  have e : (stp r i ++ [i]).length = (stp r i).length + 1 := by simp
  refine ⟨by omega, ?_, by rw [stp_y h]; exact e⟩
  rw [h2 _ (by omega), getD_snoc _ _ _ (by omega), if_pos rfl]
theorem stp_out {r : Nat → Int64} {k n j : Nat} (hk : k ≤ n) (hj : j = (stp r k).length) (hl : j < (stp r n).length) : k ≤ (stp r n).getD j 0 := by
  obtain ⟨d, rfl⟩ : ∃ d, n = k + d := ⟨n - k, by omega⟩
  exact (stp_mono r k d).2.2 j (by omega) hl
theorem stp_lt (r : Nat → Int64) : ∀ k j, j < (stp r k).length → (stp r k).getD j 0 < k
  | 0, j, h => absurd h (by simp [stp])
  | k + 1, j, h => by
    by_cases q : lastv r k < r k
    · rw [stp_y q] at h ⊢
      simp at h
      rw [getD_snoc _ _ _ h]
      by_cases e : j = (stp r k).length
      · rw [if_pos e]; omega
      · rw [if_neg e]; have := stp_lt r k j (by omega); omega
    · rw [stp_n q] at h ⊢; have := stp_lt r k j h; omega
/-- what is written at i -/
theorem out_at {r : Nat → Int64} (hm : Mono r) {i n : Nat} (hn : 1 ≤ n) (hn4 : n ≤ 4) : (if (stp r (min (i + 1) n)).length = 0 then (-9223372036854775808 : Int64) else r ((stp r n).getD ((stp r (min (i + 1) n)).length - 1) 0)) = r (min i (n - 1)) := by
  obtain ⟨k, hk⟩ : ∃ k, min (i + 1) n = k + 1 := ⟨min i (n - 1), by omega⟩
  have hk' : min i (n - 1) = k := by omega
  rw [hk, hk', ← las_eq hm k (by omega)]
  obtain ⟨h1, h2⟩ := las_at r (k + 1)
  by_cases q : (stp r (k + 1)).length = 0
  · rw [if_pos q, h1 q]
  · rw [if_neg q, h2 (by omega)]
    obtain ⟨d, rfl⟩ : ∃ d, n = k + 1 + d := ⟨n - (k + 1), by omega⟩
    rw [(stp_mono r (k + 1) d).2.1 _ (by omega)]
theorem on (k : Nat) (h : k < 2147483648) : (Int32.ofNat k).toInt = k := Int32.toInt_ofNat_small h
theorem on_nat (k : Nat) (h : k < 2147483648) : (Int32.ofNat k).toNatClampNeg = k := by
  have := on k h
  have e : (Int32.ofNat k).toNatClampNeg = (Int32.ofNat k).toInt.toNat := rfl
  omega
theorem on_succ (k : Nat) : Int32.ofNat k + (1 : Int32) = Int32.ofNat (k + 1) := by rw [Int32.ofNat_add]; rfl
theorem on_lt (a b : Nat) (ha : a < 2147483648) (hb : b < 2147483648) : Int32.ofNat a < Int32.ofNat b ↔ a < b := by
  rw [Int32.lt_iff_toInt_lt, on a ha, on b hb]; omega
theorem at_succ (k : Nat) : Int32.ofNat k - (1 : Int32) + (1 : Int32) = Int32.ofNat k := Int32.sub_add_cancel _ _
theorem at_next (k : Nat) : Int32.ofNat k - (1 : Int32) + (1 : Int32) = Int32.ofNat (k + 1) - (1 : Int32) := by rw [← on_succ, Int32.add_sub_cancel, Int32.sub_add_cancel]
theorem at_int (k : Nat) (h : k < 2147483648) : (Int32.ofNat k - (1 : Int32)).toInt = (k : Int) - 1 := by
  have h1 := on k h; have h2 := c_isub (Int32.ofNat k) 1; have h3 := rng32 (Int32.ofNat k - 1)
  have h4 : (1 : Int32).toInt = 1 := by decide
  omega
theorem at_nat (k : Nat) (h : k < 2147483648) (h0 : 0 < k) : (Int32.ofNat k - (1 : Int32)).toNatClampNeg = k - 1 := by
  have := at_int k h
  have e : (Int32.ofNat k - (1 : Int32)).toNatClampNeg = (Int32.ofNat k - (1 : Int32)).toInt.toNat := rfl
  omega
theorem onL_lt (a b : Nat) (ha : a < 2147483648) (hb : b < 2147483648) : (Int32.ofNat a).toInt64 < (Int32.ofNat b).toInt64 ↔ a < b := by
  rw [Int64.lt_iff_toInt_lt, c_i2l, c_i2l, on a ha, on b hb]; omega
/-- the array holds what val says at the steps -/
def TkL (f : Nat → Value) (t : List Nat) (val : Nat → Int64) : Prop := ∀ j, j < t.length → f j = .long (val (t.getD j 0))
theorem TkL.snoc {f : Nat → Value} {t : List Nat} {val : Nat → Int64} (h : TkL f t val) {x sl : Nat} (hs : sl = t.length) : TkL (fun i => if i = sl then .long (val x) else f i) (t ++ [x]) val := fun j hj => by
  subst hs
  rw [List.length_append] at hj
  rw [getD_snoc _ _ _ (by simpa using hj)]
  by_cases q : j = t.length
  · rw [if_pos q]; dsimp only; rw [if_pos q]
  · rw [if_neg q]; dsimp only; rw [if_neg q]; exact h j (by simp at hj; omega)
def cst (i : Nat) : Int64 := (Int32.ofNat i).toInt64
theorem own_oa {fo : Nat → Value} {R : Nat → Int64} {HS i : Nat} (ha : ∀ j, j < i → fo j = .long (R (min j HS))) (hi : i < 2147483648) : ∀ j, j < i + 1 → (fun j => if j = (Int32.ofNat i).toNatClampNeg then Value.long (R (min i HS)) else fo j) j = .long (R (min j HS)) := fun j hj => by
  show (if j = (Int32.ofNat i).toNatClampNeg then Value.long (R (min i HS)) else fo j) = _
  rw [on_nat i hi]
  by_cases q : j = i
  · rw [if_pos q, q]
  · rw [if_neg q]; exact ha j (by omega)
theorem own_ob {fo : Nat → Value} {v w : Value} {i : Nat} (hb : ∀ j, i ≤ j → fo j = w) (hi : i < 2147483648) : ∀ j, i + 1 ≤ j → (fun j => if j = (Int32.ofNat i).toNatClampNeg then v else fo j) j = w := fun j hj => by
  show (if j = (Int32.ofNat i).toNatClampNeg then v else fo j) = _
  rw [on_nat i hi, if_neg (by omega)]; exact hb j (by omega)
theorem own_so {R : Nat → Int64} {i n : Nat} (hc : (stp R (min (i + 1) n)).length < (stp R n).length) : i + 1 ≤ (stp R n).getD (stp R (min (i + 1) n)).length 0 := by
  by_cases q : i + 1 ≤ n
  · exact stp_out q (by rw [show min (i + 1) n = i + 1 from by omega]) hc
  · rw [show min (i + 1) n = n from by omega] at hc; omega
theorem own_cc {R : Nat → Int64} {i n : Nat} (h : ¬ (i < n ∧ lastv R i < R i)) : (stp R (min (i + 1) n)).length = (stp R (min i n)).length := by
  by_cases q : i < n
  · rw [show min (i + 1) n = i + 1 from by omega, show min i n = i from by omega, stp_n (fun z => h ⟨q, z⟩)]
  · rw [show min (i + 1) n = n from by omega, show min i n = n from by omega]
theorem own_le {R : Nat → Int64} {i n : Nat} : (stp R (min i n)).length ≤ (stp R n).length := by
  have := (stp_mono R (min i n) (n - min i n)).1
  rw [show min i n + (n - min i n) = n from by omega] at this; exact this
theorem own_mi {i HS : Nat} (hi : i < 2147483648) (hs : HS < 2147483648) : (if Int32.ofNat HS < Int32.ofNat i then Int32.ofNat HS else Int32.ofNat i) = Int32.ofNat (min i HS) := by
  by_cases q : HS < i
  · rw [if_pos ((on_lt _ _ hs hi).mpr q), show min i HS = HS from by omega]
  · rw [if_neg (mt (on_lt _ _ hs hi).mp q), show min i HS = i from by omega]
theorem ef_c_minL (m : MethodId) (x0 : Int64) (x1 : Int64) : entryFrame m #[(.long x0), (.long x1)] 4 = mkF m 0 #[.val (.long x0), .second, .val (.long x1), .second] [] := by first | (simp [entryFrame, mkF, argsToLocals, Value.category]; done) | rfl
set_option maxRecDepth 65536 in
set_option maxHeartbeats 40000000 in
theorem c_minL (l : Launch) (Z : State) (a0 : Array Value) (hw : ∀ d ∈ tables_1, d.before a0 Z = true) (u v : Int64) (h0 : Heap)  :
    Con l Z (⟨"java/lang/Math", "min", "(JJ)J"⟩ : MethodName) jdk_29_method_70_code 4 (some .long) ({ frames := 0, cells := 0, slots := 0, locals := 0 } : Room) #[(.long u), (.long v)] h0 (PQ (some (.long (if v < u then v else u))) h0) := by
  refine Con.intro (Jvm.Free.JP.mathPlain rfl (by decide +kernel)) ?_
  intro p e s m below meth c s₁ hx hby hml hrt hlk hZ hown hnm X0 e0
  replace hown : s.vm.findClass "java/lang/Math" = some m.cls := hown
  refine GoOn.cast (ef_c_minL m u v) ?_
  show GoOn p e below _ (s₁.setTop (mkF m 0 #[.val (.long u), .second, .val (.long v), .second] []))
  refine GoOn.step (fun t₀ k₀ => XS.lloadN X0.here hx rfl (hb hby d1_0) rfl k₀) ?_
  show GoOn p e below _ (s₁.setTop (mkF m 1 #[.val (.long u), .second, .val (.long v), .second] [(.long u)]))
  refine GoOn.step (fun t₀ k₀ => XS.lloadN X0.here hx rfl (hb hby d1_1) rfl k₀) ?_
  show GoOn p e below _ (s₁.setTop (mkF m 2 #[.val (.long u), .second, .val (.long v), .second] [(.long v), (.long u)]))
  refine GoOn.step (fun t₀ k₀ => XS.lcmp X0.here hx rfl (hb hby d1_2) rfl k₀) ?_
  show GoOn p e below _ (s₁.setTop (mkF m 3 #[.val (.long u), .second, .val (.long v), .second] [(.int (lcmpW u v))]))
  by_cases hc : v < u
  · refine GoOn.step (fun t₀ k₀ => XS.ifYes X0.here hx rfl (pc0 := 3) (pc' := 10) rfl (hb hby d1_3) rfl ((if0 _ _).trans (tlt ((lw_gt _ _).mpr hc)).2.2.1) (by decide) (by decide) k₀) ?_
    show GoOn p e below _ (s₁.setTop (mkF m 10 #[.val (.long u), .second, .val (.long v), .second] []))
    refine GoOn.step (fun t₀ k₀ => XS.lloadN X0.here hx rfl (hb hby d1_10) rfl k₀) ?_
    show GoOn p e below _ (s₁.setTop (mkF m 11 #[.val (.long u), .second, .val (.long v), .second] [(.long v)]))
    exact GoOn.retJ X0 hx hrt hlk (hb hby d1_11) (by decide) (by decide) (by first | exact ⟨by rw [if_pos hc], rfl, rfl⟩ | (rw [e0]; exact ⟨by rw [if_pos hc], rfl, rfl⟩))
  · refine GoOn.step (fun t₀ k₀ => XS.ifNo X0.here hx rfl (hb hby d1_3) rfl ((if0 _ _).trans (flt (mt (lw_gt _ _).mp hc)).2.2.1) k₀) ?_
    show GoOn p e below _ (s₁.setTop (mkF m 6 #[.val (.long u), .second, .val (.long v), .second] []))
    refine GoOn.step (fun t₀ k₀ => XS.lloadN X0.here hx rfl (hb hby d1_6) rfl k₀) ?_
    show GoOn p e below _ (s₁.setTop (mkF m 7 #[.val (.long u), .second, .val (.long v), .second] [(.long u)]))
    refine GoOn.step (fun t₀ k₀ => XS.goto X0.here hx rfl (pc0 := 7) (pc' := 11) rfl (hb hby d1_7) (by decide) (by decide) k₀) ?_
    show GoOn p e below _ (s₁.setTop (mkF m 11 #[.val (.long u), .second, .val (.long v), .second] [(.long u)]))
    exact GoOn.retJ X0 hx hrt hlk (hb hby d1_11) (by decide) (by decide) (by first | exact ⟨by rw [if_neg hc], rfl, rfl⟩ | (rw [e0]; exact ⟨by rw [if_neg hc], rfl, rfl⟩))
theorem ef_c_maxL (m : MethodId) (x0 : Int64) (x1 : Int64) : entryFrame m #[(.long x0), (.long x1)] 4 = mkF m 0 #[.val (.long x0), .second, .val (.long x1), .second] [] := by first | (simp [entryFrame, mkF, argsToLocals, Value.category]; done) | rfl
set_option maxRecDepth 65536 in
set_option maxHeartbeats 40000000 in
theorem c_maxL (l : Launch) (Z : State) (a0 : Array Value) (hw : ∀ d ∈ tables_1, d.before a0 Z = true) (u v : Int64) (h0 : Heap)  :
    Con l Z (⟨"java/lang/Math", "max", "(JJ)J"⟩ : MethodName) jdk_29_method_66_code 4 (some .long) ({ frames := 0, cells := 0, slots := 0, locals := 0 } : Room) #[(.long u), (.long v)] h0 (PQ (some (.long (if u < v then v else u))) h0) := by
  refine Con.intro (Jvm.Free.JP.mathPlain rfl (by decide +kernel)) ?_
  intro p e s m below meth c s₁ hx hby hml hrt hlk hZ hown hnm X0 e0
  replace hown : s.vm.findClass "java/lang/Math" = some m.cls := hown
  refine GoOn.cast (ef_c_maxL m u v) ?_
  show GoOn p e below _ (s₁.setTop (mkF m 0 #[.val (.long u), .second, .val (.long v), .second] []))
  refine GoOn.step (fun t₀ k₀ => XS.lloadN X0.here hx rfl (hb hby d2_0) rfl k₀) ?_
  show GoOn p e below _ (s₁.setTop (mkF m 1 #[.val (.long u), .second, .val (.long v), .second] [(.long u)]))
  refine GoOn.step (fun t₀ k₀ => XS.lloadN X0.here hx rfl (hb hby d2_1) rfl k₀) ?_
  show GoOn p e below _ (s₁.setTop (mkF m 2 #[.val (.long u), .second, .val (.long v), .second] [(.long v), (.long u)]))
  refine GoOn.step (fun t₀ k₀ => XS.lcmp X0.here hx rfl (hb hby d2_2) rfl k₀) ?_
  show GoOn p e below _ (s₁.setTop (mkF m 3 #[.val (.long u), .second, .val (.long v), .second] [(.int (lcmpW u v))]))
  by_cases hc : u < v
  · refine GoOn.step (fun t₀ k₀ => XS.ifYes X0.here hx rfl (pc0 := 3) (pc' := 10) rfl (hb hby d2_3) rfl ((if0 _ _).trans (tlt ((lw_lt _ _).mpr hc)).1) (by decide) (by decide) k₀) ?_
    show GoOn p e below _ (s₁.setTop (mkF m 10 #[.val (.long u), .second, .val (.long v), .second] []))
    refine GoOn.step (fun t₀ k₀ => XS.lloadN X0.here hx rfl (hb hby d2_10) rfl k₀) ?_
    show GoOn p e below _ (s₁.setTop (mkF m 11 #[.val (.long u), .second, .val (.long v), .second] [(.long v)]))
    exact GoOn.retJ X0 hx hrt hlk (hb hby d2_11) (by decide) (by decide) (by first | exact ⟨by rw [if_pos hc], rfl, rfl⟩ | (rw [e0]; exact ⟨by rw [if_pos hc], rfl, rfl⟩))
  · refine GoOn.step (fun t₀ k₀ => XS.ifNo X0.here hx rfl (hb hby d2_3) rfl ((if0 _ _).trans (flt (mt (lw_lt _ _).mp hc)).1) k₀) ?_
    show GoOn p e below _ (s₁.setTop (mkF m 6 #[.val (.long u), .second, .val (.long v), .second] []))
    refine GoOn.step (fun t₀ k₀ => XS.lloadN X0.here hx rfl (hb hby d2_6) rfl k₀) ?_
    show GoOn p e below _ (s₁.setTop (mkF m 7 #[.val (.long u), .second, .val (.long v), .second] [(.long u)]))
    refine GoOn.step (fun t₀ k₀ => XS.goto X0.here hx rfl (pc0 := 7) (pc' := 11) rfl (hb hby d2_7) (by decide) (by decide) k₀) ?_
    show GoOn p e below _ (s₁.setTop (mkF m 11 #[.val (.long u), .second, .val (.long v), .second] [(.long u)]))
    exact GoOn.retJ X0 hx hrt hlk (hb hby d2_11) (by decide) (by decide) (by first | exact ⟨by rw [if_neg hc], rfl, rfl⟩ | (rw [e0]; exact ⟨by rw [if_neg hc], rfl, rfl⟩))
theorem ef_c_minI (m : MethodId) (x0 : Int32) (x1 : Int32) : entryFrame m #[(.int x0), (.int x1)] 2 = mkF m 0 #[.val (.int x0), .val (.int x1)] [] := by first | (simp [entryFrame, mkF, argsToLocals, Value.category]; done) | rfl
set_option maxRecDepth 65536 in
set_option maxHeartbeats 40000000 in
theorem c_minI (l : Launch) (Z : State) (a0 : Array Value) (hw : ∀ d ∈ tables_1, d.before a0 Z = true) (u v : Int32) (h0 : Heap)  :
    Con l Z (⟨"java/lang/Math", "min", "(II)I"⟩ : MethodName) jdk_29_method_69_code 2 (some .int) ({ frames := 0, cells := 0, slots := 0, locals := 0 } : Room) #[(.int u), (.int v)] h0 (PQ (some (.int (if v < u then v else u))) h0) := by
  refine Con.intro (Jvm.Free.JP.mathPlain rfl (by decide +kernel)) ?_
  intro p e s m below meth c s₁ hx hby hml hrt hlk hZ hown hnm X0 e0
  replace hown : s.vm.findClass "java/lang/Math" = some m.cls := hown
  refine GoOn.cast (ef_c_minI m u v) ?_
  show GoOn p e below _ (s₁.setTop (mkF m 0 #[.val (.int u), .val (.int v)] []))
  refine GoOn.step (fun t₀ k₀ => XS.iloadN X0.here hx rfl (hb hby d10_0) rfl k₀) ?_
  show GoOn p e below _ (s₁.setTop (mkF m 1 #[.val (.int u), .val (.int v)] [(.int u)]))
  refine GoOn.step (fun t₀ k₀ => XS.iloadN X0.here hx rfl (hb hby d10_1) rfl k₀) ?_
  show GoOn p e below _ (s₁.setTop (mkF m 2 #[.val (.int u), .val (.int v)] [(.int v), (.int u)]))
  by_cases hc : v < u
  · refine GoOn.step (fun t₀ k₀ => XS.icmpYes X0.here hx rfl (pc0 := 2) (pc' := 9) rfl (hb hby d10_2) rfl (tlt hc).2.2.1 (by decide) (by decide) k₀) ?_
    show GoOn p e below _ (s₁.setTop (mkF m 9 #[.val (.int u), .val (.int v)] []))
    refine GoOn.step (fun t₀ k₀ => XS.iloadN X0.here hx rfl (hb hby d10_9) rfl k₀) ?_
    show GoOn p e below _ (s₁.setTop (mkF m 10 #[.val (.int u), .val (.int v)] [(.int v)]))
    exact GoOn.retI X0 hx hrt hlk (hb hby d10_10) (by decide) (by decide) (by first | exact ⟨by rw [if_pos hc], rfl, rfl⟩ | (rw [e0]; exact ⟨by rw [if_pos hc], rfl, rfl⟩))
  · refine GoOn.step (fun t₀ k₀ => XS.icmpNo X0.here hx rfl (hb hby d10_2) rfl (flt hc).2.2.1 k₀) ?_
    show GoOn p e below _ (s₁.setTop (mkF m 5 #[.val (.int u), .val (.int v)] []))
    refine GoOn.step (fun t₀ k₀ => XS.iloadN X0.here hx rfl (hb hby d10_5) rfl k₀) ?_
    show GoOn p e below _ (s₁.setTop (mkF m 6 #[.val (.int u), .val (.int v)] [(.int u)]))
    refine GoOn.step (fun t₀ k₀ => XS.goto X0.here hx rfl (pc0 := 6) (pc' := 10) rfl (hb hby d10_6) (by decide) (by decide) k₀) ?_
    show GoOn p e below _ (s₁.setTop (mkF m 10 #[.val (.int u), .val (.int v)] [(.int u)]))
    exact GoOn.retI X0 hx hrt hlk (hb hby d10_10) (by decide) (by decide) (by first | exact ⟨by rw [if_neg hc], rfl, rfl⟩ | (rw [e0]; exact ⟨by rw [if_neg hc], rfl, rfl⟩))
def ViQ (Z : State) (a : Addr) (h0 : Heap) (n0 : Nat) : Option Value → Heap → List Loc → Prop := fun r h L => ∃ (xc xv sc sv : Addr) (f1 f2 f3 f4 : Nat → Value), r = none ∧ Fr n0 L ∧ Keep h0 h [a] ∧ Fld Z h a "com/example/treesack/treesack/core/ValueSteps" "costs" "[J" (.ref xc) ∧ Fld Z h a "com/example/treesack/treesack/core/ValueSteps" "values" "[J" (.ref xv) ∧ Fld Z h a "com/example/treesack/treesack/core/ValueSteps" "spareCosts" "[J" (.ref sc) ∧ Fld Z h a "com/example/treesack/treesack/core/ValueSteps" "spareValues" "[J" (.ref sv) ∧ Fld Z h a "com/example/treesack/treesack/core/ValueSteps" "count" "I" (.int (0 : Int32)) ∧ Fld Z h a "com/example/treesack/treesack/core/ValueSteps" "parts" "[J" .null ∧ Jar Z h xc .long 4 f1 ∧ Jar Z h xv .long 4 f2 ∧ Jar Z h sc .long 4 f3 ∧ Jar Z h sv .long 4 f4 ∧ (h0.size ≤ xc ∧ h0.size ≤ xv ∧ h0.size ≤ sc ∧ h0.size ≤ sv) ∧ sc ≠ sv ∧ (sc ≠ a ∧ sv ≠ a)
theorem ef_c_ini (m : MethodId) (x0 : Addr) : entryFrame m #[(.ref x0)] 1 = mkF m 0 #[.val (.ref x0)] [] := by first | (simp [entryFrame, mkF, argsToLocals, Value.category]; done) | rfl
set_option maxRecDepth 65536 in
set_option maxHeartbeats 40000000 in
theorem c_ini (l : Launch) (Z : State) (a0 : Array Value) (hw : ∀ d ∈ tables_1, d.before a0 Z = true) (a : Addr) (h0 : Heap) (n0 : Nat) (Z0 : n0 ≤ h0.size) (Ex : Exa Z h0 a "com/example/treesack/treesack/core/ValueSteps") (F_costs : Fld Z h0 a "com/example/treesack/treesack/core/ValueSteps" "costs" "[J" .null) (F_values : Fld Z h0 a "com/example/treesack/treesack/core/ValueSteps" "values" "[J" .null) (F_spareCosts : Fld Z h0 a "com/example/treesack/treesack/core/ValueSteps" "spareCosts" "[J" .null) (F_spareValues : Fld Z h0 a "com/example/treesack/treesack/core/ValueSteps" "spareValues" "[J" .null) (F_count : Fld Z h0 a "com/example/treesack/treesack/core/ValueSteps" "count" "I" (.int (0 : Int32))) (F_parts : Fld Z h0 a "com/example/treesack/treesack/core/ValueSteps" "parts" "[J" .null) (ga : n0 ≤ a) :
    Con l Z (⟨"com/example/treesack/treesack/core/ValueSteps", "<init>", "()V"⟩ : MethodName) prog_62_method_1_code 1 none ({ frames := 1, cells := 4, slots := 16, locals := 13 } : Room) #[(.ref a)] h0 (ViQ Z a h0 n0) := by
  refine Con.intro (plainFor_of_name pn_0) ?_
  intro p e s m below meth c s₁ hx hby hml hrt hlk hZ hown hnm X0 e0
  replace hown : s.vm.findClass "com/example/treesack/treesack/core/ValueSteps" = some m.cls := hown
  have N0 := Fr.nil n0
  refine GoOn.cast (ef_c_ini m a) ?_
  show GoOn p e below _ (s₁.setTop (mkF m 0 #[.val (.ref a)] []))
  have K0 : Keep h0 h0 [a] := Keep.refl _ _
  refine GoOn.step (fun t₀ k₀ => XS.aloadN X0.here hx rfl (hb hby d3_0) rfl rfl k₀) ?_
  show GoOn p e below _ (s₁.setTop (mkF m 1 #[.val (.ref a)] [(.ref a)]))
  obtain ⟨T1, X1, e1, st1⟩ := initO X0 hx hZ hown (hw _ (List.mem_of_getElem? (i := 16) rfl)) (hw _ (List.mem_of_getElem? (i := 17) rfl)) (hw _ (List.mem_of_getElem? (i := 18) rfl)) e0 (g := (mkF m 1 #[.val (.ref a)] [(.ref a)])) rfl (by rw [hml]; rfl) rfl (hb hby d3_1) (by decide) (W := 0) (by show 2 * 0 + _ ≤ _; exact Nat.le_of_eq rfl) (by decide)
  refine GoOn.step st1 ?_
  show GoOn p e below _ (T1.setTop (mkF m 4 #[.val (.ref a)] []))
  refine GoOn.step (fun t₀ k₀ => XS.aloadN X1.here hx rfl (hb hby d3_4) rfl rfl k₀) ?_
  show GoOn p e below _ (T1.setTop (mkF m 5 #[.val (.ref a)] [(.ref a)]))
  refine GoOn.step (fun t₀ k₀ => XS.iconst X1.here hx rfl (hb hby d3_5) k₀) ?_
  show GoOn p e below _ (T1.setTop (mkF m 6 #[.val (.ref a)] [(.int (4 : Int32)), (.ref a)]))
  obtain ⟨T2, h2, k2, X2, e2, E2, A2, st2⟩ := newP X1 hx hZ (hw _ (List.mem_of_getElem? (i := 7) rfl)) e1 (g := (mkF m 6 #[.val (.ref a)] [(.int (4 : Int32)), (.ref a)])) rfl (hb hby d3_6) rfl (by decide) (cap := 4) (by decide) (by decide) (by decide) (by decide)
  obtain ⟨xc, g2⟩ : ∃ z, z = h0.size := ⟨_, rfl⟩
  rw [← g2] at A2 st2
  have lt_a_xc : a < xc := by rw [g2]; exact Ex.lt
  have ne_a_xc : a ≠ xc := Nat.ne_of_lt lt_a_xc
  have le_xc : n0 ≤ xc := by rw [g2]; exact Z0
  have sz_xc : h0.size ≤ xc := by rw [g2]; exact K0.1
  replace Ex := Ex.ext E2
  replace F_costs := F_costs.ext E2
  replace F_values := F_values.ext E2
  replace F_spareCosts := F_spareCosts.ext E2
  replace F_spareValues := F_spareValues.ext E2
  replace F_count := F_count.ext E2
  replace F_parts := F_parts.ext E2
  replace Z0 := Nat.le_trans Z0 E2.1
  replace K0 := K0.ext E2
  have J_xc : Jar Z h2 xc .long 4 (fun _ => defaultValue .long) := Jar.new A2 (by decide)
  refine GoOn.step st2 ?_
  show GoOn p e below _ (T2.setTop (mkF m 8 #[.val (.ref a)] [(.ref xc), (.ref a)]))
  obtain ⟨T3, h3, X3, e3, W3, st3⟩ := putF X2 hx hZ hown (host := "") (Or.inl (hw _ (List.mem_of_getElem? (i := 19) rfl))) Via.refl e2 F_costs Ex (Or.inl (hw _ (List.mem_of_getElem? (i := 20) rfl))) (hw _ (List.mem_of_getElem? (i := 11) rfl)) (ty := (.array .long)) (by decide) rfl rfl (g := (mkF m 8 #[.val (.ref a)] [(.ref xc), (.ref a)])) rfl rfl (hb hby d3_8)
  replace N0 := Fr.snoc X3 N0 ga
  replace Ex := Ex.wr W3
  replace F_costs := Fld.same W3 F_costs
  replace F_values := F_values.other W3 (Or.inr (slot_ne (Or.inl (hw _ (List.mem_of_getElem? (i := 22) rfl))) (Or.inl (hw _ (List.mem_of_getElem? (i := 20) rfl))) (by decide) (t := (.array .long)) (t' := (.array .long)) (by decide) (by decide)))
  replace F_spareCosts := F_spareCosts.other W3 (Or.inr (slot_ne (Or.inl (hw _ (List.mem_of_getElem? (i := 24) rfl))) (Or.inl (hw _ (List.mem_of_getElem? (i := 20) rfl))) (by decide) (t := (.array .long)) (t' := (.array .long)) (by decide) (by decide)))
  replace F_spareValues := F_spareValues.other W3 (Or.inr (slot_ne (Or.inl (hw _ (List.mem_of_getElem? (i := 26) rfl))) (Or.inl (hw _ (List.mem_of_getElem? (i := 20) rfl))) (by decide) (t := (.array .long)) (t' := (.array .long)) (by decide) (by decide)))
  replace F_count := F_count.other W3 (Or.inr (slot_ne (Or.inl (hw _ (List.mem_of_getElem? (i := 43) rfl))) (Or.inl (hw _ (List.mem_of_getElem? (i := 20) rfl))) (by decide) (t := .int) (t' := (.array .long)) (by decide) (by decide)))
  replace F_parts := F_parts.other W3 (Or.inr (slot_ne (Or.inl (hw _ (List.mem_of_getElem? (i := 45) rfl))) (Or.inl (hw _ (List.mem_of_getElem? (i := 20) rfl))) (by decide) (t := (.array .long)) (t' := (.array .long)) (by decide) (by decide)))
  replace J_xc := J_xc.other W3 (Ne.symm ne_a_xc)
  replace Z0 := Nat.le_trans Z0 (Nat.le_of_eq W3.size.symm)
  replace K0 := K0.wr W3 (Or.inl (by simp))
  refine GoOn.step st3 ?_
  show GoOn p e below _ (T3.setTop (mkF m 11 #[.val (.ref a)] []))
  refine GoOn.step (fun t₀ k₀ => XS.aloadN X3.here hx rfl (hb hby d3_11) rfl rfl k₀) ?_
  show GoOn p e below _ (T3.setTop (mkF m 12 #[.val (.ref a)] [(.ref a)]))
  refine GoOn.step (fun t₀ k₀ => XS.iconst X3.here hx rfl (hb hby d3_12) k₀) ?_
  show GoOn p e below _ (T3.setTop (mkF m 13 #[.val (.ref a)] [(.int (4 : Int32)), (.ref a)]))
  obtain ⟨T4, h4, k4, X4, e4, E4, A4, st4⟩ := newP X3 hx hZ (hw _ (List.mem_of_getElem? (i := 7) rfl)) e3 (g := (mkF m 13 #[.val (.ref a)] [(.int (4 : Int32)), (.ref a)])) rfl (hb hby d3_13) rfl (by decide) (cap := 4) (by decide) (by decide) (by decide) (by decide)
  obtain ⟨xv, g4⟩ : ∃ z, z = h3.size := ⟨_, rfl⟩
  rw [← g4] at A4 st4
  have lt_a_xv : a < xv := by rw [g4]; exact Ex.lt
  have ne_a_xv : a ≠ xv := Nat.ne_of_lt lt_a_xv
  have lt_xc_xv : xc < xv := by rw [g4]; exact J_xc.lt
  have ne_xc_xv : xc ≠ xv := Nat.ne_of_lt lt_xc_xv
  have le_xv : n0 ≤ xv := by rw [g4]; exact Z0
  have sz_xv : h0.size ≤ xv := by rw [g4]; exact K0.1
  replace Ex := Ex.ext E4
  replace F_costs := F_costs.ext E4
  replace F_values := F_values.ext E4
  replace F_spareCosts := F_spareCosts.ext E4
  replace F_spareValues := F_spareValues.ext E4
  replace F_count := F_count.ext E4
  replace F_parts := F_parts.ext E4
  replace J_xc := J_xc.ext E4
  replace Z0 := Nat.le_trans Z0 E4.1
  replace K0 := K0.ext E4
  have J_xv : Jar Z h4 xv .long 4 (fun _ => defaultValue .long) := Jar.new A4 (by decide)
  refine GoOn.step st4 ?_
  show GoOn p e below _ (T4.setTop (mkF m 15 #[.val (.ref a)] [(.ref xv), (.ref a)]))
  obtain ⟨T5, h5, X5, e5, W5, st5⟩ := putF X4 hx hZ hown (host := "") (Or.inl (hw _ (List.mem_of_getElem? (i := 21) rfl))) Via.refl e4 F_values Ex (Or.inl (hw _ (List.mem_of_getElem? (i := 22) rfl))) (hw _ (List.mem_of_getElem? (i := 11) rfl)) (ty := (.array .long)) (by decide) rfl rfl (g := (mkF m 15 #[.val (.ref a)] [(.ref xv), (.ref a)])) rfl rfl (hb hby d3_15)
  replace N0 := Fr.snoc X5 N0 ga
  replace Ex := Ex.wr W5
  replace F_costs := F_costs.other W5 (Or.inr (slot_ne (Or.inl (hw _ (List.mem_of_getElem? (i := 20) rfl))) (Or.inl (hw _ (List.mem_of_getElem? (i := 22) rfl))) (by decide) (t := (.array .long)) (t' := (.array .long)) (by decide) (by decide)))
  replace F_values := Fld.same W5 F_values
  replace F_spareCosts := F_spareCosts.other W5 (Or.inr (slot_ne (Or.inl (hw _ (List.mem_of_getElem? (i := 24) rfl))) (Or.inl (hw _ (List.mem_of_getElem? (i := 22) rfl))) (by decide) (t := (.array .long)) (t' := (.array .long)) (by decide) (by decide)))
  replace F_spareValues := F_spareValues.other W5 (Or.inr (slot_ne (Or.inl (hw _ (List.mem_of_getElem? (i := 26) rfl))) (Or.inl (hw _ (List.mem_of_getElem? (i := 22) rfl))) (by decide) (t := (.array .long)) (t' := (.array .long)) (by decide) (by decide)))
  replace F_count := F_count.other W5 (Or.inr (slot_ne (Or.inl (hw _ (List.mem_of_getElem? (i := 43) rfl))) (Or.inl (hw _ (List.mem_of_getElem? (i := 22) rfl))) (by decide) (t := .int) (t' := (.array .long)) (by decide) (by decide)))
  replace F_parts := F_parts.other W5 (Or.inr (slot_ne (Or.inl (hw _ (List.mem_of_getElem? (i := 45) rfl))) (Or.inl (hw _ (List.mem_of_getElem? (i := 22) rfl))) (by decide) (t := (.array .long)) (t' := (.array .long)) (by decide) (by decide)))
  replace J_xc := J_xc.other W5 (Ne.symm ne_a_xc)
  replace J_xv := J_xv.other W5 (Ne.symm ne_a_xv)
  replace Z0 := Nat.le_trans Z0 (Nat.le_of_eq W5.size.symm)
  replace K0 := K0.wr W5 (Or.inl (by simp))
  refine GoOn.step st5 ?_
  show GoOn p e below _ (T5.setTop (mkF m 18 #[.val (.ref a)] []))
  refine GoOn.step (fun t₀ k₀ => XS.aloadN X5.here hx rfl (hb hby d3_18) rfl rfl k₀) ?_
  show GoOn p e below _ (T5.setTop (mkF m 19 #[.val (.ref a)] [(.ref a)]))
  refine GoOn.step (fun t₀ k₀ => XS.iconst X5.here hx rfl (hb hby d3_19) k₀) ?_
  show GoOn p e below _ (T5.setTop (mkF m 20 #[.val (.ref a)] [(.int (4 : Int32)), (.ref a)]))
  obtain ⟨T6, h6, k6, X6, e6, E6, A6, st6⟩ := newP X5 hx hZ (hw _ (List.mem_of_getElem? (i := 7) rfl)) e5 (g := (mkF m 20 #[.val (.ref a)] [(.int (4 : Int32)), (.ref a)])) rfl (hb hby d3_20) rfl (by decide) (cap := 4) (by decide) (by decide) (by decide) (by decide)
  obtain ⟨sc, g6⟩ : ∃ z, z = h5.size := ⟨_, rfl⟩
  rw [← g6] at A6 st6
  have lt_a_sc : a < sc := by rw [g6]; exact Ex.lt
  have ne_a_sc : a ≠ sc := Nat.ne_of_lt lt_a_sc
  have lt_xc_sc : xc < sc := by rw [g6]; exact J_xc.lt
  have ne_xc_sc : xc ≠ sc := Nat.ne_of_lt lt_xc_sc
  have lt_xv_sc : xv < sc := by rw [g6]; exact J_xv.lt
  have ne_xv_sc : xv ≠ sc := Nat.ne_of_lt lt_xv_sc
  have le_sc : n0 ≤ sc := by rw [g6]; exact Z0
  have sz_sc : h0.size ≤ sc := by rw [g6]; exact K0.1
  replace Ex := Ex.ext E6
  replace F_costs := F_costs.ext E6
  replace F_values := F_values.ext E6
  replace F_spareCosts := F_spareCosts.ext E6
  replace F_spareValues := F_spareValues.ext E6
  replace F_count := F_count.ext E6
  replace F_parts := F_parts.ext E6
  replace J_xc := J_xc.ext E6
  replace J_xv := J_xv.ext E6
  replace Z0 := Nat.le_trans Z0 E6.1
  replace K0 := K0.ext E6
  have J_sc : Jar Z h6 sc .long 4 (fun _ => defaultValue .long) := Jar.new A6 (by decide)
  refine GoOn.step st6 ?_
  show GoOn p e below _ (T6.setTop (mkF m 22 #[.val (.ref a)] [(.ref sc), (.ref a)]))
  obtain ⟨T7, h7, X7, e7, W7, st7⟩ := putF X6 hx hZ hown (host := "") (Or.inl (hw _ (List.mem_of_getElem? (i := 23) rfl))) Via.refl e6 F_spareCosts Ex (Or.inl (hw _ (List.mem_of_getElem? (i := 24) rfl))) (hw _ (List.mem_of_getElem? (i := 11) rfl)) (ty := (.array .long)) (by decide) rfl rfl (g := (mkF m 22 #[.val (.ref a)] [(.ref sc), (.ref a)])) rfl rfl (hb hby d3_22)
  replace N0 := Fr.snoc X7 N0 ga
  replace Ex := Ex.wr W7
  replace F_costs := F_costs.other W7 (Or.inr (slot_ne (Or.inl (hw _ (List.mem_of_getElem? (i := 20) rfl))) (Or.inl (hw _ (List.mem_of_getElem? (i := 24) rfl))) (by decide) (t := (.array .long)) (t' := (.array .long)) (by decide) (by decide)))
  replace F_values := F_values.other W7 (Or.inr (slot_ne (Or.inl (hw _ (List.mem_of_getElem? (i := 22) rfl))) (Or.inl (hw _ (List.mem_of_getElem? (i := 24) rfl))) (by decide) (t := (.array .long)) (t' := (.array .long)) (by decide) (by decide)))
  replace F_spareCosts := Fld.same W7 F_spareCosts
  replace F_spareValues := F_spareValues.other W7 (Or.inr (slot_ne (Or.inl (hw _ (List.mem_of_getElem? (i := 26) rfl))) (Or.inl (hw _ (List.mem_of_getElem? (i := 24) rfl))) (by decide) (t := (.array .long)) (t' := (.array .long)) (by decide) (by decide)))
  replace F_count := F_count.other W7 (Or.inr (slot_ne (Or.inl (hw _ (List.mem_of_getElem? (i := 43) rfl))) (Or.inl (hw _ (List.mem_of_getElem? (i := 24) rfl))) (by decide) (t := .int) (t' := (.array .long)) (by decide) (by decide)))
  replace F_parts := F_parts.other W7 (Or.inr (slot_ne (Or.inl (hw _ (List.mem_of_getElem? (i := 45) rfl))) (Or.inl (hw _ (List.mem_of_getElem? (i := 24) rfl))) (by decide) (t := (.array .long)) (t' := (.array .long)) (by decide) (by decide)))
  replace J_xc := J_xc.other W7 (Ne.symm ne_a_xc)
  replace J_xv := J_xv.other W7 (Ne.symm ne_a_xv)
  replace J_sc := J_sc.other W7 (Ne.symm ne_a_sc)
  replace Z0 := Nat.le_trans Z0 (Nat.le_of_eq W7.size.symm)
  replace K0 := K0.wr W7 (Or.inl (by simp))
  refine GoOn.step st7 ?_
  show GoOn p e below _ (T7.setTop (mkF m 25 #[.val (.ref a)] []))
  refine GoOn.step (fun t₀ k₀ => XS.aloadN X7.here hx rfl (hb hby d3_25) rfl rfl k₀) ?_
  show GoOn p e below _ (T7.setTop (mkF m 26 #[.val (.ref a)] [(.ref a)]))
  refine GoOn.step (fun t₀ k₀ => XS.iconst X7.here hx rfl (hb hby d3_26) k₀) ?_
  show GoOn p e below _ (T7.setTop (mkF m 27 #[.val (.ref a)] [(.int (4 : Int32)), (.ref a)]))
  obtain ⟨T8, h8, k8, X8, e8, E8, A8, st8⟩ := newP X7 hx hZ (hw _ (List.mem_of_getElem? (i := 7) rfl)) e7 (g := (mkF m 27 #[.val (.ref a)] [(.int (4 : Int32)), (.ref a)])) rfl (hb hby d3_27) rfl (by decide) (cap := 4) (by decide) (by decide) (by decide) (by decide)
  obtain ⟨sv, g8⟩ : ∃ z, z = h7.size := ⟨_, rfl⟩
  rw [← g8] at A8 st8
  have lt_a_sv : a < sv := by rw [g8]; exact Ex.lt
  have ne_a_sv : a ≠ sv := Nat.ne_of_lt lt_a_sv
  have lt_xc_sv : xc < sv := by rw [g8]; exact J_xc.lt
  have ne_xc_sv : xc ≠ sv := Nat.ne_of_lt lt_xc_sv
  have lt_xv_sv : xv < sv := by rw [g8]; exact J_xv.lt
  have ne_xv_sv : xv ≠ sv := Nat.ne_of_lt lt_xv_sv
  have lt_sc_sv : sc < sv := by rw [g8]; exact J_sc.lt
  have ne_sc_sv : sc ≠ sv := Nat.ne_of_lt lt_sc_sv
  have le_sv : n0 ≤ sv := by rw [g8]; exact Z0
  have sz_sv : h0.size ≤ sv := by rw [g8]; exact K0.1
  replace Ex := Ex.ext E8
  replace F_costs := F_costs.ext E8
  replace F_values := F_values.ext E8
  replace F_spareCosts := F_spareCosts.ext E8
  replace F_spareValues := F_spareValues.ext E8
  replace F_count := F_count.ext E8
  replace F_parts := F_parts.ext E8
  replace J_xc := J_xc.ext E8
  replace J_xv := J_xv.ext E8
  replace J_sc := J_sc.ext E8
  replace Z0 := Nat.le_trans Z0 E8.1
  replace K0 := K0.ext E8
  have J_sv : Jar Z h8 sv .long 4 (fun _ => defaultValue .long) := Jar.new A8 (by decide)
  refine GoOn.step st8 ?_
  show GoOn p e below _ (T8.setTop (mkF m 29 #[.val (.ref a)] [(.ref sv), (.ref a)]))
  obtain ⟨T9, h9, X9, e9, W9, st9⟩ := putF X8 hx hZ hown (host := "") (Or.inl (hw _ (List.mem_of_getElem? (i := 25) rfl))) Via.refl e8 F_spareValues Ex (Or.inl (hw _ (List.mem_of_getElem? (i := 26) rfl))) (hw _ (List.mem_of_getElem? (i := 11) rfl)) (ty := (.array .long)) (by decide) rfl rfl (g := (mkF m 29 #[.val (.ref a)] [(.ref sv), (.ref a)])) rfl rfl (hb hby d3_29)
  replace N0 := Fr.snoc X9 N0 ga
  replace Ex := Ex.wr W9
  replace F_costs := F_costs.other W9 (Or.inr (slot_ne (Or.inl (hw _ (List.mem_of_getElem? (i := 20) rfl))) (Or.inl (hw _ (List.mem_of_getElem? (i := 26) rfl))) (by decide) (t := (.array .long)) (t' := (.array .long)) (by decide) (by decide)))
  replace F_values := F_values.other W9 (Or.inr (slot_ne (Or.inl (hw _ (List.mem_of_getElem? (i := 22) rfl))) (Or.inl (hw _ (List.mem_of_getElem? (i := 26) rfl))) (by decide) (t := (.array .long)) (t' := (.array .long)) (by decide) (by decide)))
  replace F_spareCosts := F_spareCosts.other W9 (Or.inr (slot_ne (Or.inl (hw _ (List.mem_of_getElem? (i := 24) rfl))) (Or.inl (hw _ (List.mem_of_getElem? (i := 26) rfl))) (by decide) (t := (.array .long)) (t' := (.array .long)) (by decide) (by decide)))
  replace F_spareValues := Fld.same W9 F_spareValues
  replace F_count := F_count.other W9 (Or.inr (slot_ne (Or.inl (hw _ (List.mem_of_getElem? (i := 43) rfl))) (Or.inl (hw _ (List.mem_of_getElem? (i := 26) rfl))) (by decide) (t := .int) (t' := (.array .long)) (by decide) (by decide)))
  replace F_parts := F_parts.other W9 (Or.inr (slot_ne (Or.inl (hw _ (List.mem_of_getElem? (i := 45) rfl))) (Or.inl (hw _ (List.mem_of_getElem? (i := 26) rfl))) (by decide) (t := (.array .long)) (t' := (.array .long)) (by decide) (by decide)))
  replace J_xc := J_xc.other W9 (Ne.symm ne_a_xc)
  replace J_xv := J_xv.other W9 (Ne.symm ne_a_xv)
  replace J_sc := J_sc.other W9 (Ne.symm ne_a_sc)
  replace J_sv := J_sv.other W9 (Ne.symm ne_a_sv)
  replace Z0 := Nat.le_trans Z0 (Nat.le_of_eq W9.size.symm)
  replace K0 := K0.wr W9 (Or.inl (by simp))
  refine GoOn.step st9 ?_
  show GoOn p e below _ (T9.setTop (mkF m 32 #[.val (.ref a)] []))
  exact GoOn.ret0 X9 hx hrt hlk (hb hby d3_32) (by decide) (by decide) (by first | exact ⟨xc, xv, sc, sv, _, _, _, _, rfl, N0, K0, F_costs, F_values, F_spareCosts, F_spareValues, F_count, F_parts, J_xc, J_xv, J_sc, J_sv, ⟨sz_xc, sz_xv, sz_sc, sz_sv⟩, ne_sc_sv, Ne.symm ne_a_sc, Ne.symm ne_a_sv⟩ | (rw [e9]; exact ⟨xc, xv, sc, sv, _, _, _, _, rfl, N0, K0, F_costs, F_values, F_spareCosts, F_spareValues, F_count, F_parts, J_xc, J_xv, J_sc, J_sv, ⟨sz_xc, sz_xv, sz_sc, sz_sv⟩, ne_sc_sv, Ne.symm ne_a_sc, Ne.symm ne_a_sv⟩))
theorem ef_c_rs (m : MethodId) (x0 : Addr) (x1 : Int64) : entryFrame m #[(.ref x0), (.long x1)] 4 = mkF m 0 #[.val (.ref x0), .val (.long x1), .second, .unset] [] := by first | (simp [entryFrame, mkF, argsToLocals, Value.category]; done) | rfl
set_option maxRecDepth 65536 in
set_option maxHeartbeats 40000000 in
theorem c_rs (l : Launch) (Z : State) (a0 : Array Value) (hw : ∀ d ∈ tables_1, d.before a0 Z = true) (a sc : Addr) (need : Int64) (f : Nat → Value) (h0 : Heap) (hn : need.toInt ≤ 4) (Fs : Fld Z h0 a "com/example/treesack/treesack/core/ValueSteps" "spareCosts" "[J" (.ref sc)) (Js : Jar Z h0 sc .long 4 f) :
    Con l Z (⟨"com/example/treesack/treesack/core/ValueSteps", "reserveSpare", "(J)V"⟩ : MethodName) prog_62_method_24_code 4 none ({ frames := 0, cells := 0, slots := 0, locals := 0 } : Room) #[(.ref a), (.long need)] h0 (PQ none h0) := by
  refine Con.intro (plainFor_of_name pn_0) ?_
  intro p e s m below meth c s₁ hx hby hml hrt hlk hZ hown hnm X0 e0
  replace hown : s.vm.findClass "com/example/treesack/treesack/core/ValueSteps" = some m.cls := hown
  refine GoOn.cast (ef_c_rs m a need) ?_
  show GoOn p e below _ (s₁.setTop (mkF m 0 #[.val (.ref a), .val (.long need), .second, .unset] []))
  refine GoOn.step (fun t₀ k₀ => XS.lloadN X0.here hx rfl (hb hby d6_0) rfl k₀) ?_
  show GoOn p e below _ (s₁.setTop (mkF m 1 #[.val (.ref a), .val (.long need), .second, .unset] [(.long need)]))
  refine GoOn.step (fun t₀ k₀ => X0.ldc2Long hx hown (mvT hZ (hw _ (List.mem_of_getElem? (i := 36) rfl))) (g := (mkF m 1 #[.val (.ref a), .val (.long need), .second, .unset] [(.long need)])) rfl (hb hby d6_1) t₀ k₀) ?_
  show GoOn p e below _ (s₁.setTop (mkF m 4 #[.val (.ref a), .val (.long need), .second, .unset] [(.long (2147483639 : Int64)), (.long need)]))
  refine GoOn.step (fun t₀ k₀ => XS.lcmp X0.here hx rfl (hb hby d6_4) rfl k₀) ?_
  show GoOn p e below _ (s₁.setTop (mkF m 5 #[.val (.ref a), .val (.long need), .second, .unset] [(.int (lcmpW need (2147483639 : Int64)))]))
  have hf10 : ¬ ((2147483639 : Int64) < need) := (by rw [Int64.lt_iff_toInt_lt, show (2147483639 : Int64).toInt = 2147483639 from by decide]; omega)
  refine GoOn.step (fun t₀ k₀ => XS.ifYes X0.here hx rfl (pc0 := 5) (pc' := 15) rfl (hb hby d6_5) rfl ((if0 _ _).trans (flt (mt (lw_gt _ _).mp hf10)).2.2.2) (by decide) (by decide) k₀) ?_
  show GoOn p e below _ (s₁.setTop (mkF m 15 #[.val (.ref a), .val (.long need), .second, .unset] []))
  refine GoOn.step (fun t₀ k₀ => XS.aloadN X0.here hx rfl (hb hby d6_15) rfl rfl k₀) ?_
  show GoOn p e below _ (s₁.setTop (mkF m 16 #[.val (.ref a), .val (.long need), .second, .unset] [(.ref a)]))
  obtain ⟨T11, X11, e11, st11⟩ := getF X0 hx hZ hown (host := "") (Or.inl (hw _ (List.mem_of_getElem? (i := 23) rfl))) Via.refl e0 Fs (g := (mkF m 16 #[.val (.ref a), .val (.long need), .second, .unset] [(.ref a)])) rfl rfl (hb hby d6_16)
  refine GoOn.step st11 ?_
  show GoOn p e below _ (T11.setTop (mkF m 19 #[.val (.ref a), .val (.long need), .second, .unset] [(.ref sc)]))
  refine GoOn.step (fun t₀ k₀ => kLen X11 hx hZ e11 Js (z := (4 : Int32)) rfl (g := (mkF m 19 #[.val (.ref a), .val (.long need), .second, .unset] [(.ref sc)])) rfl rfl (hb hby d6_19) t₀ k₀) ?_
  show GoOn p e below _ (T11.setTop (mkF m 20 #[.val (.ref a), .val (.long need), .second, .unset] [(.int (4 : Int32))]))
  refine GoOn.step (fun t₀ k₀ => XS.i2l X11.here hx rfl (hb hby d6_20) rfl k₀) ?_
  show GoOn p e below _ (T11.setTop (mkF m 21 #[.val (.ref a), .val (.long need), .second, .unset] [(.long ((4 : Int32).toInt64))]))
  refine GoOn.step (fun t₀ k₀ => XS.lloadN X11.here hx rfl (hb hby d6_21) rfl k₀) ?_
  show GoOn p e below _ (T11.setTop (mkF m 22 #[.val (.ref a), .val (.long need), .second, .unset] [(.long need), (.long ((4 : Int32).toInt64))]))
  refine GoOn.step (fun t₀ k₀ => XS.lcmp X11.here hx rfl (hb hby d6_22) rfl k₀) ?_
  show GoOn p e below _ (T11.setTop (mkF m 23 #[.val (.ref a), .val (.long need), .second, .unset] [(.int (lcmpW ((4 : Int32).toInt64) need))]))
  have hf12 : ¬ (((4 : Int32).toInt64) < need) := (by rw [Int64.lt_iff_toInt_lt, c_i2l, show (4 : Int32).toInt = 4 from by decide]; omega)
  refine GoOn.step (fun t₀ k₀ => XS.ifYes X11.here hx rfl (pc0 := 23) (pc' := 62) rfl (hb hby d6_23) rfl ((if0 _ _).trans (flt (mt (lw_lt _ _).mp hf12)).2.1) (by decide) (by decide) k₀) ?_
  show GoOn p e below _ (T11.setTop (mkF m 62 #[.val (.ref a), .val (.long need), .second, .unset] []))
  exact GoOn.ret0 X11 hx hrt hlk (hb hby d6_62) (by decide) (by decide) (by first | exact ⟨rfl, rfl, rfl⟩ | (rw [e11]; exact ⟨rfl, rfl, rfl⟩))
def AdQ (Z : State) (a sc sv : Addr) (k : Int32) (h0 : Heap) (n0 : Nat) : Option Value → Heap → List Loc → Prop := fun r h L => r = none ∧ Fr n0 L ∧ Keep h0 h [a] ∧ Fld Z h a "com/example/treesack/treesack/core/ValueSteps" "costs" "[J" (.ref sc) ∧ Fld Z h a "com/example/treesack/treesack/core/ValueSteps" "values" "[J" (.ref sv) ∧ Fld Z h a "com/example/treesack/treesack/core/ValueSteps" "count" "I" (.int k)
theorem ef_c_ad (m : MethodId) (x0 : Addr) (x1 : Int32) : entryFrame m #[(.ref x0), (.int x1)] 4 = mkF m 0 #[.val (.ref x0), .val (.int x1), .unset, .unset] [] := by first | (simp [entryFrame, mkF, argsToLocals, Value.category]; done) | rfl
set_option maxRecDepth 65536 in
set_option maxHeartbeats 40000000 in
theorem c_ad (l : Launch) (Z : State) (a0 : Array Value) (hw : ∀ d ∈ tables_1, d.before a0 Z = true) (a xc xv sc sv : Addr) (k0 k : Int32) (h0 : Heap) (n0 : Nat) (Z0 : n0 ≤ h0.size) (Ex : Exa Z h0 a "com/example/treesack/treesack/core/ValueSteps") (F_costs : Fld Z h0 a "com/example/treesack/treesack/core/ValueSteps" "costs" "[J" (.ref xc)) (F_values : Fld Z h0 a "com/example/treesack/treesack/core/ValueSteps" "values" "[J" (.ref xv)) (F_spareCosts : Fld Z h0 a "com/example/treesack/treesack/core/ValueSteps" "spareCosts" "[J" (.ref sc)) (F_spareValues : Fld Z h0 a "com/example/treesack/treesack/core/ValueSteps" "spareValues" "[J" (.ref sv)) (F_count : Fld Z h0 a "com/example/treesack/treesack/core/ValueSteps" "count" "I" (.int k0)) (F_parts : Fld Z h0 a "com/example/treesack/treesack/core/ValueSteps" "parts" "[J" .null) (ga : n0 ≤ a) :
    Con l Z (⟨"com/example/treesack/treesack/core/ValueSteps", "adoptSpare", "(I)V"⟩ : MethodName) prog_62_method_23_code 4 none ({ frames := 0, cells := 0, slots := 0, locals := 0 } : Room) #[(.ref a), (.int k)] h0 (AdQ Z a sc sv k h0 n0) := by
  refine Con.intro (plainFor_of_name pn_0) ?_
  intro p e s m below meth c s₁ hx hby hml hrt hlk hZ hown hnm X0 e0
  replace hown : s.vm.findClass "com/example/treesack/treesack/core/ValueSteps" = some m.cls := hown
  have N0 := Fr.nil n0
  refine GoOn.cast (ef_c_ad m a k) ?_
  show GoOn p e below _ (s₁.setTop (mkF m 0 #[.val (.ref a), .val (.int k), .unset, .unset] []))
  have K0 : Keep h0 h0 [a] := Keep.refl _ _
  refine GoOn.step (fun t₀ k₀ => XS.aloadN X0.here hx rfl (hb hby d7_0) rfl rfl k₀) ?_
  show GoOn p e below _ (s₁.setTop (mkF m 1 #[.val (.ref a), .val (.int k), .unset, .unset] [(.ref a)]))
  obtain ⟨T13, X13, e13, st13⟩ := getF X0 hx hZ hown (host := "") (Or.inl (hw _ (List.mem_of_getElem? (i := 19) rfl))) Via.refl e0 F_costs (g := (mkF m 1 #[.val (.ref a), .val (.int k), .unset, .unset] [(.ref a)])) rfl rfl (hb hby d7_1)
  refine GoOn.step st13 ?_
  show GoOn p e below _ (T13.setTop (mkF m 4 #[.val (.ref a), .val (.int k), .unset, .unset] [(.ref xc)]))
  refine GoOn.step (fun t₀ k₀ => XS.astoreN X13.here hx rfl (hb hby d7_4) rfl rfl (l' := #[.val (.ref a), .val (.int k), .val (.ref xc), .unset]) rfl k₀) ?_
  show GoOn p e below _ (T13.setTop (mkF m 5 #[.val (.ref a), .val (.int k), .val (.ref xc), .unset] []))
  refine GoOn.step (fun t₀ k₀ => XS.aloadN X13.here hx rfl (hb hby d7_5) rfl rfl k₀) ?_
  show GoOn p e below _ (T13.setTop (mkF m 6 #[.val (.ref a), .val (.int k), .val (.ref xc), .unset] [(.ref a)]))
  obtain ⟨T14, X14, e14, st14⟩ := getF X13 hx hZ hown (host := "") (Or.inl (hw _ (List.mem_of_getElem? (i := 21) rfl))) Via.refl e13 F_values (g := (mkF m 6 #[.val (.ref a), .val (.int k), .val (.ref xc), .unset] [(.ref a)])) rfl rfl (hb hby d7_6)
  refine GoOn.step st14 ?_
  show GoOn p e below _ (T14.setTop (mkF m 9 #[.val (.ref a), .val (.int k), .val (.ref xc), .unset] [(.ref xv)]))
  refine GoOn.step (fun t₀ k₀ => XS.astoreN X14.here hx rfl (hb hby d7_9) rfl rfl (l' := #[.val (.ref a), .val (.int k), .val (.ref xc), .val (.ref xv)]) rfl k₀) ?_
  show GoOn p e below _ (T14.setTop (mkF m 10 #[.val (.ref a), .val (.int k), .val (.ref xc), .val (.ref xv)] []))
  refine GoOn.step (fun t₀ k₀ => XS.aloadN X14.here hx rfl (hb hby d7_10) rfl rfl k₀) ?_
  show GoOn p e below _ (T14.setTop (mkF m 11 #[.val (.ref a), .val (.int k), .val (.ref xc), .val (.ref xv)] [(.ref a)]))
  refine GoOn.step (fun t₀ k₀ => XS.aloadN X14.here hx rfl (hb hby d7_11) rfl rfl k₀) ?_
  show GoOn p e below _ (T14.setTop (mkF m 12 #[.val (.ref a), .val (.int k), .val (.ref xc), .val (.ref xv)] [(.ref a), (.ref a)]))
  obtain ⟨T15, X15, e15, st15⟩ := getF X14 hx hZ hown (host := "") (Or.inl (hw _ (List.mem_of_getElem? (i := 23) rfl))) Via.refl e14 F_spareCosts (g := (mkF m 12 #[.val (.ref a), .val (.int k), .val (.ref xc), .val (.ref xv)] [(.ref a), (.ref a)])) rfl rfl (hb hby d7_12)
  refine GoOn.step st15 ?_
  show GoOn p e below _ (T15.setTop (mkF m 15 #[.val (.ref a), .val (.int k), .val (.ref xc), .val (.ref xv)] [(.ref sc), (.ref a)]))
  obtain ⟨T16, h16, X16, e16, W16, st16⟩ := putF X15 hx hZ hown (host := "") (Or.inl (hw _ (List.mem_of_getElem? (i := 19) rfl))) Via.refl e15 F_costs Ex (Or.inl (hw _ (List.mem_of_getElem? (i := 20) rfl))) (hw _ (List.mem_of_getElem? (i := 11) rfl)) (ty := (.array .long)) (by decide) rfl rfl (g := (mkF m 15 #[.val (.ref a), .val (.int k), .val (.ref xc), .val (.ref xv)] [(.ref sc), (.ref a)])) rfl rfl (hb hby d7_15)
  replace N0 := Fr.snoc X16 N0 ga
  replace Ex := Ex.wr W16
  replace F_costs := Fld.same W16 F_costs
  replace F_values := F_values.other W16 (Or.inr (slot_ne (Or.inl (hw _ (List.mem_of_getElem? (i := 22) rfl))) (Or.inl (hw _ (List.mem_of_getElem? (i := 20) rfl))) (by decide) (t := (.array .long)) (t' := (.array .long)) (by decide) (by decide)))
  replace F_spareCosts := F_spareCosts.other W16 (Or.inr (slot_ne (Or.inl (hw _ (List.mem_of_getElem? (i := 24) rfl))) (Or.inl (hw _ (List.mem_of_getElem? (i := 20) rfl))) (by decide) (t := (.array .long)) (t' := (.array .long)) (by decide) (by decide)))
  replace F_spareValues := F_spareValues.other W16 (Or.inr (slot_ne (Or.inl (hw _ (List.mem_of_getElem? (i := 26) rfl))) (Or.inl (hw _ (List.mem_of_getElem? (i := 20) rfl))) (by decide) (t := (.array .long)) (t' := (.array .long)) (by decide) (by decide)))
  replace F_count := F_count.other W16 (Or.inr (slot_ne (Or.inl (hw _ (List.mem_of_getElem? (i := 43) rfl))) (Or.inl (hw _ (List.mem_of_getElem? (i := 20) rfl))) (by decide) (t := .int) (t' := (.array .long)) (by decide) (by decide)))
  replace F_parts := F_parts.other W16 (Or.inr (slot_ne (Or.inl (hw _ (List.mem_of_getElem? (i := 45) rfl))) (Or.inl (hw _ (List.mem_of_getElem? (i := 20) rfl))) (by decide) (t := (.array .long)) (t' := (.array .long)) (by decide) (by decide)))
  replace Z0 := Nat.le_trans Z0 (Nat.le_of_eq W16.size.symm)
  replace K0 := K0.wr W16 (Or.inl (by simp))
  refine GoOn.step st16 ?_
  show GoOn p e below _ (T16.setTop (mkF m 18 #[.val (.ref a), .val (.int k), .val (.ref xc), .val (.ref xv)] []))
  refine GoOn.step (fun t₀ k₀ => XS.aloadN X16.here hx rfl (hb hby d7_18) rfl rfl k₀) ?_
  show GoOn p e below _ (T16.setTop (mkF m 19 #[.val (.ref a), .val (.int k), .val (.ref xc), .val (.ref xv)] [(.ref a)]))
  refine GoOn.step (fun t₀ k₀ => XS.aloadN X16.here hx rfl (hb hby d7_19) rfl rfl k₀) ?_
  show GoOn p e below _ (T16.setTop (mkF m 20 #[.val (.ref a), .val (.int k), .val (.ref xc), .val (.ref xv)] [(.ref a), (.ref a)]))
  obtain ⟨T17, X17, e17, st17⟩ := getF X16 hx hZ hown (host := "") (Or.inl (hw _ (List.mem_of_getElem? (i := 25) rfl))) Via.refl e16 F_spareValues (g := (mkF m 20 #[.val (.ref a), .val (.int k), .val (.ref xc), .val (.ref xv)] [(.ref a), (.ref a)])) rfl rfl (hb hby d7_20)
  refine GoOn.step st17 ?_
  show GoOn p e below _ (T17.setTop (mkF m 23 #[.val (.ref a), .val (.int k), .val (.ref xc), .val (.ref xv)] [(.ref sv), (.ref a)]))
  obtain ⟨T18, h18, X18, e18, W18, st18⟩ := putF X17 hx hZ hown (host := "") (Or.inl (hw _ (List.mem_of_getElem? (i := 21) rfl))) Via.refl e17 F_values Ex (Or.inl (hw _ (List.mem_of_getElem? (i := 22) rfl))) (hw _ (List.mem_of_getElem? (i := 11) rfl)) (ty := (.array .long)) (by decide) rfl rfl (g := (mkF m 23 #[.val (.ref a), .val (.int k), .val (.ref xc), .val (.ref xv)] [(.ref sv), (.ref a)])) rfl rfl (hb hby d7_23)
  replace N0 := Fr.snoc X18 N0 ga
  replace Ex := Ex.wr W18
  replace F_costs := F_costs.other W18 (Or.inr (slot_ne (Or.inl (hw _ (List.mem_of_getElem? (i := 20) rfl))) (Or.inl (hw _ (List.mem_of_getElem? (i := 22) rfl))) (by decide) (t := (.array .long)) (t' := (.array .long)) (by decide) (by decide)))
  replace F_values := Fld.same W18 F_values
  replace F_spareCosts := F_spareCosts.other W18 (Or.inr (slot_ne (Or.inl (hw _ (List.mem_of_getElem? (i := 24) rfl))) (Or.inl (hw _ (List.mem_of_getElem? (i := 22) rfl))) (by decide) (t := (.array .long)) (t' := (.array .long)) (by decide) (by decide)))
  replace F_spareValues := F_spareValues.other W18 (Or.inr (slot_ne (Or.inl (hw _ (List.mem_of_getElem? (i := 26) rfl))) (Or.inl (hw _ (List.mem_of_getElem? (i := 22) rfl))) (by decide) (t := (.array .long)) (t' := (.array .long)) (by decide) (by decide)))
  replace F_count := F_count.other W18 (Or.inr (slot_ne (Or.inl (hw _ (List.mem_of_getElem? (i := 43) rfl))) (Or.inl (hw _ (List.mem_of_getElem? (i := 22) rfl))) (by decide) (t := .int) (t' := (.array .long)) (by decide) (by decide)))
  replace F_parts := F_parts.other W18 (Or.inr (slot_ne (Or.inl (hw _ (List.mem_of_getElem? (i := 45) rfl))) (Or.inl (hw _ (List.mem_of_getElem? (i := 22) rfl))) (by decide) (t := (.array .long)) (t' := (.array .long)) (by decide) (by decide)))
  replace Z0 := Nat.le_trans Z0 (Nat.le_of_eq W18.size.symm)
  replace K0 := K0.wr W18 (Or.inl (by simp))
  refine GoOn.step st18 ?_
  show GoOn p e below _ (T18.setTop (mkF m 26 #[.val (.ref a), .val (.int k), .val (.ref xc), .val (.ref xv)] []))
  refine GoOn.step (fun t₀ k₀ => XS.aloadN X18.here hx rfl (hb hby d7_26) rfl rfl k₀) ?_
  show GoOn p e below _ (T18.setTop (mkF m 27 #[.val (.ref a), .val (.int k), .val (.ref xc), .val (.ref xv)] [(.ref a)]))
  refine GoOn.step (fun t₀ k₀ => XS.iloadN X18.here hx rfl (hb hby d7_27) rfl k₀) ?_
  show GoOn p e below _ (T18.setTop (mkF m 28 #[.val (.ref a), .val (.int k), .val (.ref xc), .val (.ref xv)] [(.int k), (.ref a)]))
  obtain ⟨T19, h19, X19, e19, W19, st19⟩ := putF X18 hx hZ hown (host := "") (Or.inl (hw _ (List.mem_of_getElem? (i := 42) rfl))) Via.refl e18 F_count Ex (Or.inl (hw _ (List.mem_of_getElem? (i := 43) rfl))) (hw _ (List.mem_of_getElem? (i := 11) rfl)) (ty := .int) (by decide) rfl rfl (g := (mkF m 28 #[.val (.ref a), .val (.int k), .val (.ref xc), .val (.ref xv)] [(.int k), (.ref a)])) rfl rfl (hb hby d7_28)
  replace N0 := Fr.snoc X19 N0 ga
  replace Ex := Ex.wr W19
  replace F_costs := F_costs.other W19 (Or.inr (slot_ne (Or.inl (hw _ (List.mem_of_getElem? (i := 20) rfl))) (Or.inl (hw _ (List.mem_of_getElem? (i := 43) rfl))) (by decide) (t := (.array .long)) (t' := .int) (by decide) (by decide)))
  replace F_values := F_values.other W19 (Or.inr (slot_ne (Or.inl (hw _ (List.mem_of_getElem? (i := 22) rfl))) (Or.inl (hw _ (List.mem_of_getElem? (i := 43) rfl))) (by decide) (t := (.array .long)) (t' := .int) (by decide) (by decide)))
  replace F_spareCosts := F_spareCosts.other W19 (Or.inr (slot_ne (Or.inl (hw _ (List.mem_of_getElem? (i := 24) rfl))) (Or.inl (hw _ (List.mem_of_getElem? (i := 43) rfl))) (by decide) (t := (.array .long)) (t' := .int) (by decide) (by decide)))
  replace F_spareValues := F_spareValues.other W19 (Or.inr (slot_ne (Or.inl (hw _ (List.mem_of_getElem? (i := 26) rfl))) (Or.inl (hw _ (List.mem_of_getElem? (i := 43) rfl))) (by decide) (t := (.array .long)) (t' := .int) (by decide) (by decide)))
  replace F_count := Fld.same W19 F_count
  replace F_parts := F_parts.other W19 (Or.inr (slot_ne (Or.inl (hw _ (List.mem_of_getElem? (i := 45) rfl))) (Or.inl (hw _ (List.mem_of_getElem? (i := 43) rfl))) (by decide) (t := (.array .long)) (t' := .int) (by decide) (by decide)))
  replace Z0 := Nat.le_trans Z0 (Nat.le_of_eq W19.size.symm)
  replace K0 := K0.wr W19 (Or.inl (by simp))
  refine GoOn.step st19 ?_
  show GoOn p e below _ (T19.setTop (mkF m 31 #[.val (.ref a), .val (.int k), .val (.ref xc), .val (.ref xv)] []))
  refine GoOn.step (fun t₀ k₀ => XS.aloadN X19.here hx rfl (hb hby d7_31) rfl rfl k₀) ?_
  show GoOn p e below _ (T19.setTop (mkF m 32 #[.val (.ref a), .val (.int k), .val (.ref xc), .val (.ref xv)] [(.ref a)]))
  refine GoOn.step (fun t₀ k₀ => XS.aconstNull X19.here hx rfl (hb hby d7_32) k₀) ?_
  show GoOn p e below _ (T19.setTop (mkF m 33 #[.val (.ref a), .val (.int k), .val (.ref xc), .val (.ref xv)] [.null, (.ref a)]))
  obtain ⟨T20, h20, X20, e20, W20, st20⟩ := putF X19 hx hZ hown (host := "") (Or.inl (hw _ (List.mem_of_getElem? (i := 44) rfl))) Via.refl e19 F_parts Ex (Or.inl (hw _ (List.mem_of_getElem? (i := 45) rfl))) (hw _ (List.mem_of_getElem? (i := 11) rfl)) (ty := (.array .long)) (by decide) rfl rfl (g := (mkF m 33 #[.val (.ref a), .val (.int k), .val (.ref xc), .val (.ref xv)] [.null, (.ref a)])) rfl rfl (hb hby d7_33)
  replace N0 := Fr.snoc X20 N0 ga
  replace Ex := Ex.wr W20
  replace F_costs := F_costs.other W20 (Or.inr (slot_ne (Or.inl (hw _ (List.mem_of_getElem? (i := 20) rfl))) (Or.inl (hw _ (List.mem_of_getElem? (i := 45) rfl))) (by decide) (t := (.array .long)) (t' := (.array .long)) (by decide) (by decide)))
  replace F_values := F_values.other W20 (Or.inr (slot_ne (Or.inl (hw _ (List.mem_of_getElem? (i := 22) rfl))) (Or.inl (hw _ (List.mem_of_getElem? (i := 45) rfl))) (by decide) (t := (.array .long)) (t' := (.array .long)) (by decide) (by decide)))
  replace F_spareCosts := F_spareCosts.other W20 (Or.inr (slot_ne (Or.inl (hw _ (List.mem_of_getElem? (i := 24) rfl))) (Or.inl (hw _ (List.mem_of_getElem? (i := 45) rfl))) (by decide) (t := (.array .long)) (t' := (.array .long)) (by decide) (by decide)))
  replace F_spareValues := F_spareValues.other W20 (Or.inr (slot_ne (Or.inl (hw _ (List.mem_of_getElem? (i := 26) rfl))) (Or.inl (hw _ (List.mem_of_getElem? (i := 45) rfl))) (by decide) (t := (.array .long)) (t' := (.array .long)) (by decide) (by decide)))
  replace F_count := F_count.other W20 (Or.inr (slot_ne (Or.inl (hw _ (List.mem_of_getElem? (i := 43) rfl))) (Or.inl (hw _ (List.mem_of_getElem? (i := 45) rfl))) (by decide) (t := .int) (t' := (.array .long)) (by decide) (by decide)))
  replace F_parts := Fld.same W20 F_parts
  replace Z0 := Nat.le_trans Z0 (Nat.le_of_eq W20.size.symm)
  replace K0 := K0.wr W20 (Or.inl (by simp))
  refine GoOn.step st20 ?_
  show GoOn p e below _ (T20.setTop (mkF m 36 #[.val (.ref a), .val (.int k), .val (.ref xc), .val (.ref xv)] []))
  refine GoOn.step (fun t₀ k₀ => XS.aloadN X20.here hx rfl (hb hby d7_36) rfl rfl k₀) ?_
  show GoOn p e below _ (T20.setTop (mkF m 37 #[.val (.ref a), .val (.int k), .val (.ref xc), .val (.ref xv)] [(.ref a)]))
  refine GoOn.step (fun t₀ k₀ => XS.aloadN X20.here hx rfl (hb hby d7_37) rfl rfl k₀) ?_
  show GoOn p e below _ (T20.setTop (mkF m 38 #[.val (.ref a), .val (.int k), .val (.ref xc), .val (.ref xv)] [(.ref xc), (.ref a)]))
  obtain ⟨T21, h21, X21, e21, W21, st21⟩ := putF X20 hx hZ hown (host := "") (Or.inl (hw _ (List.mem_of_getElem? (i := 23) rfl))) Via.refl e20 F_spareCosts Ex (Or.inl (hw _ (List.mem_of_getElem? (i := 24) rfl))) (hw _ (List.mem_of_getElem? (i := 11) rfl)) (ty := (.array .long)) (by decide) rfl rfl (g := (mkF m 38 #[.val (.ref a), .val (.int k), .val (.ref xc), .val (.ref xv)] [(.ref xc), (.ref a)])) rfl rfl (hb hby d7_38)
  replace N0 := Fr.snoc X21 N0 ga
  replace Ex := Ex.wr W21
  replace F_costs := F_costs.other W21 (Or.inr (slot_ne (Or.inl (hw _ (List.mem_of_getElem? (i := 20) rfl))) (Or.inl (hw _ (List.mem_of_getElem? (i := 24) rfl))) (by decide) (t := (.array .long)) (t' := (.array .long)) (by decide) (by decide)))
  replace F_values := F_values.other W21 (Or.inr (slot_ne (Or.inl (hw _ (List.mem_of_getElem? (i := 22) rfl))) (Or.inl (hw _ (List.mem_of_getElem? (i := 24) rfl))) (by decide) (t := (.array .long)) (t' := (.array .long)) (by decide) (by decide)))
  replace F_spareCosts := Fld.same W21 F_spareCosts
  replace F_spareValues := F_spareValues.other W21 (Or.inr (slot_ne (Or.inl (hw _ (List.mem_of_getElem? (i := 26) rfl))) (Or.inl (hw _ (List.mem_of_getElem? (i := 24) rfl))) (by decide) (t := (.array .long)) (t' := (.array .long)) (by decide) (by decide)))
  replace F_count := F_count.other W21 (Or.inr (slot_ne (Or.inl (hw _ (List.mem_of_getElem? (i := 43) rfl))) (Or.inl (hw _ (List.mem_of_getElem? (i := 24) rfl))) (by decide) (t := .int) (t' := (.array .long)) (by decide) (by decide)))
  replace F_parts := F_parts.other W21 (Or.inr (slot_ne (Or.inl (hw _ (List.mem_of_getElem? (i := 45) rfl))) (Or.inl (hw _ (List.mem_of_getElem? (i := 24) rfl))) (by decide) (t := (.array .long)) (t' := (.array .long)) (by decide) (by decide)))
  replace Z0 := Nat.le_trans Z0 (Nat.le_of_eq W21.size.symm)
  replace K0 := K0.wr W21 (Or.inl (by simp))
  refine GoOn.step st21 ?_
  show GoOn p e below _ (T21.setTop (mkF m 41 #[.val (.ref a), .val (.int k), .val (.ref xc), .val (.ref xv)] []))
  refine GoOn.step (fun t₀ k₀ => XS.aloadN X21.here hx rfl (hb hby d7_41) rfl rfl k₀) ?_
  show GoOn p e below _ (T21.setTop (mkF m 42 #[.val (.ref a), .val (.int k), .val (.ref xc), .val (.ref xv)] [(.ref a)]))
  refine GoOn.step (fun t₀ k₀ => XS.aloadN X21.here hx rfl (hb hby d7_42) rfl rfl k₀) ?_
  show GoOn p e below _ (T21.setTop (mkF m 43 #[.val (.ref a), .val (.int k), .val (.ref xc), .val (.ref xv)] [(.ref xv), (.ref a)]))
  obtain ⟨T22, h22, X22, e22, W22, st22⟩ := putF X21 hx hZ hown (host := "") (Or.inl (hw _ (List.mem_of_getElem? (i := 25) rfl))) Via.refl e21 F_spareValues Ex (Or.inl (hw _ (List.mem_of_getElem? (i := 26) rfl))) (hw _ (List.mem_of_getElem? (i := 11) rfl)) (ty := (.array .long)) (by decide) rfl rfl (g := (mkF m 43 #[.val (.ref a), .val (.int k), .val (.ref xc), .val (.ref xv)] [(.ref xv), (.ref a)])) rfl rfl (hb hby d7_43)
  replace N0 := Fr.snoc X22 N0 ga
  replace Ex := Ex.wr W22
  replace F_costs := F_costs.other W22 (Or.inr (slot_ne (Or.inl (hw _ (List.mem_of_getElem? (i := 20) rfl))) (Or.inl (hw _ (List.mem_of_getElem? (i := 26) rfl))) (by decide) (t := (.array .long)) (t' := (.array .long)) (by decide) (by decide)))
  replace F_values := F_values.other W22 (Or.inr (slot_ne (Or.inl (hw _ (List.mem_of_getElem? (i := 22) rfl))) (Or.inl (hw _ (List.mem_of_getElem? (i := 26) rfl))) (by decide) (t := (.array .long)) (t' := (.array .long)) (by decide) (by decide)))
  replace F_spareCosts := F_spareCosts.other W22 (Or.inr (slot_ne (Or.inl (hw _ (List.mem_of_getElem? (i := 24) rfl))) (Or.inl (hw _ (List.mem_of_getElem? (i := 26) rfl))) (by decide) (t := (.array .long)) (t' := (.array .long)) (by decide) (by decide)))
  replace F_spareValues := Fld.same W22 F_spareValues
  replace F_count := F_count.other W22 (Or.inr (slot_ne (Or.inl (hw _ (List.mem_of_getElem? (i := 43) rfl))) (Or.inl (hw _ (List.mem_of_getElem? (i := 26) rfl))) (by decide) (t := .int) (t' := (.array .long)) (by decide) (by decide)))
  replace F_parts := F_parts.other W22 (Or.inr (slot_ne (Or.inl (hw _ (List.mem_of_getElem? (i := 45) rfl))) (Or.inl (hw _ (List.mem_of_getElem? (i := 26) rfl))) (by decide) (t := (.array .long)) (t' := (.array .long)) (by decide) (by decide)))
  replace Z0 := Nat.le_trans Z0 (Nat.le_of_eq W22.size.symm)
  replace K0 := K0.wr W22 (Or.inl (by simp))
  refine GoOn.step st22 ?_
  show GoOn p e below _ (T22.setTop (mkF m 46 #[.val (.ref a), .val (.int k), .val (.ref xc), .val (.ref xv)] []))
  exact GoOn.ret0 X22 hx hrt hlk (hb hby d7_46) (by decide) (by decide) (by first | exact ⟨rfl, N0, K0, F_costs, F_values, F_count⟩ | (rw [e22]; exact ⟨rfl, N0, K0, F_costs, F_values, F_count⟩))
def SsQ (Z : State) (a sc sv : Addr) (R : Nat → Int64) (n : Nat) (h0 : Heap) (n0 : Nat) : Option Value → Heap → List Loc → Prop := fun r h L => ∃ fc fv, r = none ∧ Fr n0 L ∧ Keep h0 h [a, sc, sv] ∧ Fld Z h a "com/example/treesack/treesack/core/ValueSteps" "costs" "[J" (.ref sc) ∧ Fld Z h a "com/example/treesack/treesack/core/ValueSteps" "values" "[J" (.ref sv) ∧ Fld Z h a "com/example/treesack/treesack/core/ValueSteps" "count" "I" (.int (Int32.ofNat (stp R n).length)) ∧ Jar Z h sc .long 4 fc ∧ TkL fc (stp R n) cst ∧ Jar Z h sv .long 4 fv ∧ TkL fv (stp R n) R
theorem ef_c_ss (m : MethodId) (x0 : Addr) (x1 : Addr) (x2 : Int32) : entryFrame m #[(.ref x0), (.ref x1), (.int x2)] 7 = mkF m 0 #[.val (.ref x0), .val (.ref x1), .val (.int x2), .unset, .unset, .unset, .unset] [] := by first | (simp [entryFrame, mkF, argsToLocals, Value.category]; done) | rfl
set_option maxRecDepth 65536 in
set_option maxHeartbeats 40000000 in
theorem c_ss (l : Launch) (Z : State) (a0 : Array Value) (hw : ∀ d ∈ tables_1, d.before a0 Z = true) (a ra xc xv sc sv : Addr) (HS : Nat) (k0 : Int32) (R : Nat → Int64) (f3 f4 : Nat → Value) (h0 : Heap) (n0 : Nat) (Z0 : n0 ≤ h0.size) (Ex : Exa Z h0 a "com/example/treesack/treesack/core/ValueSteps") (F_costs : Fld Z h0 a "com/example/treesack/treesack/core/ValueSteps" "costs" "[J" (.ref xc)) (F_values : Fld Z h0 a "com/example/treesack/treesack/core/ValueSteps" "values" "[J" (.ref xv)) (F_spareCosts : Fld Z h0 a "com/example/treesack/treesack/core/ValueSteps" "spareCosts" "[J" (.ref sc)) (F_spareValues : Fld Z h0 a "com/example/treesack/treesack/core/ValueSteps" "spareValues" "[J" (.ref sv)) (F_count : Fld Z h0 a "com/example/treesack/treesack/core/ValueSteps" "count" "I" (.int k0)) (F_parts : Fld Z h0 a "com/example/treesack/treesack/core/ValueSteps" "parts" "[J" .null) (Jsc : Jar Z h0 sc .long 4 f3) (Jsv : Jar Z h0 sv .long 4 f4) (Jra : Jar Z h0 ra .long 4 (fun i => .long (R i))) (hHS : HS ≤ 3) (ga : n0 ≤ a) (gsc : n0 ≤ sc) (gsv : n0 ≤ sv) (d1 : sc ≠ sv) (d2 : sc ≠ a) (d3 : sv ≠ a) (d4 : ra ≠ sc) (d5 : ra ≠ sv) (d6 : ra ≠ a) :
    Con l Z (⟨"com/example/treesack/treesack/core/ValueSteps", "setSteps", "([JI)V"⟩ : MethodName) prog_62_method_14_code 7 none ({ frames := 1, cells := 0, slots := 0, locals := 18 } : Room) #[(.ref a), (.ref ra), (.int (Int32.ofNat HS))] h0 (SsQ Z a sc sv R (HS + 1) h0 n0) := by
  refine Con.intro (plainFor_of_name pn_0) ?_
  intro p e s m below meth c s₁ hx hby hml hrt hlk hZ hown hnm X0 e0
  replace hown : s.vm.findClass "com/example/treesack/treesack/core/ValueSteps" = some m.cls := hown
  have N0 := Fr.nil n0
  refine GoOn.cast (ef_c_ss m a ra (Int32.ofNat HS)) ?_
  show GoOn p e below _ (s₁.setTop (mkF m 0 #[.val (.ref a), .val (.ref ra), .val (.int (Int32.ofNat HS)), .unset, .unset, .unset, .unset] []))
  have K0 : Keep h0 h0 [a, sc, sv] := Keep.refl _ _
  have hsl := stp_le R (HS + 1)
  refine GoOn.step (fun t₀ k₀ => XS.aloadN X0.here hx rfl (hb hby d5_0) rfl rfl k₀) ?_
  show GoOn p e below _ (s₁.setTop (mkF m 1 #[.val (.ref a), .val (.ref ra), .val (.int (Int32.ofNat HS)), .unset, .unset, .unset, .unset] [(.ref a)]))
  refine GoOn.step (fun t₀ k₀ => XS.iloadN X0.here hx rfl (hb hby d5_1) rfl k₀) ?_
  show GoOn p e below _ (s₁.setTop (mkF m 2 #[.val (.ref a), .val (.ref ra), .val (.int (Int32.ofNat HS)), .unset, .unset, .unset, .unset] [(.int (Int32.ofNat HS)), (.ref a)]))
  refine GoOn.step (fun t₀ k₀ => XS.i2l X0.here hx rfl (hb hby d5_2) rfl k₀) ?_
  show GoOn p e below _ (s₁.setTop (mkF m 3 #[.val (.ref a), .val (.ref ra), .val (.int (Int32.ofNat HS)), .unset, .unset, .unset, .unset] [(.long ((Int32.ofNat HS).toInt64)), (.ref a)]))
  refine GoOn.step (fun t₀ k₀ => XS.lconst X0.here hx rfl (hb hby d5_3) k₀) ?_
  show GoOn p e below _ (s₁.setTop (mkF m 4 #[.val (.ref a), .val (.ref ra), .val (.int (Int32.ofNat HS)), .unset, .unset, .unset, .unset] [(.long (1 : Int64)), (.long ((Int32.ofNat HS).toInt64)), (.ref a)]))
  refine GoOn.step (fun t₀ k₀ => XS.ladd X0.here hx rfl (hb hby d5_4) rfl k₀) ?_
  show GoOn p e below _ (s₁.setTop (mkF m 5 #[.val (.ref a), .val (.ref ra), .val (.int (Int32.ofNat HS)), .unset, .unset, .unset, .unset] [(.long (((Int32.ofNat HS).toInt64) + (1 : Int64))), (.ref a)]))
  have e1 := c_i2l (Int32.ofNat HS)
  have e2 := on HS (by omega)
  have e3 := c_ladd (Int32.ofNat HS).toInt64 1
  have e4 := rng64 ((Int32.ofNat HS).toInt64 + 1)
  have e5 : (1 : Int64).toInt = 1 := by decide
  obtain ⟨_, T23, L23, X23, hQ23, st23⟩ := kCallP X0 hx hZ (a := a) (y2 := (⟨"com/example/treesack/treesack/core/ValueSteps", "setSteps", "([JI)V"⟩ : MethodName)) (argsL := [(.long (((Int32.ofNat HS).toInt64) + (1 : Int64)))]) (rest := []) (c_rs l Z a0 hw a sc _ _ h0 (by omega) F_spareCosts Jsc) hown (hw _ (List.mem_of_getElem? (i := 32) rfl)) (hw _ (List.mem_of_getElem? (i := 33) rfl)) (hw _ (List.mem_of_getElem? (i := 34) rfl)) (hw _ (List.mem_of_getElem? (i := 12) rfl)) (hw _ (List.mem_of_getElem? (i := 35) rfl)) (notFace_of_selects (args := #[]) (mvT hZ (hw _ (List.mem_of_getElem? (i := 30) rfl)))) rfl (hw _ (List.mem_of_getElem? (i := 29) rfl)) (by decide) e0 Ex (g := (mkF m 5 #[.val (.ref a), .val (.ref ra), .val (.int (Int32.ofNat HS)), .unset, .unset, .unset, .unset] [(.long (((Int32.ofNat HS).toInt64) + (1 : Int64))), (.ref a)])) rfl (by rw [hml]; rfl) (lenOf pd_0 rfl) rfl (W := 0) (by show 2 * 0 + _ ≤ _; exact Nat.le_of_eq rfl) (hb hby d5_5) (by decide) (by decide) (by decide) (by decide)
  obtain ⟨rfl, rfl, e23⟩ := hQ23
  rw [List.append_nil] at X23
  refine GoOn.step st23 ?_
  show GoOn p e below _ (T23.setTop (mkF m 8 #[.val (.ref a), .val (.ref ra), .val (.int (Int32.ofNat HS)), .unset, .unset, .unset, .unset] []))
  refine GoOn.step (fun t₀ k₀ => XS.iconst X23.here hx rfl (hb hby d5_8) k₀) ?_
  show GoOn p e below _ (T23.setTop (mkF m 9 #[.val (.ref a), .val (.ref ra), .val (.int (Int32.ofNat HS)), .unset, .unset, .unset, .unset] [(.int (0 : Int32))]))
  refine GoOn.step (fun t₀ k₀ => XS.istoreN X23.here hx rfl (hb hby d5_9) rfl (l' := #[.val (.ref a), .val (.ref ra), .val (.int (Int32.ofNat HS)), .val (.int (0 : Int32)), .unset, .unset, .unset]) rfl k₀) ?_
  show GoOn p e below _ (T23.setTop (mkF m 10 #[.val (.ref a), .val (.ref ra), .val (.int (Int32.ofNat HS)), .val (.int (0 : Int32)), .unset, .unset, .unset] []))
  refine GoOn.step (fun t₀ k₀ => X23.ldc2Long hx hown (mvT hZ (hw _ (List.mem_of_getElem? (i := 37) rfl))) (g := (mkF m 10 #[.val (.ref a), .val (.ref ra), .val (.int (Int32.ofNat HS)), .val (.int (0 : Int32)), .unset, .unset, .unset] [])) rfl (hb hby d5_10) t₀ k₀) ?_
  show GoOn p e below _ (T23.setTop (mkF m 13 #[.val (.ref a), .val (.ref ra), .val (.int (Int32.ofNat HS)), .val (.int (0 : Int32)), .unset, .unset, .unset] [(.long (-9223372036854775808 : Int64))]))
  refine GoOn.step (fun t₀ k₀ => XS.lstore X23.here hx rfl (hb hby d5_13) rfl (l' := #[.val (.ref a), .val (.ref ra), .val (.int (Int32.ofNat HS)), .val (.int (0 : Int32)), .val (.long (-9223372036854775808 : Int64)), .second, .unset]) rfl k₀) ?_
  show GoOn p e below _ (T23.setTop (mkF m 15 #[.val (.ref a), .val (.ref ra), .val (.int (Int32.ofNat HS)), .val (.int (0 : Int32)), .val (.long (-9223372036854775808 : Int64)), .second, .unset] []))
  refine GoOn.step (fun t₀ k₀ => XS.iconst X23.here hx rfl (hb hby d5_15) k₀) ?_
  show GoOn p e below _ (T23.setTop (mkF m 16 #[.val (.ref a), .val (.ref ra), .val (.int (Int32.ofNat HS)), .val (.int (0 : Int32)), .val (.long (-9223372036854775808 : Int64)), .second, .unset] [(.int (0 : Int32))]))
  refine GoOn.step (fun t₀ k₀ => XS.istore X23.here hx rfl (hb hby d5_16) rfl (l' := #[.val (.ref a), .val (.ref ra), .val (.int (Int32.ofNat HS)), .val (.int (0 : Int32)), .val (.long (-9223372036854775808 : Int64)), .second, .val (.int (0 : Int32))]) rfl k₀) ?_
  show GoOn p e below _ (T23.setTop (mkF m 18 #[.val (.ref a), .val (.ref ra), .val (.int (Int32.ofNat HS)), .val (.int (0 : Int32)), .val (.long (-9223372036854775808 : Int64)), .second, .val (.int (0 : Int32))] []))
  have JS : ∀ (d : Nat) (k : Nat) (fc fv : Nat → Value) (T24 : State) (l24 : List Loc) (h24 : Heap) (_ : Stand p l e ({ frames := 1, cells := 0, slots := 0, locals := 18 } : Room) s m #[(.ref a), (.ref ra), (.int (Int32.ofNat HS))] below meth c T24 l24 0 0) (_ : T24.heap = h24) (_ : Fr n0 l24) (_ : n0 ≤ h24.size) (_ : Keep h0 h24 [a, sc, sv]) (_ : Exa Z h24 a "com/example/treesack/treesack/core/ValueSteps") (_ : Fld Z h24 a "com/example/treesack/treesack/core/ValueSteps" "costs" "[J" (.ref xc)) (_ : Fld Z h24 a "com/example/treesack/treesack/core/ValueSteps" "values" "[J" (.ref xv)) (_ : Fld Z h24 a "com/example/treesack/treesack/core/ValueSteps" "spareCosts" "[J" (.ref sc)) (_ : Fld Z h24 a "com/example/treesack/treesack/core/ValueSteps" "spareValues" "[J" (.ref sv)) (_ : Fld Z h24 a "com/example/treesack/treesack/core/ValueSteps" "count" "I" (.int k0)) (_ : Fld Z h24 a "com/example/treesack/treesack/core/ValueSteps" "parts" "[J" .null) (_ : Jar Z h24 sc .long 4 fc) (_ : Jar Z h24 sv .long 4 fv) (_ : Jar Z h24 ra .long 4 (fun i => .long (R i))) (_ : k + d = HS + 1) (_ : TkL fc (stp R k) cst) (_ : TkL fv (stp R k) R), GoOn p e below (EndQ s ({ frames := 1, cells := 0, slots := 0, locals := 18 } : Room) (SsQ Z a sc sv R (HS + 1) h0 n0)) (T24.setTop (mkF m 18 #[.val (.ref a), .val (.ref ra), .val (.int (Int32.ofNat HS)), .val (.int (Int32.ofNat (stp R k).length)), .val (.long (lastv R k)), .second, .val (.int (Int32.ofNat k))] [])) := by
    intro d
    induction d with
    | zero =>
      intro k fc fv T24 l24 h24 X24 e24 N0 Z0 K0 Ex F_costs F_values F_spareCosts F_spareValues F_count F_parts Jsc Jsv Jra hk tc tv
      obtain rfl : k = HS + 1 := by omega
      show GoOn p e below _ (T24.setTop (mkF m 18 #[.val (.ref a), .val (.ref ra), .val (.int (Int32.ofNat HS)), .val (.int (Int32.ofNat (stp R (HS + 1)).length)), .val (.long (lastv R (HS + 1))), .second, .val (.int (Int32.ofNat (HS + 1)))] []))
      refine GoOn.step (fun t₀ k₀ => XS.iload X24.here hx rfl (hb hby d5_18) rfl k₀) ?_
      show GoOn p e below _ (T24.setTop (mkF m 20 #[.val (.ref a), .val (.ref ra), .val (.int (Int32.ofNat HS)), .val (.int (Int32.ofNat (stp R (HS + 1)).length)), .val (.long (lastv R (HS + 1))), .second, .val (.int (Int32.ofNat (HS + 1)))] [(.int (Int32.ofNat (HS + 1)))]))
      refine GoOn.step (fun t₀ k₀ => XS.iloadN X24.here hx rfl (hb hby d5_20) rfl k₀) ?_
      show GoOn p e below _ (T24.setTop (mkF m 21 #[.val (.ref a), .val (.ref ra), .val (.int (Int32.ofNat HS)), .val (.int (Int32.ofNat (stp R (HS + 1)).length)), .val (.long (lastv R (HS + 1))), .second, .val (.int (Int32.ofNat (HS + 1)))] [(.int (Int32.ofNat HS)), (.int (Int32.ofNat (HS + 1)))]))
      have hf25 : (Int32.ofNat HS) < (Int32.ofNat (HS + 1)) := (by rw [on_lt _ _ (by omega) (by omega)]; omega)
      refine GoOn.step (fun t₀ k₀ => XS.icmpYes X24.here hx rfl (pc0 := 21) (pc' := 68) rfl (hb hby d5_21) rfl (tlt hf25).2.2.1 (by decide) (by decide) k₀) ?_
      show GoOn p e below _ (T24.setTop (mkF m 68 #[.val (.ref a), .val (.ref ra), .val (.int (Int32.ofNat HS)), .val (.int (Int32.ofNat (stp R (HS + 1)).length)), .val (.long (lastv R (HS + 1))), .second, .val (.int (Int32.ofNat (HS + 1)))] []))
      refine GoOn.step (fun t₀ k₀ => XS.aloadN X24.here hx rfl (hb hby d5_68) rfl rfl k₀) ?_
      show GoOn p e below _ (T24.setTop (mkF m 69 #[.val (.ref a), .val (.ref ra), .val (.int (Int32.ofNat HS)), .val (.int (Int32.ofNat (stp R (HS + 1)).length)), .val (.long (lastv R (HS + 1))), .second, .val (.int (Int32.ofNat (HS + 1)))] [(.ref a)]))
      refine GoOn.step (fun t₀ k₀ => XS.iloadN X24.here hx rfl (hb hby d5_69) rfl k₀) ?_
      show GoOn p e below _ (T24.setTop (mkF m 70 #[.val (.ref a), .val (.ref ra), .val (.int (Int32.ofNat HS)), .val (.int (Int32.ofNat (stp R (HS + 1)).length)), .val (.long (lastv R (HS + 1))), .second, .val (.int (Int32.ofNat (HS + 1)))] [(.int (Int32.ofNat (stp R (HS + 1)).length)), (.ref a)]))
      obtain ⟨_, T26, L26, X26, hQ26, st26⟩ := kCallP X24 hx hZ (a := a) (y2 := (⟨"com/example/treesack/treesack/core/ValueSteps", "setSteps", "([JI)V"⟩ : MethodName)) (argsL := [(.int (Int32.ofNat (stp R (HS + 1)).length))]) (rest := []) (c_ad l Z a0 hw a xc xv sc sv k0 (Int32.ofNat (stp R (HS + 1)).length) h24 n0 Z0 Ex F_costs F_values F_spareCosts F_spareValues F_count F_parts ga) hown (hw _ (List.mem_of_getElem? (i := 38) rfl)) (hw _ (List.mem_of_getElem? (i := 39) rfl)) (hw _ (List.mem_of_getElem? (i := 40) rfl)) (hw _ (List.mem_of_getElem? (i := 12) rfl)) (hw _ (List.mem_of_getElem? (i := 41) rfl)) (notFace_of_selects (args := #[]) (mvT hZ (hw _ (List.mem_of_getElem? (i := 30) rfl)))) rfl (hw _ (List.mem_of_getElem? (i := 29) rfl)) (by decide) e24 Ex (g := (mkF m 70 #[.val (.ref a), .val (.ref ra), .val (.int (Int32.ofNat HS)), .val (.int (Int32.ofNat (stp R (HS + 1)).length)), .val (.long (lastv R (HS + 1))), .second, .val (.int (Int32.ofNat (HS + 1)))] [(.int (Int32.ofNat (stp R (HS + 1)).length)), (.ref a)])) rfl (by rw [hml]; rfl) (lenOf pd_1 rfl) rfl (W := 0) (by show 2 * 0 + _ ≤ _; exact Nat.le_of_eq rfl) (hb hby d5_70) (by decide) (by decide) (by decide) (by decide)
      obtain ⟨rfl, N26, K26, G1, G2, G3⟩ := hQ26
      replace N0 := Fr.app N0 N26
      have Kf := K0.trans K26 (allS (Or.inl (by simp)) all0)
      replace Ex := Ex.keep K26
      clear F_costs
      clear F_values
      clear F_spareCosts
      clear F_spareValues
      clear F_count
      clear F_parts
      replace Jsc := Jsc.keep K26 (ninS d2 nin0)
      replace Jsv := Jsv.keep K26 (ninS d3 nin0)
      replace Jra := Jra.keep K26 (ninS d6 nin0)
      replace Z0 := Nat.le_trans Z0 K26.1
      refine GoOn.step st26 ?_
      show GoOn p e below _ (T26.setTop (mkF m 73 #[.val (.ref a), .val (.ref ra), .val (.int (Int32.ofNat HS)), .val (.int (Int32.ofNat (stp R (HS + 1)).length)), .val (.long (lastv R (HS + 1))), .second, .val (.int (Int32.ofNat (HS + 1)))] []))
      exact GoOn.ret0 X26 hx hrt hlk (hb hby d5_73) (by decide) (by decide) ⟨fc, fv, rfl, N0, Kf, G1, G2, G3, Jsc, tc, Jsv, tv⟩
    | succ d ih =>
      intro k fc fv T24 l24 h24 X24 e24 N0 Z0 K0 Ex F_costs F_values F_spareCosts F_spareValues F_count F_parts Jsc Jsv Jra hk tc tv
      show GoOn p e below _ (T24.setTop (mkF m 18 #[.val (.ref a), .val (.ref ra), .val (.int (Int32.ofNat HS)), .val (.int (Int32.ofNat (stp R k).length)), .val (.long (lastv R k)), .second, .val (.int (Int32.ofNat k))] []))
      have skl := stp_le R k
      refine GoOn.step (fun t₀ k₀ => XS.iload X24.here hx rfl (hb hby d5_18) rfl k₀) ?_
      show GoOn p e below _ (T24.setTop (mkF m 20 #[.val (.ref a), .val (.ref ra), .val (.int (Int32.ofNat HS)), .val (.int (Int32.ofNat (stp R k).length)), .val (.long (lastv R k)), .second, .val (.int (Int32.ofNat k))] [(.int (Int32.ofNat k))]))
      refine GoOn.step (fun t₀ k₀ => XS.iloadN X24.here hx rfl (hb hby d5_20) rfl k₀) ?_
      show GoOn p e below _ (T24.setTop (mkF m 21 #[.val (.ref a), .val (.ref ra), .val (.int (Int32.ofNat HS)), .val (.int (Int32.ofNat (stp R k).length)), .val (.long (lastv R k)), .second, .val (.int (Int32.ofNat k))] [(.int (Int32.ofNat HS)), (.int (Int32.ofNat k))]))
      have hf27 : ¬ ((Int32.ofNat HS) < (Int32.ofNat k)) := (by rw [on_lt _ _ (by omega) (by omega)]; omega)
      refine GoOn.step (fun t₀ k₀ => XS.icmpNo X24.here hx rfl (hb hby d5_21) rfl (flt hf27).2.2.1 k₀) ?_
      show GoOn p e below _ (T24.setTop (mkF m 24 #[.val (.ref a), .val (.ref ra), .val (.int (Int32.ofNat HS)), .val (.int (Int32.ofNat (stp R k).length)), .val (.long (lastv R k)), .second, .val (.int (Int32.ofNat k))] []))
      refine GoOn.step (fun t₀ k₀ => XS.aloadN X24.here hx rfl (hb hby d5_24) rfl rfl k₀) ?_
      show GoOn p e below _ (T24.setTop (mkF m 25 #[.val (.ref a), .val (.ref ra), .val (.int (Int32.ofNat HS)), .val (.int (Int32.ofNat (stp R k).length)), .val (.long (lastv R k)), .second, .val (.int (Int32.ofNat k))] [(.ref ra)]))
      refine GoOn.step (fun t₀ k₀ => XS.iload X24.here hx rfl (hb hby d5_25) rfl k₀) ?_
      show GoOn p e below _ (T24.setTop (mkF m 27 #[.val (.ref a), .val (.ref ra), .val (.int (Int32.ofNat HS)), .val (.int (Int32.ofNat (stp R k).length)), .val (.long (lastv R k)), .second, .val (.int (Int32.ofNat k))] [(.int (Int32.ofNat k)), (.ref ra)]))
      have hbk := on k (by omega)
      refine GoOn.step (fun t₀ k₀ => kLdJ X24 hx hZ e24 Jra (j := (Int32.ofNat k)) (v := (.long (R k))) ⟨by omega, by omega⟩ (by rw [on_nat k (by omega)]) (g := (mkF m 27 #[.val (.ref a), .val (.ref ra), .val (.int (Int32.ofNat HS)), .val (.int (Int32.ofNat (stp R k).length)), .val (.long (lastv R k)), .second, .val (.int (Int32.ofNat k))] [(.int (Int32.ofNat k)), (.ref ra)])) rfl rfl (hb hby d5_27) t₀ k₀) ?_
      show GoOn p e below _ (T24.setTop (mkF m 28 #[.val (.ref a), .val (.ref ra), .val (.int (Int32.ofNat HS)), .val (.int (Int32.ofNat (stp R k).length)), .val (.long (lastv R k)), .second, .val (.int (Int32.ofNat k))] [(.long (R k))]))
      refine GoOn.step (fun t₀ k₀ => XS.lload X24.here hx rfl (hb hby d5_28) rfl k₀) ?_
      show GoOn p e below _ (T24.setTop (mkF m 30 #[.val (.ref a), .val (.ref ra), .val (.int (Int32.ofNat HS)), .val (.int (Int32.ofNat (stp R k).length)), .val (.long (lastv R k)), .second, .val (.int (Int32.ofNat k))] [(.long (lastv R k)), (.long (R k))]))
      refine GoOn.step (fun t₀ k₀ => XS.lcmp X24.here hx rfl (hb hby d5_30) rfl k₀) ?_
      show GoOn p e below _ (T24.setTop (mkF m 31 #[.val (.ref a), .val (.ref ra), .val (.int (Int32.ofNat HS)), .val (.int (Int32.ofNat (stp R k).length)), .val (.long (lastv R k)), .second, .val (.int (Int32.ofNat k))] [(.int (lcmpW (R k) (lastv R k)))]))
      by_cases hc : (lastv R k) < (R k)
      · refine GoOn.step (fun t₀ k₀ => XS.ifNo X24.here hx rfl (hb hby d5_31) rfl ((if0 _ _).trans (tlt ((lw_gt _ _).mpr hc)).2.2.2) k₀) ?_
        show GoOn p e below _ (T24.setTop (mkF m 34 #[.val (.ref a), .val (.ref ra), .val (.int (Int32.ofNat HS)), .val (.int (Int32.ofNat (stp R k).length)), .val (.long (lastv R k)), .second, .val (.int (Int32.ofNat k))] []))
        have q2 := on (stp R k).length (by omega)
        refine GoOn.step (fun t₀ k₀ => XS.aloadN X24.here hx rfl (hb hby d5_34) rfl rfl k₀) ?_
        show GoOn p e below _ (T24.setTop (mkF m 35 #[.val (.ref a), .val (.ref ra), .val (.int (Int32.ofNat HS)), .val (.int (Int32.ofNat (stp R k).length)), .val (.long (lastv R k)), .second, .val (.int (Int32.ofNat k))] [(.ref a)]))
        obtain ⟨T28, X28, e28, st28⟩ := getF X24 hx hZ hown (host := "") (Or.inl (hw _ (List.mem_of_getElem? (i := 23) rfl))) Via.refl e24 F_spareCosts (g := (mkF m 35 #[.val (.ref a), .val (.ref ra), .val (.int (Int32.ofNat HS)), .val (.int (Int32.ofNat (stp R k).length)), .val (.long (lastv R k)), .second, .val (.int (Int32.ofNat k))] [(.ref a)])) rfl rfl (hb hby d5_35)
        refine GoOn.step st28 ?_
        show GoOn p e below _ (T28.setTop (mkF m 38 #[.val (.ref a), .val (.ref ra), .val (.int (Int32.ofNat HS)), .val (.int (Int32.ofNat (stp R k).length)), .val (.long (lastv R k)), .second, .val (.int (Int32.ofNat k))] [(.ref sc)]))
        refine GoOn.step (fun t₀ k₀ => XS.iloadN X28.here hx rfl (hb hby d5_38) rfl k₀) ?_
        show GoOn p e below _ (T28.setTop (mkF m 39 #[.val (.ref a), .val (.ref ra), .val (.int (Int32.ofNat HS)), .val (.int (Int32.ofNat (stp R k).length)), .val (.long (lastv R k)), .second, .val (.int (Int32.ofNat k))] [(.int (Int32.ofNat (stp R k).length)), (.ref sc)]))
        refine GoOn.step (fun t₀ k₀ => XS.iload X28.here hx rfl (hb hby d5_39) rfl k₀) ?_
        show GoOn p e below _ (T28.setTop (mkF m 41 #[.val (.ref a), .val (.ref ra), .val (.int (Int32.ofNat HS)), .val (.int (Int32.ofNat (stp R k).length)), .val (.long (lastv R k)), .second, .val (.int (Int32.ofNat k))] [(.int (Int32.ofNat k)), (.int (Int32.ofNat (stp R k).length)), (.ref sc)]))
        refine GoOn.step (fun t₀ k₀ => XS.i2l X28.here hx rfl (hb hby d5_41) rfl k₀) ?_
        show GoOn p e below _ (T28.setTop (mkF m 42 #[.val (.ref a), .val (.ref ra), .val (.int (Int32.ofNat HS)), .val (.int (Int32.ofNat (stp R k).length)), .val (.long (lastv R k)), .second, .val (.int (Int32.ofNat k))] [(.long ((Int32.ofNat k).toInt64)), (.int (Int32.ofNat (stp R k).length)), (.ref sc)]))
        obtain ⟨T29, h29, X29, e29, W29, st29⟩ := kStJ X28 hx hZ e28 Jsc (j := (Int32.ofNat (stp R k).length)) ⟨by omega, by omega⟩ (g := (mkF m 42 #[.val (.ref a), .val (.ref ra), .val (.int (Int32.ofNat HS)), .val (.int (Int32.ofNat (stp R k).length)), .val (.long (lastv R k)), .second, .val (.int (Int32.ofNat k))] [(.long ((Int32.ofNat k).toInt64)), (.int (Int32.ofNat (stp R k).length)), (.ref sc)])) rfl rfl (hb hby d5_42)
        replace N0 := Fr.snoc X29 N0 gsc
        replace Ex := Ex.wr W29
        replace F_costs := F_costs.other W29 (Or.inl (Ne.symm d2))
        replace F_values := F_values.other W29 (Or.inl (Ne.symm d2))
        replace F_spareCosts := F_spareCosts.other W29 (Or.inl (Ne.symm d2))
        replace F_spareValues := F_spareValues.other W29 (Or.inl (Ne.symm d2))
        replace F_count := F_count.other W29 (Or.inl (Ne.symm d2))
        replace F_parts := F_parts.other W29 (Or.inl (Ne.symm d2))
        replace Jsc := Jsc.set W29
        replace Jsv := Jsv.other W29 (Ne.symm d1)
        replace Jra := Jra.other W29 d4
        replace Z0 := Nat.le_trans Z0 (Nat.le_of_eq W29.size.symm)
        replace K0 := K0.wr W29 (Or.inl (by simp))
        refine GoOn.step st29 ?_
        show GoOn p e below _ (T29.setTop (mkF m 43 #[.val (.ref a), .val (.ref ra), .val (.int (Int32.ofNat HS)), .val (.int (Int32.ofNat (stp R k).length)), .val (.long (lastv R k)), .second, .val (.int (Int32.ofNat k))] []))
        refine GoOn.step (fun t₀ k₀ => XS.aloadN X29.here hx rfl (hb hby d5_43) rfl rfl k₀) ?_
        show GoOn p e below _ (T29.setTop (mkF m 44 #[.val (.ref a), .val (.ref ra), .val (.int (Int32.ofNat HS)), .val (.int (Int32.ofNat (stp R k).length)), .val (.long (lastv R k)), .second, .val (.int (Int32.ofNat k))] [(.ref a)]))
        obtain ⟨T30, X30, e30, st30⟩ := getF X29 hx hZ hown (host := "") (Or.inl (hw _ (List.mem_of_getElem? (i := 25) rfl))) Via.refl e29 F_spareValues (g := (mkF m 44 #[.val (.ref a), .val (.ref ra), .val (.int (Int32.ofNat HS)), .val (.int (Int32.ofNat (stp R k).length)), .val (.long (lastv R k)), .second, .val (.int (Int32.ofNat k))] [(.ref a)])) rfl rfl (hb hby d5_44)
        refine GoOn.step st30 ?_
        show GoOn p e below _ (T30.setTop (mkF m 47 #[.val (.ref a), .val (.ref ra), .val (.int (Int32.ofNat HS)), .val (.int (Int32.ofNat (stp R k).length)), .val (.long (lastv R k)), .second, .val (.int (Int32.ofNat k))] [(.ref sv)]))
        refine GoOn.step (fun t₀ k₀ => XS.iloadN X30.here hx rfl (hb hby d5_47) rfl k₀) ?_
        show GoOn p e below _ (T30.setTop (mkF m 48 #[.val (.ref a), .val (.ref ra), .val (.int (Int32.ofNat HS)), .val (.int (Int32.ofNat (stp R k).length)), .val (.long (lastv R k)), .second, .val (.int (Int32.ofNat k))] [(.int (Int32.ofNat (stp R k).length)), (.ref sv)]))
        refine GoOn.step (fun t₀ k₀ => XS.aloadN X30.here hx rfl (hb hby d5_48) rfl rfl k₀) ?_
        show GoOn p e below _ (T30.setTop (mkF m 49 #[.val (.ref a), .val (.ref ra), .val (.int (Int32.ofNat HS)), .val (.int (Int32.ofNat (stp R k).length)), .val (.long (lastv R k)), .second, .val (.int (Int32.ofNat k))] [(.ref ra), (.int (Int32.ofNat (stp R k).length)), (.ref sv)]))
        refine GoOn.step (fun t₀ k₀ => XS.iload X30.here hx rfl (hb hby d5_49) rfl k₀) ?_
        show GoOn p e below _ (T30.setTop (mkF m 51 #[.val (.ref a), .val (.ref ra), .val (.int (Int32.ofNat HS)), .val (.int (Int32.ofNat (stp R k).length)), .val (.long (lastv R k)), .second, .val (.int (Int32.ofNat k))] [(.int (Int32.ofNat k)), (.ref ra), (.int (Int32.ofNat (stp R k).length)), (.ref sv)]))
        refine GoOn.step (fun t₀ k₀ => kLdJ X30 hx hZ e30 Jra (j := (Int32.ofNat k)) (v := (.long (R k))) ⟨by omega, by omega⟩ (by rw [on_nat k (by omega)]) (g := (mkF m 51 #[.val (.ref a), .val (.ref ra), .val (.int (Int32.ofNat HS)), .val (.int (Int32.ofNat (stp R k).length)), .val (.long (lastv R k)), .second, .val (.int (Int32.ofNat k))] [(.int (Int32.ofNat k)), (.ref ra), (.int (Int32.ofNat (stp R k).length)), (.ref sv)])) rfl rfl (hb hby d5_51) t₀ k₀) ?_
        show GoOn p e below _ (T30.setTop (mkF m 52 #[.val (.ref a), .val (.ref ra), .val (.int (Int32.ofNat HS)), .val (.int (Int32.ofNat (stp R k).length)), .val (.long (lastv R k)), .second, .val (.int (Int32.ofNat k))] [(.long (R k)), (.int (Int32.ofNat (stp R k).length)), (.ref sv)]))
        obtain ⟨T31, h31, X31, e31, W31, st31⟩ := kStJ X30 hx hZ e30 Jsv (j := (Int32.ofNat (stp R k).length)) ⟨by omega, by omega⟩ (g := (mkF m 52 #[.val (.ref a), .val (.ref ra), .val (.int (Int32.ofNat HS)), .val (.int (Int32.ofNat (stp R k).length)), .val (.long (lastv R k)), .second, .val (.int (Int32.ofNat k))] [(.long (R k)), (.int (Int32.ofNat (stp R k).length)), (.ref sv)])) rfl rfl (hb hby d5_52)
        replace N0 := Fr.snoc X31 N0 gsv
        replace Ex := Ex.wr W31
        replace F_costs := F_costs.other W31 (Or.inl (Ne.symm d3))
        replace F_values := F_values.other W31 (Or.inl (Ne.symm d3))
        replace F_spareCosts := F_spareCosts.other W31 (Or.inl (Ne.symm d3))
        replace F_spareValues := F_spareValues.other W31 (Or.inl (Ne.symm d3))
        replace F_count := F_count.other W31 (Or.inl (Ne.symm d3))
        replace F_parts := F_parts.other W31 (Or.inl (Ne.symm d3))
        replace Jsc := Jsc.other W31 d1
        replace Jsv := Jsv.set W31
        replace Jra := Jra.other W31 d5
        replace Z0 := Nat.le_trans Z0 (Nat.le_of_eq W31.size.symm)
        replace K0 := K0.wr W31 (Or.inl (by simp))
        refine GoOn.step st31 ?_
        show GoOn p e below _ (T31.setTop (mkF m 53 #[.val (.ref a), .val (.ref ra), .val (.int (Int32.ofNat HS)), .val (.int (Int32.ofNat (stp R k).length)), .val (.long (lastv R k)), .second, .val (.int (Int32.ofNat k))] []))
        refine GoOn.step (fun t₀ k₀ => XS.iinc X31.here hx rfl (hb hby d5_53) rfl (l' := #[.val (.ref a), .val (.ref ra), .val (.int (Int32.ofNat HS)), .val (.int ((Int32.ofNat (stp R k).length) + (1 : Int32))), .val (.long (lastv R k)), .second, .val (.int (Int32.ofNat k))]) rfl k₀) ?_
        show GoOn p e below _ (T31.setTop (mkF m 56 #[.val (.ref a), .val (.ref ra), .val (.int (Int32.ofNat HS)), .val (.int ((Int32.ofNat (stp R k).length) + (1 : Int32))), .val (.long (lastv R k)), .second, .val (.int (Int32.ofNat k))] []))
        refine GoOn.step (fun t₀ k₀ => XS.aloadN X31.here hx rfl (hb hby d5_56) rfl rfl k₀) ?_
        show GoOn p e below _ (T31.setTop (mkF m 57 #[.val (.ref a), .val (.ref ra), .val (.int (Int32.ofNat HS)), .val (.int ((Int32.ofNat (stp R k).length) + (1 : Int32))), .val (.long (lastv R k)), .second, .val (.int (Int32.ofNat k))] [(.ref ra)]))
        refine GoOn.step (fun t₀ k₀ => XS.iload X31.here hx rfl (hb hby d5_57) rfl k₀) ?_
        show GoOn p e below _ (T31.setTop (mkF m 59 #[.val (.ref a), .val (.ref ra), .val (.int (Int32.ofNat HS)), .val (.int ((Int32.ofNat (stp R k).length) + (1 : Int32))), .val (.long (lastv R k)), .second, .val (.int (Int32.ofNat k))] [(.int (Int32.ofNat k)), (.ref ra)]))
        refine GoOn.step (fun t₀ k₀ => kLdJ X31 hx hZ e31 Jra (j := (Int32.ofNat k)) (v := (.long (R k))) ⟨by omega, by omega⟩ (by rw [on_nat k (by omega)]) (g := (mkF m 59 #[.val (.ref a), .val (.ref ra), .val (.int (Int32.ofNat HS)), .val (.int ((Int32.ofNat (stp R k).length) + (1 : Int32))), .val (.long (lastv R k)), .second, .val (.int (Int32.ofNat k))] [(.int (Int32.ofNat k)), (.ref ra)])) rfl rfl (hb hby d5_59) t₀ k₀) ?_
        show GoOn p e below _ (T31.setTop (mkF m 60 #[.val (.ref a), .val (.ref ra), .val (.int (Int32.ofNat HS)), .val (.int ((Int32.ofNat (stp R k).length) + (1 : Int32))), .val (.long (lastv R k)), .second, .val (.int (Int32.ofNat k))] [(.long (R k))]))
        refine GoOn.step (fun t₀ k₀ => XS.lstore X31.here hx rfl (hb hby d5_60) rfl (l' := #[.val (.ref a), .val (.ref ra), .val (.int (Int32.ofNat HS)), .val (.int ((Int32.ofNat (stp R k).length) + (1 : Int32))), .val (.long (R k)), .second, .val (.int (Int32.ofNat k))]) rfl k₀) ?_
        show GoOn p e below _ (T31.setTop (mkF m 62 #[.val (.ref a), .val (.ref ra), .val (.int (Int32.ofNat HS)), .val (.int ((Int32.ofNat (stp R k).length) + (1 : Int32))), .val (.long (R k)), .second, .val (.int (Int32.ofNat k))] []))
        refine GoOn.step (fun t₀ k₀ => XS.iinc X31.here hx rfl (hb hby d5_62) rfl (l' := #[.val (.ref a), .val (.ref ra), .val (.int (Int32.ofNat HS)), .val (.int ((Int32.ofNat (stp R k).length) + (1 : Int32))), .val (.long (R k)), .second, .val (.int ((Int32.ofNat k) + (1 : Int32)))]) rfl k₀) ?_
        show GoOn p e below _ (T31.setTop (mkF m 65 #[.val (.ref a), .val (.ref ra), .val (.int (Int32.ofNat HS)), .val (.int ((Int32.ofNat (stp R k).length) + (1 : Int32))), .val (.long (R k)), .second, .val (.int ((Int32.ofNat k) + (1 : Int32)))] []))
        refine GoOn.step (fun t₀ k₀ => XS.goto X31.here hx rfl (pc0 := 65) (pc' := 18) rfl (hb hby d5_65) (by decide) (by decide) k₀) ?_
        show GoOn p e below _ (T31.setTop (mkF m 18 #[.val (.ref a), .val (.ref ra), .val (.int (Int32.ofNat HS)), .val (.int ((Int32.ofNat (stp R k).length) + (1 : Int32))), .val (.long (R k)), .second, .val (.int ((Int32.ofNat k) + (1 : Int32)))] []))
        have s1 : (Int32.ofNat (stp R k).length) + (1 : Int32) = (Int32.ofNat (stp R (k + 1)).length) := by rw [on_succ, stp_y hc, List.length_append]; rfl
        rw [s1, on_succ, ← las_y hc]
        exact ih (k + 1) _ _ _ _ _ X31 e31 N0 Z0 K0 Ex F_costs F_values F_spareCosts F_spareValues F_count F_parts Jsc Jsv Jra (by omega) (by rw [stp_y hc]; exact tc.snoc (on_nat _ (by omega))) (by rw [stp_y hc]; exact tv.snoc (on_nat _ (by omega)))
      · refine GoOn.step (fun t₀ k₀ => XS.ifYes X24.here hx rfl (pc0 := 31) (pc' := 62) rfl (hb hby d5_31) rfl ((if0 _ _).trans (flt (mt (lw_gt _ _).mp hc)).2.2.2) (by decide) (by decide) k₀) ?_
        show GoOn p e below _ (T24.setTop (mkF m 62 #[.val (.ref a), .val (.ref ra), .val (.int (Int32.ofNat HS)), .val (.int (Int32.ofNat (stp R k).length)), .val (.long (lastv R k)), .second, .val (.int (Int32.ofNat k))] []))
        refine GoOn.step (fun t₀ k₀ => XS.iinc X24.here hx rfl (hb hby d5_62) rfl (l' := #[.val (.ref a), .val (.ref ra), .val (.int (Int32.ofNat HS)), .val (.int (Int32.ofNat (stp R k).length)), .val (.long (lastv R k)), .second, .val (.int ((Int32.ofNat k) + (1 : Int32)))]) rfl k₀) ?_
        show GoOn p e below _ (T24.setTop (mkF m 65 #[.val (.ref a), .val (.ref ra), .val (.int (Int32.ofNat HS)), .val (.int (Int32.ofNat (stp R k).length)), .val (.long (lastv R k)), .second, .val (.int ((Int32.ofNat k) + (1 : Int32)))] []))
        refine GoOn.step (fun t₀ k₀ => XS.goto X24.here hx rfl (pc0 := 65) (pc' := 18) rfl (hb hby d5_65) (by decide) (by decide) k₀) ?_
        show GoOn p e below _ (T24.setTop (mkF m 18 #[.val (.ref a), .val (.ref ra), .val (.int (Int32.ofNat HS)), .val (.int (Int32.ofNat (stp R k).length)), .val (.long (lastv R k)), .second, .val (.int ((Int32.ofNat k) + (1 : Int32)))] []))
        rw [on_succ, ← las_n hc, ← stp_n hc]
        exact ih (k + 1) _ _ _ _ _ X24 e24 N0 Z0 K0 Ex F_costs F_values F_spareCosts F_spareValues F_count F_parts Jsc Jsv Jra (by omega) (by rw [stp_n hc]; exact tc) (by rw [stp_n hc]; exact tv)
  exact JS (HS + 1) 0 _ _ _ _ _ X23 e23 N0 Z0 K0 Ex F_costs F_values F_spareCosts F_spareValues F_count F_parts Jsc Jsv Jra (by omega) (fun j hj => absurd hj (Nat.not_lt_zero _)) (fun j hj => absurd hj (Nat.not_lt_zero _))
def ExQ (Z : State) (o : Addr) (R : Nat → Int64) (HS HE : Nat) (h0 : Heap) (n0 : Nat) : Option Value → Heap → List Loc → Prop := fun r h L => ∃ fo, r = none ∧ Fr n0 L ∧ Keep h0 h [o] ∧ Jar Z h o .long 8 fo ∧ (∀ j, j < HE + 1 → fo j = .long (R (min j HS))) ∧ ∀ j, HE + 1 ≤ j → fo j = .long (81985529216486895 : Int64)
theorem ef_c_ex (m : MethodId) (x0 : Addr) (x1 : Addr) (x2 : Int32) : entryFrame m #[(.ref x0), (.ref x1), (.int x2)] 5 = mkF m 0 #[.val (.ref x0), .val (.ref x1), .val (.int x2), .unset, .unset] [] := by first | (simp [entryFrame, mkF, argsToLocals, Value.category]; done) | rfl
set_option maxRecDepth 65536 in
set_option maxHeartbeats 40000000 in
theorem c_ex (l : Launch) (Z : State) (a0 : Array Value) (hw : ∀ d ∈ tables_1, d.before a0 Z = true) (a o sc sv : Addr) (HS HE : Nat) (R : Nat → Int64) (fc fv fo : Nat → Value) (h0 : Heap) (n0 : Nat) (Z0 : n0 ≤ h0.size) (F_costs : Fld Z h0 a "com/example/treesack/treesack/core/ValueSteps" "costs" "[J" (.ref sc)) (F_values : Fld Z h0 a "com/example/treesack/treesack/core/ValueSteps" "values" "[J" (.ref sv)) (F_count : Fld Z h0 a "com/example/treesack/treesack/core/ValueSteps" "count" "I" (.int (Int32.ofNat (stp R (HS + 1)).length))) (Jsc : Jar Z h0 sc .long 4 fc) (tc : TkL fc (stp R (HS + 1)) cst) (Jsv : Jar Z h0 sv .long 4 fv) (tv : TkL fv (stp R (HS + 1)) R) (Jo : Jar Z h0 o .long 8 fo) (hS : ∀ j, fo j = .long (81985529216486895 : Int64)) (hm : Mono R) (hHS : HS ≤ 3) (hHE : HE ≤ 7) (go : n0 ≤ o) (d1 : a ≠ o) (d2 : sc ≠ o) (d3 : sv ≠ o) :
    Con l Z (⟨"com/example/treesack/treesack/core/ValueSteps", "expandInto", "([JI)V"⟩ : MethodName) prog_62_method_15_code 5 none ({ frames := 0, cells := 0, slots := 0, locals := 0 } : Room) #[(.ref a), (.ref o), (.int (Int32.ofNat HE))] h0 (ExQ Z o R HS HE h0 n0) := by
  refine Con.intro (plainFor_of_name pn_0) ?_
  intro p e s m below meth c s₁ hx hby hml hrt hlk hZ hown hnm X0 e0
  replace hown : s.vm.findClass "com/example/treesack/treesack/core/ValueSteps" = some m.cls := hown
  have N0 := Fr.nil n0
  refine GoOn.cast (ef_c_ex m a o (Int32.ofNat HE)) ?_
  show GoOn p e below _ (s₁.setTop (mkF m 0 #[.val (.ref a), .val (.ref o), .val (.int (Int32.ofNat HE)), .unset, .unset] []))
  have K0 : Keep h0 h0 [o] := Keep.refl _ _
  have hsl := stp_le R (HS + 1)
  refine GoOn.step (fun t₀ k₀ => XS.iconst X0.here hx rfl (hb hby d8_0) k₀) ?_
  show GoOn p e below _ (s₁.setTop (mkF m 1 #[.val (.ref a), .val (.ref o), .val (.int (Int32.ofNat HE)), .unset, .unset] [(.int (-1 : Int32))]))
  refine GoOn.step (fun t₀ k₀ => XS.istoreN X0.here hx rfl (hb hby d8_1) rfl (l' := #[.val (.ref a), .val (.ref o), .val (.int (Int32.ofNat HE)), .val (.int (-1 : Int32)), .unset]) rfl k₀) ?_
  show GoOn p e below _ (s₁.setTop (mkF m 2 #[.val (.ref a), .val (.ref o), .val (.int (Int32.ofNat HE)), .val (.int (-1 : Int32)), .unset] []))
  refine GoOn.step (fun t₀ k₀ => XS.iconst X0.here hx rfl (hb hby d8_2) k₀) ?_
  show GoOn p e below _ (s₁.setTop (mkF m 3 #[.val (.ref a), .val (.ref o), .val (.int (Int32.ofNat HE)), .val (.int (-1 : Int32)), .unset] [(.int (0 : Int32))]))
  refine GoOn.step (fun t₀ k₀ => XS.istore X0.here hx rfl (hb hby d8_3) rfl (l' := #[.val (.ref a), .val (.ref o), .val (.int (Int32.ofNat HE)), .val (.int (-1 : Int32)), .val (.int (0 : Int32))]) rfl k₀) ?_
  show GoOn p e below _ (s₁.setTop (mkF m 5 #[.val (.ref a), .val (.ref o), .val (.int (Int32.ofNat HE)), .val (.int (-1 : Int32)), .val (.int (0 : Int32))] []))
  have JO : ∀ (d : Nat) (i : Nat) (fo : Nat → Value) (T32 : State) (l32 : List Loc) (h32 : Heap) (_ : Stand p l e ({ frames := 0, cells := 0, slots := 0, locals := 0 } : Room) s m #[(.ref a), (.ref o), (.int (Int32.ofNat HE))] below meth c T32 l32 0 0) (_ : T32.heap = h32) (_ : Fr n0 l32) (_ : n0 ≤ h32.size) (_ : Keep h0 h32 [o]) (_ : Fld Z h32 a "com/example/treesack/treesack/core/ValueSteps" "costs" "[J" (.ref sc)) (_ : Fld Z h32 a "com/example/treesack/treesack/core/ValueSteps" "values" "[J" (.ref sv)) (_ : Fld Z h32 a "com/example/treesack/treesack/core/ValueSteps" "count" "I" (.int (Int32.ofNat (stp R (HS + 1)).length))) (_ : Jar Z h32 sc .long 4 fc) (_ : Jar Z h32 sv .long 4 fv) (_ : Jar Z h32 o .long 8 fo) (_ : i + d = HE + 1) (_ : ∀ j, j < i → fo j = .long (R (min j HS))) (_ : ∀ j, i ≤ j → fo j = .long (81985529216486895 : Int64)), GoOn p e below (EndQ s ({ frames := 0, cells := 0, slots := 0, locals := 0 } : Room) (ExQ Z o R HS HE h0 n0)) (T32.setTop (mkF m 5 #[.val (.ref a), .val (.ref o), .val (.int (Int32.ofNat HE)), .val (.int ((Int32.ofNat (stp R (min i (HS + 1))).length) - (1 : Int32))), .val (.int (Int32.ofNat i))] [])) := by
    intro d
    induction d with
    | zero =>
      intro i fo T32 l32 h32 X32 e32 N0 Z0 K0 F_costs F_values F_count Jsc Jsv Jo hk ha hbb
      obtain rfl : i = HE + 1 := by omega
      show GoOn p e below _ (T32.setTop (mkF m 5 #[.val (.ref a), .val (.ref o), .val (.int (Int32.ofNat HE)), .val (.int ((Int32.ofNat (stp R (min (HE + 1) (HS + 1))).length) - (1 : Int32))), .val (.int (Int32.ofNat (HE + 1)))] []))
      refine GoOn.step (fun t₀ k₀ => XS.iload X32.here hx rfl (hb hby d8_5) rfl k₀) ?_
      show GoOn p e below _ (T32.setTop (mkF m 7 #[.val (.ref a), .val (.ref o), .val (.int (Int32.ofNat HE)), .val (.int ((Int32.ofNat (stp R (min (HE + 1) (HS + 1))).length) - (1 : Int32))), .val (.int (Int32.ofNat (HE + 1)))] [(.int (Int32.ofNat (HE + 1)))]))
      refine GoOn.step (fun t₀ k₀ => XS.iloadN X32.here hx rfl (hb hby d8_7) rfl k₀) ?_
      show GoOn p e below _ (T32.setTop (mkF m 8 #[.val (.ref a), .val (.ref o), .val (.int (Int32.ofNat HE)), .val (.int ((Int32.ofNat (stp R (min (HE + 1) (HS + 1))).length) - (1 : Int32))), .val (.int (Int32.ofNat (HE + 1)))] [(.int (Int32.ofNat HE)), (.int (Int32.ofNat (HE + 1)))]))
      have hf33 : (Int32.ofNat HE) < (Int32.ofNat (HE + 1)) := (by rw [on_lt _ _ (by omega) (by omega)]; omega)
      refine GoOn.step (fun t₀ k₀ => XS.icmpYes X32.here hx rfl (pc0 := 8) (pc' := 68) rfl (hb hby d8_8) rfl (tlt hf33).2.2.1 (by decide) (by decide) k₀) ?_
      show GoOn p e below _ (T32.setTop (mkF m 68 #[.val (.ref a), .val (.ref o), .val (.int (Int32.ofNat HE)), .val (.int ((Int32.ofNat (stp R (min (HE + 1) (HS + 1))).length) - (1 : Int32))), .val (.int (Int32.ofNat (HE + 1)))] []))
      exact GoOn.ret0 X32 hx hrt hlk (hb hby d8_68) (by decide) (by decide) (by first | exact ⟨fo, rfl, N0, K0, Jo, ha, hbb⟩ | (rw [e32]; exact ⟨fo, rfl, N0, K0, Jo, ha, hbb⟩))
    | succ d ih =>
      intro i fo T32 l32 h32 X32 e32 N0 Z0 K0 F_costs F_values F_count Jsc Jsv Jo hk ha hbb
      show GoOn p e below _ (T32.setTop (mkF m 5 #[.val (.ref a), .val (.ref o), .val (.int (Int32.ofNat HE)), .val (.int ((Int32.ofNat (stp R (min i (HS + 1))).length) - (1 : Int32))), .val (.int (Int32.ofNat i))] []))
      refine GoOn.step (fun t₀ k₀ => XS.iload X32.here hx rfl (hb hby d8_5) rfl k₀) ?_
      show GoOn p e below _ (T32.setTop (mkF m 7 #[.val (.ref a), .val (.ref o), .val (.int (Int32.ofNat HE)), .val (.int ((Int32.ofNat (stp R (min i (HS + 1))).length) - (1 : Int32))), .val (.int (Int32.ofNat i))] [(.int (Int32.ofNat i))]))
      refine GoOn.step (fun t₀ k₀ => XS.iloadN X32.here hx rfl (hb hby d8_7) rfl k₀) ?_
      show GoOn p e below _ (T32.setTop (mkF m 8 #[.val (.ref a), .val (.ref o), .val (.int (Int32.ofNat HE)), .val (.int ((Int32.ofNat (stp R (min i (HS + 1))).length) - (1 : Int32))), .val (.int (Int32.ofNat i))] [(.int (Int32.ofNat HE)), (.int (Int32.ofNat i))]))
      have hf34 : ¬ ((Int32.ofNat HE) < (Int32.ofNat i)) := (by rw [on_lt _ _ (by omega) (by omega)]; omega)
      refine GoOn.step (fun t₀ k₀ => XS.icmpNo X32.here hx rfl (hb hby d8_8) rfl (flt hf34).2.2.1 k₀) ?_
      show GoOn p e below _ (T32.setTop (mkF m 11 #[.val (.ref a), .val (.ref o), .val (.int (Int32.ofNat HE)), .val (.int ((Int32.ofNat (stp R (min i (HS + 1))).length) - (1 : Int32))), .val (.int (Int32.ofNat i))] []))
      have cl0 := stp_le R (min i (HS + 1))
      have cl1 := stp_le R (min (i + 1) (HS + 1))
      have oi := on i (by omega)
      have JX : ∀ (T35 : State) (l35 : List Loc) (_ : Stand p l e ({ frames := 0, cells := 0, slots := 0, locals := 0 } : Room) s m #[(.ref a), (.ref o), (.int (Int32.ofNat HE))] below meth c T35 l35 0 0) (_ : T35.heap = h32) (_ : Fr n0 l35) , GoOn p e below (EndQ s ({ frames := 0, cells := 0, slots := 0, locals := 0 } : Room) (ExQ Z o R HS HE h0 n0)) (T35.setTop (mkF m 42 #[.val (.ref a), .val (.ref o), .val (.int (Int32.ofNat HE)), .val (.int ((Int32.ofNat (stp R (min (i + 1) (HS + 1))).length) - (1 : Int32))), .val (.int (Int32.ofNat i))] [])) := by
        intro T35 l35 X35 e35 N0 
        refine GoOn.step (fun t₀ k₀ => XS.aloadN X35.here hx rfl (hb hby d8_42) rfl rfl k₀) ?_
        show GoOn p e below _ (T35.setTop (mkF m 43 #[.val (.ref a), .val (.ref o), .val (.int (Int32.ofNat HE)), .val (.int ((Int32.ofNat (stp R (min (i + 1) (HS + 1))).length) - (1 : Int32))), .val (.int (Int32.ofNat i))] [(.ref o)]))
        refine GoOn.step (fun t₀ k₀ => XS.iload X35.here hx rfl (hb hby d8_43) rfl k₀) ?_
        show GoOn p e below _ (T35.setTop (mkF m 45 #[.val (.ref a), .val (.ref o), .val (.int (Int32.ofNat HE)), .val (.int ((Int32.ofNat (stp R (min (i + 1) (HS + 1))).length) - (1 : Int32))), .val (.int (Int32.ofNat i))] [(.int (Int32.ofNat i)), (.ref o)]))
        refine GoOn.step (fun t₀ k₀ => XS.iloadN X35.here hx rfl (hb hby d8_45) rfl k₀) ?_
        show GoOn p e below _ (T35.setTop (mkF m 46 #[.val (.ref a), .val (.ref o), .val (.int (Int32.ofNat HE)), .val (.int ((Int32.ofNat (stp R (min (i + 1) (HS + 1))).length) - (1 : Int32))), .val (.int (Int32.ofNat i))] [(.int ((Int32.ofNat (stp R (min (i + 1) (HS + 1))).length) - (1 : Int32))), (.int (Int32.ofNat i)), (.ref o)]))
        by_cases hc : ((Int32.ofNat (stp R (min (i + 1) (HS + 1))).length) - (1 : Int32)) < (0 : Int32)
        · refine GoOn.step (fun t₀ k₀ => XS.ifNo X35.here hx rfl (hb hby d8_46) rfl ((if0 _ _).trans (tlt hc).2.1) k₀) ?_
          show GoOn p e below _ (T35.setTop (mkF m 49 #[.val (.ref a), .val (.ref o), .val (.int (Int32.ofNat HE)), .val (.int ((Int32.ofNat (stp R (min (i + 1) (HS + 1))).length) - (1 : Int32))), .val (.int (Int32.ofNat i))] [(.int (Int32.ofNat i)), (.ref o)]))
          have ai := at_int (stp R (min (i + 1) (HS + 1))).length (by omega)
          rw [Int32.lt_iff_toInt_lt, ai, show (0 : Int32).toInt = 0 from by decide] at hc
          have ov := out_at hm (i := i) (n := HS + 1) (by omega) (by omega)
          rw [show HS + 1 - 1 = HS from rfl] at ov
          refine GoOn.step (fun t₀ k₀ => X35.ldc2Long hx hown (mvT hZ (hw _ (List.mem_of_getElem? (i := 37) rfl))) (g := (mkF m 49 #[.val (.ref a), .val (.ref o), .val (.int (Int32.ofNat HE)), .val (.int ((Int32.ofNat (stp R (min (i + 1) (HS + 1))).length) - (1 : Int32))), .val (.int (Int32.ofNat i))] [(.int (Int32.ofNat i)), (.ref o)])) rfl (hb hby d8_49) t₀ k₀) ?_
          show GoOn p e below _ (T35.setTop (mkF m 52 #[.val (.ref a), .val (.ref o), .val (.int (Int32.ofNat HE)), .val (.int ((Int32.ofNat (stp R (min (i + 1) (HS + 1))).length) - (1 : Int32))), .val (.int (Int32.ofNat i))] [(.long (-9223372036854775808 : Int64)), (.int (Int32.ofNat i)), (.ref o)]))
          refine GoOn.step (fun t₀ k₀ => XS.goto X35.here hx rfl (pc0 := 52) (pc' := 61) rfl (hb hby d8_52) (by decide) (by decide) k₀) ?_
          show GoOn p e below _ (T35.setTop (mkF m 61 #[.val (.ref a), .val (.ref o), .val (.int (Int32.ofNat HE)), .val (.int ((Int32.ofNat (stp R (min (i + 1) (HS + 1))).length) - (1 : Int32))), .val (.int (Int32.ofNat i))] [(.long (-9223372036854775808 : Int64)), (.int (Int32.ofNat i)), (.ref o)]))
          rw [show (-9223372036854775808 : Int64) = (R (min i HS)) from (by rw [← ov, if_pos (by omega)])]
          obtain ⟨T36, h36, X36, e36, W36, st36⟩ := kStJ X35 hx hZ e35 Jo (j := (Int32.ofNat i)) ⟨by omega, by omega⟩ (g := (mkF m 61 #[.val (.ref a), .val (.ref o), .val (.int (Int32.ofNat HE)), .val (.int ((Int32.ofNat (stp R (min (i + 1) (HS + 1))).length) - (1 : Int32))), .val (.int (Int32.ofNat i))] [(.long (R (min i HS))), (.int (Int32.ofNat i)), (.ref o)])) rfl rfl (hb hby d8_61)
          replace N0 := Fr.snoc X36 N0 go
          replace F_costs := F_costs.other W36 (Or.inl d1)
          replace F_values := F_values.other W36 (Or.inl d1)
          replace F_count := F_count.other W36 (Or.inl d1)
          replace Jsc := Jsc.other W36 d2
          replace Jsv := Jsv.other W36 d3
          replace Jo := Jo.set W36
          replace Z0 := Nat.le_trans Z0 (Nat.le_of_eq W36.size.symm)
          replace K0 := K0.wr W36 (Or.inl (by simp))
          refine GoOn.step st36 ?_
          show GoOn p e below _ (T36.setTop (mkF m 62 #[.val (.ref a), .val (.ref o), .val (.int (Int32.ofNat HE)), .val (.int ((Int32.ofNat (stp R (min (i + 1) (HS + 1))).length) - (1 : Int32))), .val (.int (Int32.ofNat i))] []))
          refine GoOn.step (fun t₀ k₀ => XS.iinc X36.here hx rfl (hb hby d8_62) rfl (l' := #[.val (.ref a), .val (.ref o), .val (.int (Int32.ofNat HE)), .val (.int ((Int32.ofNat (stp R (min (i + 1) (HS + 1))).length) - (1 : Int32))), .val (.int ((Int32.ofNat i) + (1 : Int32)))]) rfl k₀) ?_
          show GoOn p e below _ (T36.setTop (mkF m 65 #[.val (.ref a), .val (.ref o), .val (.int (Int32.ofNat HE)), .val (.int ((Int32.ofNat (stp R (min (i + 1) (HS + 1))).length) - (1 : Int32))), .val (.int ((Int32.ofNat i) + (1 : Int32)))] []))
          refine GoOn.step (fun t₀ k₀ => XS.goto X36.here hx rfl (pc0 := 65) (pc' := 5) rfl (hb hby d8_65) (by decide) (by decide) k₀) ?_
          show GoOn p e below _ (T36.setTop (mkF m 5 #[.val (.ref a), .val (.ref o), .val (.int (Int32.ofNat HE)), .val (.int ((Int32.ofNat (stp R (min (i + 1) (HS + 1))).length) - (1 : Int32))), .val (.int ((Int32.ofNat i) + (1 : Int32)))] []))
          rw [on_succ]
          exact ih (i + 1) _ _ _ _ X36 e36 N0 Z0 K0 F_costs F_values F_count Jsc Jsv Jo (by omega) (own_oa ha (by omega)) (own_ob hbb (by omega))
        · refine GoOn.step (fun t₀ k₀ => XS.ifYes X35.here hx rfl (pc0 := 46) (pc' := 55) rfl (hb hby d8_46) rfl ((if0 _ _).trans (flt hc).2.1) (by decide) (by decide) k₀) ?_
          show GoOn p e below _ (T35.setTop (mkF m 55 #[.val (.ref a), .val (.ref o), .val (.int (Int32.ofNat HE)), .val (.int ((Int32.ofNat (stp R (min (i + 1) (HS + 1))).length) - (1 : Int32))), .val (.int (Int32.ofNat i))] [(.int (Int32.ofNat i)), (.ref o)]))
          have ai := at_int (stp R (min (i + 1) (HS + 1))).length (by omega)
          rw [Int32.lt_iff_toInt_lt, ai, show (0 : Int32).toInt = 0 from by decide] at hc
          have ov := out_at hm (i := i) (n := HS + 1) (by omega) (by omega)
          rw [show HS + 1 - 1 = HS from rfl] at ov
          refine GoOn.step (fun t₀ k₀ => XS.aloadN X35.here hx rfl (hb hby d8_55) rfl rfl k₀) ?_
          show GoOn p e below _ (T35.setTop (mkF m 56 #[.val (.ref a), .val (.ref o), .val (.int (Int32.ofNat HE)), .val (.int ((Int32.ofNat (stp R (min (i + 1) (HS + 1))).length) - (1 : Int32))), .val (.int (Int32.ofNat i))] [(.ref a), (.int (Int32.ofNat i)), (.ref o)]))
          obtain ⟨T37, X37, e37, st37⟩ := getF X35 hx hZ hown (host := "") (Or.inl (hw _ (List.mem_of_getElem? (i := 21) rfl))) Via.refl e35 F_values (g := (mkF m 56 #[.val (.ref a), .val (.ref o), .val (.int (Int32.ofNat HE)), .val (.int ((Int32.ofNat (stp R (min (i + 1) (HS + 1))).length) - (1 : Int32))), .val (.int (Int32.ofNat i))] [(.ref a), (.int (Int32.ofNat i)), (.ref o)])) rfl rfl (hb hby d8_56)
          refine GoOn.step st37 ?_
          show GoOn p e below _ (T37.setTop (mkF m 59 #[.val (.ref a), .val (.ref o), .val (.int (Int32.ofNat HE)), .val (.int ((Int32.ofNat (stp R (min (i + 1) (HS + 1))).length) - (1 : Int32))), .val (.int (Int32.ofNat i))] [(.ref sv), (.int (Int32.ofNat i)), (.ref o)]))
          refine GoOn.step (fun t₀ k₀ => XS.iloadN X37.here hx rfl (hb hby d8_59) rfl k₀) ?_
          show GoOn p e below _ (T37.setTop (mkF m 60 #[.val (.ref a), .val (.ref o), .val (.int (Int32.ofNat HE)), .val (.int ((Int32.ofNat (stp R (min (i + 1) (HS + 1))).length) - (1 : Int32))), .val (.int (Int32.ofNat i))] [(.int ((Int32.ofNat (stp R (min (i + 1) (HS + 1))).length) - (1 : Int32))), (.ref sv), (.int (Int32.ofNat i)), (.ref o)]))
          refine GoOn.step (fun t₀ k₀ => kLdJ X37 hx hZ e37 Jsv (j := ((Int32.ofNat (stp R (min (i + 1) (HS + 1))).length) - (1 : Int32))) (v := (.long (R ((stp R (HS + 1)).getD ((stp R (min (i + 1) (HS + 1))).length - 1) 0)))) ⟨by omega, by omega⟩ (by rw [at_nat _ (by omega) (by omega)]; exact tv _ (by have := own_le (R := R) (i := i + 1) (n := HS + 1); omega)) (g := (mkF m 60 #[.val (.ref a), .val (.ref o), .val (.int (Int32.ofNat HE)), .val (.int ((Int32.ofNat (stp R (min (i + 1) (HS + 1))).length) - (1 : Int32))), .val (.int (Int32.ofNat i))] [(.int ((Int32.ofNat (stp R (min (i + 1) (HS + 1))).length) - (1 : Int32))), (.ref sv), (.int (Int32.ofNat i)), (.ref o)])) rfl rfl (hb hby d8_60) t₀ k₀) ?_
          show GoOn p e below _ (T37.setTop (mkF m 61 #[.val (.ref a), .val (.ref o), .val (.int (Int32.ofNat HE)), .val (.int ((Int32.ofNat (stp R (min (i + 1) (HS + 1))).length) - (1 : Int32))), .val (.int (Int32.ofNat i))] [(.long (R ((stp R (HS + 1)).getD ((stp R (min (i + 1) (HS + 1))).length - 1) 0))), (.int (Int32.ofNat i)), (.ref o)]))
          rw [show (R ((stp R (HS + 1)).getD ((stp R (min (i + 1) (HS + 1))).length - 1) 0)) = (R (min i HS)) from (by rw [← ov, if_neg (by omega)])]
          obtain ⟨T38, h38, X38, e38, W38, st38⟩ := kStJ X37 hx hZ e37 Jo (j := (Int32.ofNat i)) ⟨by omega, by omega⟩ (g := (mkF m 61 #[.val (.ref a), .val (.ref o), .val (.int (Int32.ofNat HE)), .val (.int ((Int32.ofNat (stp R (min (i + 1) (HS + 1))).length) - (1 : Int32))), .val (.int (Int32.ofNat i))] [(.long (R (min i HS))), (.int (Int32.ofNat i)), (.ref o)])) rfl rfl (hb hby d8_61)
          replace N0 := Fr.snoc X38 N0 go
          replace F_costs := F_costs.other W38 (Or.inl d1)
          replace F_values := F_values.other W38 (Or.inl d1)
          replace F_count := F_count.other W38 (Or.inl d1)
          replace Jsc := Jsc.other W38 d2
          replace Jsv := Jsv.other W38 d3
          replace Jo := Jo.set W38
          replace Z0 := Nat.le_trans Z0 (Nat.le_of_eq W38.size.symm)
          replace K0 := K0.wr W38 (Or.inl (by simp))
          refine GoOn.step st38 ?_
          show GoOn p e below _ (T38.setTop (mkF m 62 #[.val (.ref a), .val (.ref o), .val (.int (Int32.ofNat HE)), .val (.int ((Int32.ofNat (stp R (min (i + 1) (HS + 1))).length) - (1 : Int32))), .val (.int (Int32.ofNat i))] []))
          refine GoOn.step (fun t₀ k₀ => XS.iinc X38.here hx rfl (hb hby d8_62) rfl (l' := #[.val (.ref a), .val (.ref o), .val (.int (Int32.ofNat HE)), .val (.int ((Int32.ofNat (stp R (min (i + 1) (HS + 1))).length) - (1 : Int32))), .val (.int ((Int32.ofNat i) + (1 : Int32)))]) rfl k₀) ?_
          show GoOn p e below _ (T38.setTop (mkF m 65 #[.val (.ref a), .val (.ref o), .val (.int (Int32.ofNat HE)), .val (.int ((Int32.ofNat (stp R (min (i + 1) (HS + 1))).length) - (1 : Int32))), .val (.int ((Int32.ofNat i) + (1 : Int32)))] []))
          refine GoOn.step (fun t₀ k₀ => XS.goto X38.here hx rfl (pc0 := 65) (pc' := 5) rfl (hb hby d8_65) (by decide) (by decide) k₀) ?_
          show GoOn p e below _ (T38.setTop (mkF m 5 #[.val (.ref a), .val (.ref o), .val (.int (Int32.ofNat HE)), .val (.int ((Int32.ofNat (stp R (min (i + 1) (HS + 1))).length) - (1 : Int32))), .val (.int ((Int32.ofNat i) + (1 : Int32)))] []))
          rw [on_succ]
          exact ih (i + 1) _ _ _ _ X38 e38 N0 Z0 K0 F_costs F_values F_count Jsc Jsv Jo (by omega) (own_oa ha (by omega)) (own_ob hbb (by omega))
      have JE : ∀ (T39 : State) (l39 : List Loc) (_ : Stand p l e ({ frames := 0, cells := 0, slots := 0, locals := 0 } : Room) s m #[(.ref a), (.ref o), (.int (Int32.ofNat HE))] below meth c T39 l39 0 0) (_ : T39.heap = h32) (_ : Fr n0 l39) , GoOn p e below (EndQ s ({ frames := 0, cells := 0, slots := 0, locals := 0 } : Room) (ExQ Z o R HS HE h0 n0)) (T39.setTop (mkF m 11 #[.val (.ref a), .val (.ref o), .val (.int (Int32.ofNat HE)), .val (.int ((Int32.ofNat (stp R (min (i + 1) (HS + 1))).length) - (1 : Int32))), .val (.int (Int32.ofNat i))] [])) := by
        intro T39 l39 X39 e39 N0 
        refine GoOn.step (fun t₀ k₀ => XS.iloadN X39.here hx rfl (hb hby d8_11) rfl k₀) ?_
        show GoOn p e below _ (T39.setTop (mkF m 12 #[.val (.ref a), .val (.ref o), .val (.int (Int32.ofNat HE)), .val (.int ((Int32.ofNat (stp R (min (i + 1) (HS + 1))).length) - (1 : Int32))), .val (.int (Int32.ofNat i))] [(.int ((Int32.ofNat (stp R (min (i + 1) (HS + 1))).length) - (1 : Int32)))]))
        refine GoOn.step (fun t₀ k₀ => XS.iconst X39.here hx rfl (hb hby d8_12) k₀) ?_
        show GoOn p e below _ (T39.setTop (mkF m 13 #[.val (.ref a), .val (.ref o), .val (.int (Int32.ofNat HE)), .val (.int ((Int32.ofNat (stp R (min (i + 1) (HS + 1))).length) - (1 : Int32))), .val (.int (Int32.ofNat i))] [(.int (1 : Int32)), (.int ((Int32.ofNat (stp R (min (i + 1) (HS + 1))).length) - (1 : Int32)))]))
        refine GoOn.step (fun t₀ k₀ => XS.iadd X39.here hx rfl (hb hby d8_13) rfl k₀) ?_
        show GoOn p e below _ (T39.setTop (mkF m 14 #[.val (.ref a), .val (.ref o), .val (.int (Int32.ofNat HE)), .val (.int ((Int32.ofNat (stp R (min (i + 1) (HS + 1))).length) - (1 : Int32))), .val (.int (Int32.ofNat i))] [(.int (((Int32.ofNat (stp R (min (i + 1) (HS + 1))).length) - (1 : Int32)) + (1 : Int32)))]))
        rw [show (((Int32.ofNat (stp R (min (i + 1) (HS + 1))).length) - (1 : Int32)) + (1 : Int32)) = (Int32.ofNat (stp R (min (i + 1) (HS + 1))).length) from (at_succ _)]
        refine GoOn.step (fun t₀ k₀ => XS.aloadN X39.here hx rfl (hb hby d8_14) rfl rfl k₀) ?_
        show GoOn p e below _ (T39.setTop (mkF m 15 #[.val (.ref a), .val (.ref o), .val (.int (Int32.ofNat HE)), .val (.int ((Int32.ofNat (stp R (min (i + 1) (HS + 1))).length) - (1 : Int32))), .val (.int (Int32.ofNat i))] [(.ref a), (.int (Int32.ofNat (stp R (min (i + 1) (HS + 1))).length))]))
        obtain ⟨T40, X40, e40, st40⟩ := getF X39 hx hZ hown (host := "") (Or.inl (hw _ (List.mem_of_getElem? (i := 42) rfl))) Via.refl e39 F_count (g := (mkF m 15 #[.val (.ref a), .val (.ref o), .val (.int (Int32.ofNat HE)), .val (.int ((Int32.ofNat (stp R (min (i + 1) (HS + 1))).length) - (1 : Int32))), .val (.int (Int32.ofNat i))] [(.ref a), (.int (Int32.ofNat (stp R (min (i + 1) (HS + 1))).length))])) rfl rfl (hb hby d8_15)
        refine GoOn.step st40 ?_
        show GoOn p e below _ (T40.setTop (mkF m 18 #[.val (.ref a), .val (.ref o), .val (.int (Int32.ofNat HE)), .val (.int ((Int32.ofNat (stp R (min (i + 1) (HS + 1))).length) - (1 : Int32))), .val (.int (Int32.ofNat i))] [(.int (Int32.ofNat (stp R (HS + 1)).length)), (.int (Int32.ofNat (stp R (min (i + 1) (HS + 1))).length))]))
        by_cases hc : (Int32.ofNat (stp R (min (i + 1) (HS + 1))).length) < (Int32.ofNat (stp R (HS + 1)).length)
        · refine GoOn.step (fun t₀ k₀ => XS.icmpNo X40.here hx rfl (hb hby d8_18) rfl (tlt hc).2.1 k₀) ?_
          show GoOn p e below _ (T40.setTop (mkF m 21 #[.val (.ref a), .val (.ref o), .val (.int (Int32.ofNat HE)), .val (.int ((Int32.ofNat (stp R (min (i + 1) (HS + 1))).length) - (1 : Int32))), .val (.int (Int32.ofNat i))] []))
          rw [on_lt _ _ (by omega) (by omega)] at hc
          refine GoOn.step (fun t₀ k₀ => XS.aloadN X40.here hx rfl (hb hby d8_21) rfl rfl k₀) ?_
          show GoOn p e below _ (T40.setTop (mkF m 22 #[.val (.ref a), .val (.ref o), .val (.int (Int32.ofNat HE)), .val (.int ((Int32.ofNat (stp R (min (i + 1) (HS + 1))).length) - (1 : Int32))), .val (.int (Int32.ofNat i))] [(.ref a)]))
          obtain ⟨T41, X41, e41, st41⟩ := getF X40 hx hZ hown (host := "") (Or.inl (hw _ (List.mem_of_getElem? (i := 19) rfl))) Via.refl e40 F_costs (g := (mkF m 22 #[.val (.ref a), .val (.ref o), .val (.int (Int32.ofNat HE)), .val (.int ((Int32.ofNat (stp R (min (i + 1) (HS + 1))).length) - (1 : Int32))), .val (.int (Int32.ofNat i))] [(.ref a)])) rfl rfl (hb hby d8_22)
          refine GoOn.step st41 ?_
          show GoOn p e below _ (T41.setTop (mkF m 25 #[.val (.ref a), .val (.ref o), .val (.int (Int32.ofNat HE)), .val (.int ((Int32.ofNat (stp R (min (i + 1) (HS + 1))).length) - (1 : Int32))), .val (.int (Int32.ofNat i))] [(.ref sc)]))
          refine GoOn.step (fun t₀ k₀ => XS.iloadN X41.here hx rfl (hb hby d8_25) rfl k₀) ?_
          show GoOn p e below _ (T41.setTop (mkF m 26 #[.val (.ref a), .val (.ref o), .val (.int (Int32.ofNat HE)), .val (.int ((Int32.ofNat (stp R (min (i + 1) (HS + 1))).length) - (1 : Int32))), .val (.int (Int32.ofNat i))] [(.int ((Int32.ofNat (stp R (min (i + 1) (HS + 1))).length) - (1 : Int32))), (.ref sc)]))
          refine GoOn.step (fun t₀ k₀ => XS.iconst X41.here hx rfl (hb hby d8_26) k₀) ?_
          show GoOn p e below _ (T41.setTop (mkF m 27 #[.val (.ref a), .val (.ref o), .val (.int (Int32.ofNat HE)), .val (.int ((Int32.ofNat (stp R (min (i + 1) (HS + 1))).length) - (1 : Int32))), .val (.int (Int32.ofNat i))] [(.int (1 : Int32)), (.int ((Int32.ofNat (stp R (min (i + 1) (HS + 1))).length) - (1 : Int32))), (.ref sc)]))
          refine GoOn.step (fun t₀ k₀ => XS.iadd X41.here hx rfl (hb hby d8_27) rfl k₀) ?_
          show GoOn p e below _ (T41.setTop (mkF m 28 #[.val (.ref a), .val (.ref o), .val (.int (Int32.ofNat HE)), .val (.int ((Int32.ofNat (stp R (min (i + 1) (HS + 1))).length) - (1 : Int32))), .val (.int (Int32.ofNat i))] [(.int (((Int32.ofNat (stp R (min (i + 1) (HS + 1))).length) - (1 : Int32)) + (1 : Int32))), (.ref sc)]))
          rw [show (((Int32.ofNat (stp R (min (i + 1) (HS + 1))).length) - (1 : Int32)) + (1 : Int32)) = (Int32.ofNat (stp R (min (i + 1) (HS + 1))).length) from (at_succ _)]
          have oc := on (stp R (min (i + 1) (HS + 1))).length (by omega)
          have sx := own_so (R := R) (i := i) (n := HS + 1) hc
          have sl := stp_lt R (HS + 1) _ hc
          refine GoOn.step (fun t₀ k₀ => kLdJ X41 hx hZ e41 Jsc (j := (Int32.ofNat (stp R (min (i + 1) (HS + 1))).length)) (v := (.long (cst ((stp R (HS + 1)).getD (stp R (min (i + 1) (HS + 1))).length 0)))) ⟨by omega, by omega⟩ (by rw [on_nat _ (by omega)]; exact tc _ hc) (g := (mkF m 28 #[.val (.ref a), .val (.ref o), .val (.int (Int32.ofNat HE)), .val (.int ((Int32.ofNat (stp R (min (i + 1) (HS + 1))).length) - (1 : Int32))), .val (.int (Int32.ofNat i))] [(.int (Int32.ofNat (stp R (min (i + 1) (HS + 1))).length)), (.ref sc)])) rfl rfl (hb hby d8_28) t₀ k₀) ?_
          show GoOn p e below _ (T41.setTop (mkF m 29 #[.val (.ref a), .val (.ref o), .val (.int (Int32.ofNat HE)), .val (.int ((Int32.ofNat (stp R (min (i + 1) (HS + 1))).length) - (1 : Int32))), .val (.int (Int32.ofNat i))] [(.long (cst ((stp R (HS + 1)).getD (stp R (min (i + 1) (HS + 1))).length 0)))]))
          refine GoOn.step (fun t₀ k₀ => XS.iload X41.here hx rfl (hb hby d8_29) rfl k₀) ?_
          show GoOn p e below _ (T41.setTop (mkF m 31 #[.val (.ref a), .val (.ref o), .val (.int (Int32.ofNat HE)), .val (.int ((Int32.ofNat (stp R (min (i + 1) (HS + 1))).length) - (1 : Int32))), .val (.int (Int32.ofNat i))] [(.int (Int32.ofNat i)), (.long (cst ((stp R (HS + 1)).getD (stp R (min (i + 1) (HS + 1))).length 0)))]))
          refine GoOn.step (fun t₀ k₀ => XS.i2l X41.here hx rfl (hb hby d8_31) rfl k₀) ?_
          show GoOn p e below _ (T41.setTop (mkF m 32 #[.val (.ref a), .val (.ref o), .val (.int (Int32.ofNat HE)), .val (.int ((Int32.ofNat (stp R (min (i + 1) (HS + 1))).length) - (1 : Int32))), .val (.int (Int32.ofNat i))] [(.long ((Int32.ofNat i).toInt64)), (.long (cst ((stp R (HS + 1)).getD (stp R (min (i + 1) (HS + 1))).length 0)))]))
          refine GoOn.step (fun t₀ k₀ => XS.lcmp X41.here hx rfl (hb hby d8_32) rfl k₀) ?_
          show GoOn p e below _ (T41.setTop (mkF m 33 #[.val (.ref a), .val (.ref o), .val (.int (Int32.ofNat HE)), .val (.int ((Int32.ofNat (stp R (min (i + 1) (HS + 1))).length) - (1 : Int32))), .val (.int (Int32.ofNat i))] [(.int (lcmpW (cst ((stp R (HS + 1)).getD (stp R (min (i + 1) (HS + 1))).length 0)) ((Int32.ofNat i).toInt64)))]))
          have hf42 : ((Int32.ofNat i).toInt64) < (cst ((stp R (HS + 1)).getD (stp R (min (i + 1) (HS + 1))).length 0)) := (by unfold cst; rw [onL_lt _ _ (by omega) (by omega)]; omega)
          refine GoOn.step (fun t₀ k₀ => XS.ifYes X41.here hx rfl (pc0 := 33) (pc' := 42) rfl (hb hby d8_33) rfl ((if0 _ _).trans (tlt ((lw_gt _ _).mpr hf42)).2.2.1) (by decide) (by decide) k₀) ?_
          show GoOn p e below _ (T41.setTop (mkF m 42 #[.val (.ref a), .val (.ref o), .val (.int (Int32.ofNat HE)), .val (.int ((Int32.ofNat (stp R (min (i + 1) (HS + 1))).length) - (1 : Int32))), .val (.int (Int32.ofNat i))] []))
          exact JX _ _ X41 e41 N0 
        · refine GoOn.step (fun t₀ k₀ => XS.icmpYes X40.here hx rfl (pc0 := 18) (pc' := 42) rfl (hb hby d8_18) rfl (flt hc).2.1 (by decide) (by decide) k₀) ?_
          show GoOn p e below _ (T40.setTop (mkF m 42 #[.val (.ref a), .val (.ref o), .val (.int (Int32.ofNat HE)), .val (.int ((Int32.ofNat (stp R (min (i + 1) (HS + 1))).length) - (1 : Int32))), .val (.int (Int32.ofNat i))] []))
          exact JX _ _ X40 e40 N0 
      by_cases hnew : i < HS + 1 ∧ lastv R i < R i
      · obtain ⟨y1, y2, y3⟩ := stp_in hnew.1 hnew.2
        have mi : min i (HS + 1) = i := by omega
        have mi1 : min (i + 1) (HS + 1) = i + 1 := by omega
        refine GoOn.step (fun t₀ k₀ => XS.iloadN X32.here hx rfl (hb hby d8_11) rfl k₀) ?_
        show GoOn p e below _ (T32.setTop (mkF m 12 #[.val (.ref a), .val (.ref o), .val (.int (Int32.ofNat HE)), .val (.int ((Int32.ofNat (stp R (min i (HS + 1))).length) - (1 : Int32))), .val (.int (Int32.ofNat i))] [(.int ((Int32.ofNat (stp R (min i (HS + 1))).length) - (1 : Int32)))]))
        refine GoOn.step (fun t₀ k₀ => XS.iconst X32.here hx rfl (hb hby d8_12) k₀) ?_
        show GoOn p e below _ (T32.setTop (mkF m 13 #[.val (.ref a), .val (.ref o), .val (.int (Int32.ofNat HE)), .val (.int ((Int32.ofNat (stp R (min i (HS + 1))).length) - (1 : Int32))), .val (.int (Int32.ofNat i))] [(.int (1 : Int32)), (.int ((Int32.ofNat (stp R (min i (HS + 1))).length) - (1 : Int32)))]))
        refine GoOn.step (fun t₀ k₀ => XS.iadd X32.here hx rfl (hb hby d8_13) rfl k₀) ?_
        show GoOn p e below _ (T32.setTop (mkF m 14 #[.val (.ref a), .val (.ref o), .val (.int (Int32.ofNat HE)), .val (.int ((Int32.ofNat (stp R (min i (HS + 1))).length) - (1 : Int32))), .val (.int (Int32.ofNat i))] [(.int (((Int32.ofNat (stp R (min i (HS + 1))).length) - (1 : Int32)) + (1 : Int32)))]))
        rw [show (((Int32.ofNat (stp R (min i (HS + 1))).length) - (1 : Int32)) + (1 : Int32)) = (Int32.ofNat (stp R (min i (HS + 1))).length) from (at_succ _)]
        refine GoOn.step (fun t₀ k₀ => XS.aloadN X32.here hx rfl (hb hby d8_14) rfl rfl k₀) ?_
        show GoOn p e below _ (T32.setTop (mkF m 15 #[.val (.ref a), .val (.ref o), .val (.int (Int32.ofNat HE)), .val (.int ((Int32.ofNat (stp R (min i (HS + 1))).length) - (1 : Int32))), .val (.int (Int32.ofNat i))] [(.ref a), (.int (Int32.ofNat (stp R (min i (HS + 1))).length))]))
        obtain ⟨T43, X43, e43, st43⟩ := getF X32 hx hZ hown (host := "") (Or.inl (hw _ (List.mem_of_getElem? (i := 42) rfl))) Via.refl e32 F_count (g := (mkF m 15 #[.val (.ref a), .val (.ref o), .val (.int (Int32.ofNat HE)), .val (.int ((Int32.ofNat (stp R (min i (HS + 1))).length) - (1 : Int32))), .val (.int (Int32.ofNat i))] [(.ref a), (.int (Int32.ofNat (stp R (min i (HS + 1))).length))])) rfl rfl (hb hby d8_15)
        refine GoOn.step st43 ?_
        show GoOn p e below _ (T43.setTop (mkF m 18 #[.val (.ref a), .val (.ref o), .val (.int (Int32.ofNat HE)), .val (.int ((Int32.ofNat (stp R (min i (HS + 1))).length) - (1 : Int32))), .val (.int (Int32.ofNat i))] [(.int (Int32.ofNat (stp R (HS + 1)).length)), (.int (Int32.ofNat (stp R (min i (HS + 1))).length))]))
        have hf44 : (Int32.ofNat (stp R (min i (HS + 1))).length) < (Int32.ofNat (stp R (HS + 1)).length) := (by rw [on_lt _ _ (by omega) (by omega), mi]; exact y1)
        refine GoOn.step (fun t₀ k₀ => XS.icmpNo X43.here hx rfl (hb hby d8_18) rfl (tlt hf44).2.1 k₀) ?_
        show GoOn p e below _ (T43.setTop (mkF m 21 #[.val (.ref a), .val (.ref o), .val (.int (Int32.ofNat HE)), .val (.int ((Int32.ofNat (stp R (min i (HS + 1))).length) - (1 : Int32))), .val (.int (Int32.ofNat i))] []))
        refine GoOn.step (fun t₀ k₀ => XS.aloadN X43.here hx rfl (hb hby d8_21) rfl rfl k₀) ?_
        show GoOn p e below _ (T43.setTop (mkF m 22 #[.val (.ref a), .val (.ref o), .val (.int (Int32.ofNat HE)), .val (.int ((Int32.ofNat (stp R (min i (HS + 1))).length) - (1 : Int32))), .val (.int (Int32.ofNat i))] [(.ref a)]))
        obtain ⟨T45, X45, e45, st45⟩ := getF X43 hx hZ hown (host := "") (Or.inl (hw _ (List.mem_of_getElem? (i := 19) rfl))) Via.refl e43 F_costs (g := (mkF m 22 #[.val (.ref a), .val (.ref o), .val (.int (Int32.ofNat HE)), .val (.int ((Int32.ofNat (stp R (min i (HS + 1))).length) - (1 : Int32))), .val (.int (Int32.ofNat i))] [(.ref a)])) rfl rfl (hb hby d8_22)
        refine GoOn.step st45 ?_
        show GoOn p e below _ (T45.setTop (mkF m 25 #[.val (.ref a), .val (.ref o), .val (.int (Int32.ofNat HE)), .val (.int ((Int32.ofNat (stp R (min i (HS + 1))).length) - (1 : Int32))), .val (.int (Int32.ofNat i))] [(.ref sc)]))
        refine GoOn.step (fun t₀ k₀ => XS.iloadN X45.here hx rfl (hb hby d8_25) rfl k₀) ?_
        show GoOn p e below _ (T45.setTop (mkF m 26 #[.val (.ref a), .val (.ref o), .val (.int (Int32.ofNat HE)), .val (.int ((Int32.ofNat (stp R (min i (HS + 1))).length) - (1 : Int32))), .val (.int (Int32.ofNat i))] [(.int ((Int32.ofNat (stp R (min i (HS + 1))).length) - (1 : Int32))), (.ref sc)]))
        refine GoOn.step (fun t₀ k₀ => XS.iconst X45.here hx rfl (hb hby d8_26) k₀) ?_
        show GoOn p e below _ (T45.setTop (mkF m 27 #[.val (.ref a), .val (.ref o), .val (.int (Int32.ofNat HE)), .val (.int ((Int32.ofNat (stp R (min i (HS + 1))).length) - (1 : Int32))), .val (.int (Int32.ofNat i))] [(.int (1 : Int32)), (.int ((Int32.ofNat (stp R (min i (HS + 1))).length) - (1 : Int32))), (.ref sc)]))
        refine GoOn.step (fun t₀ k₀ => XS.iadd X45.here hx rfl (hb hby d8_27) rfl k₀) ?_
        show GoOn p e below _ (T45.setTop (mkF m 28 #[.val (.ref a), .val (.ref o), .val (.int (Int32.ofNat HE)), .val (.int ((Int32.ofNat (stp R (min i (HS + 1))).length) - (1 : Int32))), .val (.int (Int32.ofNat i))] [(.int (((Int32.ofNat (stp R (min i (HS + 1))).length) - (1 : Int32)) + (1 : Int32))), (.ref sc)]))
        rw [show (((Int32.ofNat (stp R (min i (HS + 1))).length) - (1 : Int32)) + (1 : Int32)) = (Int32.ofNat (stp R (min i (HS + 1))).length) from (at_succ _)]
        have oc := on (stp R (min i (HS + 1))).length (by omega)
        refine GoOn.step (fun t₀ k₀ => kLdJ X45 hx hZ e45 Jsc (j := (Int32.ofNat (stp R (min i (HS + 1))).length)) (v := (.long (cst i))) ⟨by omega, by rw [oc, mi]; omega⟩ (by rw [on_nat _ (by omega), mi]; exact (tc _ y1).trans (by rw [y2])) (g := (mkF m 28 #[.val (.ref a), .val (.ref o), .val (.int (Int32.ofNat HE)), .val (.int ((Int32.ofNat (stp R (min i (HS + 1))).length) - (1 : Int32))), .val (.int (Int32.ofNat i))] [(.int (Int32.ofNat (stp R (min i (HS + 1))).length)), (.ref sc)])) rfl rfl (hb hby d8_28) t₀ k₀) ?_
        show GoOn p e below _ (T45.setTop (mkF m 29 #[.val (.ref a), .val (.ref o), .val (.int (Int32.ofNat HE)), .val (.int ((Int32.ofNat (stp R (min i (HS + 1))).length) - (1 : Int32))), .val (.int (Int32.ofNat i))] [(.long (cst i))]))
        refine GoOn.step (fun t₀ k₀ => XS.iload X45.here hx rfl (hb hby d8_29) rfl k₀) ?_
        show GoOn p e below _ (T45.setTop (mkF m 31 #[.val (.ref a), .val (.ref o), .val (.int (Int32.ofNat HE)), .val (.int ((Int32.ofNat (stp R (min i (HS + 1))).length) - (1 : Int32))), .val (.int (Int32.ofNat i))] [(.int (Int32.ofNat i)), (.long (cst i))]))
        refine GoOn.step (fun t₀ k₀ => XS.i2l X45.here hx rfl (hb hby d8_31) rfl k₀) ?_
        show GoOn p e below _ (T45.setTop (mkF m 32 #[.val (.ref a), .val (.ref o), .val (.int (Int32.ofNat HE)), .val (.int ((Int32.ofNat (stp R (min i (HS + 1))).length) - (1 : Int32))), .val (.int (Int32.ofNat i))] [(.long ((Int32.ofNat i).toInt64)), (.long (cst i))]))
        refine GoOn.step (fun t₀ k₀ => XS.lcmp X45.here hx rfl (hb hby d8_32) rfl k₀) ?_
        show GoOn p e below _ (T45.setTop (mkF m 33 #[.val (.ref a), .val (.ref o), .val (.int (Int32.ofNat HE)), .val (.int ((Int32.ofNat (stp R (min i (HS + 1))).length) - (1 : Int32))), .val (.int (Int32.ofNat i))] [(.int (lcmpW (cst i) ((Int32.ofNat i).toInt64)))]))
        have hf46 : ¬ (((Int32.ofNat i).toInt64) < (cst i)) := (by unfold cst; rw [onL_lt _ _ (by omega) (by omega)]; omega)
        refine GoOn.step (fun t₀ k₀ => XS.ifNo X45.here hx rfl (hb hby d8_33) rfl ((if0 _ _).trans (flt (mt (lw_gt _ _).mp hf46)).2.2.1) k₀) ?_
        show GoOn p e below _ (T45.setTop (mkF m 36 #[.val (.ref a), .val (.ref o), .val (.int (Int32.ofNat HE)), .val (.int ((Int32.ofNat (stp R (min i (HS + 1))).length) - (1 : Int32))), .val (.int (Int32.ofNat i))] []))
        refine GoOn.step (fun t₀ k₀ => XS.iinc X45.here hx rfl (hb hby d8_36) rfl (l' := #[.val (.ref a), .val (.ref o), .val (.int (Int32.ofNat HE)), .val (.int (((Int32.ofNat (stp R (min i (HS + 1))).length) - (1 : Int32)) + (1 : Int32))), .val (.int (Int32.ofNat i))]) rfl k₀) ?_
        show GoOn p e below _ (T45.setTop (mkF m 39 #[.val (.ref a), .val (.ref o), .val (.int (Int32.ofNat HE)), .val (.int (((Int32.ofNat (stp R (min i (HS + 1))).length) - (1 : Int32)) + (1 : Int32))), .val (.int (Int32.ofNat i))] []))
        refine GoOn.step (fun t₀ k₀ => XS.goto X45.here hx rfl (pc0 := 39) (pc' := 11) rfl (hb hby d8_39) (by decide) (by decide) k₀) ?_
        show GoOn p e below _ (T45.setTop (mkF m 11 #[.val (.ref a), .val (.ref o), .val (.int (Int32.ofNat HE)), .val (.int (((Int32.ofNat (stp R (min i (HS + 1))).length) - (1 : Int32)) + (1 : Int32))), .val (.int (Int32.ofNat i))] []))
        rw [at_next, show (stp R (min i (HS + 1))).length + 1 = (stp R (min (i + 1) (HS + 1))).length from by rw [mi, mi1, y3]]
        exact JE _ _ X45 e45 N0 
      · have cc := own_cc hnew
        rw [← cc]
        exact JE _ _ X32 e32 N0 
  rw [show (-1 : Int32) = Int32.ofNat (stp R (min 0 (HS + 1))).length - 1 from by rw [Nat.zero_min]; rfl]
  exact JO (HE + 1) 0 _ _ _ _ X0 e0 N0 Z0 K0 F_costs F_values F_count Jsc Jsv Jo (by omega) (fun j hj => absurd hj (Nat.not_lt_zero _)) (fun j _ => hS j)
theorem ef_c_at (m : MethodId) (x0 : Addr) (x1 : Int32) (x2 : Int32) (x3 : Int32) (x4 : Addr) : entryFrame m #[(.ref x0), (.int x1), (.int x2), (.int x3), (.ref x4)] 5 = mkF m 0 #[.val (.ref x0), .val (.int x1), .val (.int x2), .val (.int x3), .val (.ref x4)] [] := by first | (simp [entryFrame, mkF, argsToLocals, Value.category]; done) | rfl
set_option maxRecDepth 65536 in
set_option maxHeartbeats 40000000 in
theorem c_at (l : Launch) (Z : State) (a0 : Array Value) (hw : ∀ d ∈ tables_1, d.before a0 Z = true) (o ra : Addr) (i HS HE : Nat) (R : Nat → Int64) (fo : Nat → Value) (h0 : Heap) (Jo : Jar Z h0 o .long 8 fo) (Jr : Jar Z h0 ra .long 4 (fun i => .long (R i))) (hi : i < 8) (hHS : HS ≤ 3) (hHE : HE ≤ 7) (h1 : ∀ j, j < HE + 1 → fo j = .long (R (min j HS))) (h2 : ∀ j, HE + 1 ≤ j → fo j = .long (81985529216486895 : Int64)) :
    Con l Z (⟨"com/example/treesack/treesack/core/ValueStepsExpandIntoPinLaw", "at", "([JIII[J)Z"⟩ : MethodName) method_3_code 5 (some .boolean) ({ frames := 1, cells := 0, slots := 0, locals := 16 } : Room) #[(.ref o), (.int (Int32.ofNat i)), (.int (Int32.ofNat HE)), (.int (Int32.ofNat HS)), (.ref ra)] h0 (PQ (some (.int 1)) h0) := by
  refine Con.intro (plainFor_of_name pn_1) ?_
  intro p e s m below meth c s₁ hx hby hml hrt hlk hZ hown hnm X0 e0
  replace hown : s.vm.findClass "com/example/treesack/treesack/core/ValueStepsExpandIntoPinLaw" = some m.cls := hown
  refine GoOn.cast (ef_c_at m o (Int32.ofNat i) (Int32.ofNat HE) (Int32.ofNat HS) ra) ?_
  show GoOn p e below _ (s₁.setTop (mkF m 0 #[.val (.ref o), .val (.int (Int32.ofNat i)), .val (.int (Int32.ofNat HE)), .val (.int (Int32.ofNat HS)), .val (.ref ra)] []))
  have oi := on i (by omega)
  refine GoOn.step (fun t₀ k₀ => XS.iloadN X0.here hx rfl (hb hby d9_0) rfl k₀) ?_
  show GoOn p e below _ (s₁.setTop (mkF m 1 #[.val (.ref o), .val (.int (Int32.ofNat i)), .val (.int (Int32.ofNat HE)), .val (.int (Int32.ofNat HS)), .val (.ref ra)] [(.int (Int32.ofNat i))]))
  refine GoOn.step (fun t₀ k₀ => XS.iloadN X0.here hx rfl (hb hby d9_1) rfl k₀) ?_
  show GoOn p e below _ (s₁.setTop (mkF m 2 #[.val (.ref o), .val (.int (Int32.ofNat i)), .val (.int (Int32.ofNat HE)), .val (.int (Int32.ofNat HS)), .val (.ref ra)] [(.int (Int32.ofNat HE)), (.int (Int32.ofNat i))]))
  by_cases hc : (Int32.ofNat HE) < (Int32.ofNat i)
  · refine GoOn.step (fun t₀ k₀ => XS.icmpNo X0.here hx rfl (hb hby d9_2) rfl (tlt hc).2.2.2 k₀) ?_
    show GoOn p e below _ (s₁.setTop (mkF m 5 #[.val (.ref o), .val (.int (Int32.ofNat i)), .val (.int (Int32.ofNat HE)), .val (.int (Int32.ofNat HS)), .val (.ref ra)] []))
    rw [on_lt _ _ (by omega) (by omega)] at hc
    refine GoOn.step (fun t₀ k₀ => XS.aloadN X0.here hx rfl (hb hby d9_5) rfl rfl k₀) ?_
    show GoOn p e below _ (s₁.setTop (mkF m 6 #[.val (.ref o), .val (.int (Int32.ofNat i)), .val (.int (Int32.ofNat HE)), .val (.int (Int32.ofNat HS)), .val (.ref ra)] [(.ref o)]))
    refine GoOn.step (fun t₀ k₀ => XS.iloadN X0.here hx rfl (hb hby d9_6) rfl k₀) ?_
    show GoOn p e below _ (s₁.setTop (mkF m 7 #[.val (.ref o), .val (.int (Int32.ofNat i)), .val (.int (Int32.ofNat HE)), .val (.int (Int32.ofNat HS)), .val (.ref ra)] [(.int (Int32.ofNat i)), (.ref o)]))
    refine GoOn.step (fun t₀ k₀ => kLdJ X0 hx hZ e0 Jo (j := (Int32.ofNat i)) (v := (.long (81985529216486895 : Int64))) ⟨by omega, by omega⟩ (by rw [on_nat i (by omega)]; exact h2 i (by omega)) (g := (mkF m 7 #[.val (.ref o), .val (.int (Int32.ofNat i)), .val (.int (Int32.ofNat HE)), .val (.int (Int32.ofNat HS)), .val (.ref ra)] [(.int (Int32.ofNat i)), (.ref o)])) rfl rfl (hb hby d9_7) t₀ k₀) ?_
    show GoOn p e below _ (s₁.setTop (mkF m 8 #[.val (.ref o), .val (.int (Int32.ofNat i)), .val (.int (Int32.ofNat HE)), .val (.int (Int32.ofNat HS)), .val (.ref ra)] [(.long (81985529216486895 : Int64))]))
    refine GoOn.step (fun t₀ k₀ => X0.ldc2Long hx hown (mvT hZ (hw _ (List.mem_of_getElem? (i := 9) rfl))) (g := (mkF m 8 #[.val (.ref o), .val (.int (Int32.ofNat i)), .val (.int (Int32.ofNat HE)), .val (.int (Int32.ofNat HS)), .val (.ref ra)] [(.long (81985529216486895 : Int64))])) rfl (hb hby d9_8) t₀ k₀) ?_
    show GoOn p e below _ (s₁.setTop (mkF m 11 #[.val (.ref o), .val (.int (Int32.ofNat i)), .val (.int (Int32.ofNat HE)), .val (.int (Int32.ofNat HS)), .val (.ref ra)] [(.long (81985529216486895 : Int64)), (.long (81985529216486895 : Int64))]))
    refine GoOn.step (fun t₀ k₀ => XS.lcmp X0.here hx rfl (hb hby d9_11) rfl k₀) ?_
    show GoOn p e below _ (s₁.setTop (mkF m 12 #[.val (.ref o), .val (.int (Int32.ofNat i)), .val (.int (Int32.ofNat HE)), .val (.int (Int32.ofNat HS)), .val (.ref ra)] [(.int (lcmpW (81985529216486895 : Int64) (81985529216486895 : Int64)))]))
    have hf47 : (81985529216486895 : Int64) = (81985529216486895 : Int64) := rfl
    refine GoOn.step (fun t₀ k₀ => XS.ifNo X0.here hx rfl (hb hby d9_12) rfl ((if0 _ _).trans (teq ((lw_eq _ _).mpr hf47)).2) k₀) ?_
    show GoOn p e below _ (s₁.setTop (mkF m 15 #[.val (.ref o), .val (.int (Int32.ofNat i)), .val (.int (Int32.ofNat HE)), .val (.int (Int32.ofNat HS)), .val (.ref ra)] []))
    refine GoOn.step (fun t₀ k₀ => XS.iconst X0.here hx rfl (hb hby d9_15) k₀) ?_
    show GoOn p e below _ (s₁.setTop (mkF m 16 #[.val (.ref o), .val (.int (Int32.ofNat i)), .val (.int (Int32.ofNat HE)), .val (.int (Int32.ofNat HS)), .val (.ref ra)] [(.int (1 : Int32))]))
    refine GoOn.step (fun t₀ k₀ => XS.goto X0.here hx rfl (pc0 := 16) (pc' := 20) rfl (hb hby d9_16) (by decide) (by decide) k₀) ?_
    show GoOn p e below _ (s₁.setTop (mkF m 20 #[.val (.ref o), .val (.int (Int32.ofNat i)), .val (.int (Int32.ofNat HE)), .val (.int (Int32.ofNat HS)), .val (.ref ra)] [(.int (1 : Int32))]))
    exact GoOn.retN X0 hx hrt hlk (by simp) (hb hby d9_20) (by decide) (by decide) (by first | exact ⟨rfl, rfl, rfl⟩ | (rw [e0]; exact ⟨rfl, rfl, rfl⟩))
  · refine GoOn.step (fun t₀ k₀ => XS.icmpYes X0.here hx rfl (pc0 := 2) (pc' := 21) rfl (hb hby d9_2) rfl (flt hc).2.2.2 (by decide) (by decide) k₀) ?_
    show GoOn p e below _ (s₁.setTop (mkF m 21 #[.val (.ref o), .val (.int (Int32.ofNat i)), .val (.int (Int32.ofNat HE)), .val (.int (Int32.ofNat HS)), .val (.ref ra)] []))
    rw [on_lt _ _ (by omega) (by omega)] at hc
    refine GoOn.step (fun t₀ k₀ => XS.aloadN X0.here hx rfl (hb hby d9_21) rfl rfl k₀) ?_
    show GoOn p e below _ (s₁.setTop (mkF m 22 #[.val (.ref o), .val (.int (Int32.ofNat i)), .val (.int (Int32.ofNat HE)), .val (.int (Int32.ofNat HS)), .val (.ref ra)] [(.ref o)]))
    refine GoOn.step (fun t₀ k₀ => XS.iloadN X0.here hx rfl (hb hby d9_22) rfl k₀) ?_
    show GoOn p e below _ (s₁.setTop (mkF m 23 #[.val (.ref o), .val (.int (Int32.ofNat i)), .val (.int (Int32.ofNat HE)), .val (.int (Int32.ofNat HS)), .val (.ref ra)] [(.int (Int32.ofNat i)), (.ref o)]))
    refine GoOn.step (fun t₀ k₀ => kLdJ X0 hx hZ e0 Jo (j := (Int32.ofNat i)) (v := (.long (R (min i HS)))) ⟨by omega, by omega⟩ (by rw [on_nat i (by omega)]; exact h1 i (by omega)) (g := (mkF m 23 #[.val (.ref o), .val (.int (Int32.ofNat i)), .val (.int (Int32.ofNat HE)), .val (.int (Int32.ofNat HS)), .val (.ref ra)] [(.int (Int32.ofNat i)), (.ref o)])) rfl rfl (hb hby d9_23) t₀ k₀) ?_
    show GoOn p e below _ (s₁.setTop (mkF m 24 #[.val (.ref o), .val (.int (Int32.ofNat i)), .val (.int (Int32.ofNat HE)), .val (.int (Int32.ofNat HS)), .val (.ref ra)] [(.long (R (min i HS)))]))
    refine GoOn.step (fun t₀ k₀ => XS.aload X0.here hx rfl (hb hby d9_24) rfl rfl k₀) ?_
    show GoOn p e below _ (s₁.setTop (mkF m 26 #[.val (.ref o), .val (.int (Int32.ofNat i)), .val (.int (Int32.ofNat HE)), .val (.int (Int32.ofNat HS)), .val (.ref ra)] [(.ref ra), (.long (R (min i HS)))]))
    refine GoOn.step (fun t₀ k₀ => XS.iloadN X0.here hx rfl (hb hby d9_26) rfl k₀) ?_
    show GoOn p e below _ (s₁.setTop (mkF m 27 #[.val (.ref o), .val (.int (Int32.ofNat i)), .val (.int (Int32.ofNat HE)), .val (.int (Int32.ofNat HS)), .val (.ref ra)] [(.int (Int32.ofNat i)), (.ref ra), (.long (R (min i HS)))]))
    refine GoOn.step (fun t₀ k₀ => XS.iloadN X0.here hx rfl (hb hby d9_27) rfl k₀) ?_
    show GoOn p e below _ (s₁.setTop (mkF m 28 #[.val (.ref o), .val (.int (Int32.ofNat i)), .val (.int (Int32.ofNat HE)), .val (.int (Int32.ofNat HS)), .val (.ref ra)] [(.int (Int32.ofNat HS)), (.int (Int32.ofNat i)), (.ref ra), (.long (R (min i HS)))]))
    obtain ⟨_, T48, L48, X48, hQ48, st48⟩ := kCallS X0 hx hZ (argsL := [(.int (Int32.ofNat i)), (.int (Int32.ofNat HS))]) (rest := [(.ref ra), (.long (R (min i HS)))]) (c_minI l Z a0 hw (Int32.ofNat i) (Int32.ofNat HS) h0) hown (hw _ (List.mem_of_getElem? (i := 55) rfl)) (hw _ (List.mem_of_getElem? (i := 56) rfl)) (hw _ (List.mem_of_getElem? (i := 2) rfl)) (hw _ (List.mem_of_getElem? (i := 57) rfl)) (by decide) e0 (g := (mkF m 28 #[.val (.ref o), .val (.int (Int32.ofNat i)), .val (.int (Int32.ofNat HE)), .val (.int (Int32.ofNat HS)), .val (.ref ra)] [(.int (Int32.ofNat HS)), (.int (Int32.ofNat i)), (.ref ra), (.long (R (min i HS)))])) rfl (by rw [hml]; rfl) (lenOf pd_2 rfl) rfl (W := 3) (by show 2 * 0 + _ ≤ _; exact Nat.le_of_eq rfl) (hb hby d9_28) (by decide) (by decide) (by decide) (by decide)
    obtain ⟨rfl, rfl, e48⟩ := hQ48
    rw [List.append_nil] at X48
    refine GoOn.step st48 ?_
    show GoOn p e below _ (T48.setTop (mkF m 31 #[.val (.ref o), .val (.int (Int32.ofNat i)), .val (.int (Int32.ofNat HE)), .val (.int (Int32.ofNat HS)), .val (.ref ra)] [(.int (if (Int32.ofNat HS) < (Int32.ofNat i) then (Int32.ofNat HS) else (Int32.ofNat i))), (.ref ra), (.long (R (min i HS)))]))
    have mi := own_mi (i := i) (HS := HS) (by omega) (by omega)
    rw [show (if (Int32.ofNat HS) < (Int32.ofNat i) then (Int32.ofNat HS) else (Int32.ofNat i)) = (Int32.ofNat (min i HS)) from mi]
    have om := on (min i HS) (by omega)
    refine GoOn.step (fun t₀ k₀ => kLdJ X48 hx hZ e48 Jr (j := (Int32.ofNat (min i HS))) (v := (.long (R (min i HS)))) ⟨by omega, by omega⟩ (by rw [on_nat _ (by omega)]) (g := (mkF m 31 #[.val (.ref o), .val (.int (Int32.ofNat i)), .val (.int (Int32.ofNat HE)), .val (.int (Int32.ofNat HS)), .val (.ref ra)] [(.int (Int32.ofNat (min i HS))), (.ref ra), (.long (R (min i HS)))])) rfl rfl (hb hby d9_31) t₀ k₀) ?_
    show GoOn p e below _ (T48.setTop (mkF m 32 #[.val (.ref o), .val (.int (Int32.ofNat i)), .val (.int (Int32.ofNat HE)), .val (.int (Int32.ofNat HS)), .val (.ref ra)] [(.long (R (min i HS))), (.long (R (min i HS)))]))
    refine GoOn.step (fun t₀ k₀ => XS.lcmp X48.here hx rfl (hb hby d9_32) rfl k₀) ?_
    show GoOn p e below _ (T48.setTop (mkF m 33 #[.val (.ref o), .val (.int (Int32.ofNat i)), .val (.int (Int32.ofNat HE)), .val (.int (Int32.ofNat HS)), .val (.ref ra)] [(.int (lcmpW (R (min i HS)) (R (min i HS))))]))
    have hf49 : (R (min i HS)) = (R (min i HS)) := rfl
    refine GoOn.step (fun t₀ k₀ => XS.ifNo X48.here hx rfl (hb hby d9_33) rfl ((if0 _ _).trans (teq ((lw_eq _ _).mpr hf49)).2) k₀) ?_
    show GoOn p e below _ (T48.setTop (mkF m 36 #[.val (.ref o), .val (.int (Int32.ofNat i)), .val (.int (Int32.ofNat HE)), .val (.int (Int32.ofNat HS)), .val (.ref ra)] []))
    refine GoOn.step (fun t₀ k₀ => XS.iconst X48.here hx rfl (hb hby d9_36) k₀) ?_
    show GoOn p e below _ (T48.setTop (mkF m 37 #[.val (.ref o), .val (.int (Int32.ofNat i)), .val (.int (Int32.ofNat HE)), .val (.int (Int32.ofNat HS)), .val (.ref ra)] [(.int (1 : Int32))]))
    refine GoOn.step (fun t₀ k₀ => XS.goto X48.here hx rfl (pc0 := 37) (pc' := 41) rfl (hb hby d9_37) (by decide) (by decide) k₀) ?_
    show GoOn p e below _ (T48.setTop (mkF m 41 #[.val (.ref o), .val (.int (Int32.ofNat i)), .val (.int (Int32.ofNat HE)), .val (.int (Int32.ofNat HS)), .val (.ref ra)] [(.int (1 : Int32))]))
    exact GoOn.retN X48 hx hrt hlk (by simp) (hb hby d9_41) (by decide) (by decide) (by first | exact ⟨rfl, rfl, rfl⟩ | (rw [e48]; exact ⟨rfl, rfl, rfl⟩))
theorem srt (a b c d x0 x1 x2 x3 y0 y1 y2 y3 z1 z2 : Int64) (e0 : (if b < a then b else a) = x0) (e1 : (if a < b then b else a) = x1) (e2 : (if d < c then d else c) = x2) (e3 : (if c < d then d else c) = x3)
    (f0 : (if x2 < x0 then x2 else x0) = y0) (f2 : (if x0 < x2 then x2 else x0) = y2) (f1 : (if x3 < x1 then x3 else x1) = y1) (f3 : (if x1 < x3 then x3 else x1) = y3) (g1 : (if y2 < y1 then y2 else y1) = z1) (g2 : (if y1 < y2 then y2 else y1) = z2) :
    y0.toInt ≤ z1.toInt ∧ z1.toInt ≤ z2.toInt ∧ z2.toInt ≤ y3.toInt := by
  have mn : ∀ u v w : Int64, (if v < u then v else u) = w → w.toInt ≤ u.toInt ∧ w.toInt ≤ v.toInt ∧ (w.toInt = u.toInt ∨ w.toInt = v.toInt) := fun u v w h => by
    subst h; split <;> rename_i q <;> rw [Int64.lt_iff_toInt_lt] at q <;> omega
  have mx : ∀ u v w : Int64, (if u < v then v else u) = w → u.toInt ≤ w.toInt ∧ v.toInt ≤ w.toInt ∧ (w.toInt = u.toInt ∨ w.toInt = v.toInt) := fun u v w h => by
    subst h; split <;> rename_i q <;> rw [Int64.lt_iff_toInt_lt] at q <;> omega
  have := mn _ _ _ e0; have := mx _ _ _ e1; have := mn _ _ _ e2; have := mx _ _ _ e3; have := mn _ _ _ f0; have := mx _ _ _ f2; have := mn _ _ _ f1; have := mx _ _ _ f3; have := mn _ _ _ g1; have := mx _ _ _ g2
  omega
def R4 (v0 v1 v2 v3 : Int64) (i : Nat) : Int64 := [v0, v1, v2, v3].getD i 0
theorem mono4 {v0 v1 v2 v3 : Int64} (h : v0.toInt ≤ v1.toInt ∧ v1.toInt ≤ v2.toInt ∧ v2.toInt ≤ v3.toInt) : Mono (R4 v0 v1 v2 v3) := fun i hi => by
  match i, hi with
  | 0, _ => exact h.1
  | 1, _ => exact h.2.1
  | 2, _ => exact h.2.2
theorem minL (v : Int64) : (-9223372036854775808 : Int64).toInt ≤ v.toInt := by have := rng64 v; have : (-9223372036854775808 : Int64).toInt = -9223372036854775808 := (by decide); omega
theorem ef_law_ok (m : MethodId) (x0 : Int64) (x1 : Int64) (x2 : Int64) (x3 : Int64) (x4 : Int32) (x5 : Int32) : entryFrame m #[(.long x0), (.long x1), (.long x2), (.long x3), (.int x4), (.int x5)] maxLocals = mkF m 0 #[.val (.long x0), .second, .val (.long x1), .second, .val (.long x2), .second, .val (.long x3), .second, .val (.int x4), .val (.int x5), .unset, .unset, .unset, .unset, .unset, .unset, .unset, .unset, .unset, .unset, .unset, .unset, .unset, .unset, .unset, .unset, .unset, .unset, .unset, .unset, .unset, .unset, .unset, .unset, .unset, .unset, .unset] [] := by first | (simp [entryFrame, mkF, argsToLocals, Value.category, maxLocals]; done) | rfl
set_option maxRecDepth 65536 in
set_option maxHeartbeats 40000000 in
theorem law_ok (l : Launch) (Z : State) (a0 : Array Value) (hw : ∀ d ∈ tables_1, d.before a0 Z = true) (q0 q1 q2 q3 : Int64) (q4 q5 : Int32) (h0 : Heap) (n0 : Nat) (Z0 : n0 ≤ h0.size)  :
    Con l Z x code maxLocals ret room_1 #[(.long q0), (.long q1), (.long q2), (.long q3), (.int q4), (.int q5)] h0 (LQ n0) := by
  refine Con.intro (plainFor_of_name pn_1) ?_
  intro p e s m below meth c s₁ hx hby hml hrt hlk hZ hown hnm X0 e0
  replace hown : s.vm.findClass "com/example/treesack/treesack/core/ValueStepsExpandIntoPinLaw" = some m.cls := hown
  have N0 := Fr.nil n0
  refine GoOn.cast (ef_law_ok m q0 q1 q2 q3 q4 q5) ?_
  show GoOn p e below _ (s₁.setTop (mkF m 0 #[.val (.long q0), .second, .val (.long q1), .second, .val (.long q2), .second, .val (.long q3), .second, .val (.int q4), .val (.int q5), .unset, .unset, .unset, .unset, .unset, .unset, .unset, .unset, .unset, .unset, .unset, .unset, .unset, .unset, .unset, .unset, .unset, .unset, .unset, .unset, .unset, .unset, .unset, .unset, .unset, .unset, .unset] []))
  refine GoOn.step (fun t₀ k₀ => XS.lloadN X0.here hx rfl (hb hby at_0) rfl k₀) ?_
  show GoOn p e below _ (s₁.setTop (mkF m 1 #[.val (.long q0), .second, .val (.long q1), .second, .val (.long q2), .second, .val (.long q3), .second, .val (.int q4), .val (.int q5), .unset, .unset, .unset, .unset, .unset, .unset, .unset, .unset, .unset, .unset, .unset, .unset, .unset, .unset, .unset, .unset, .unset, .unset, .unset, .unset, .unset, .unset, .unset, .unset, .unset, .unset, .unset] [(.long q0)]))
  refine GoOn.step (fun t₀ k₀ => XS.lloadN X0.here hx rfl (hb hby at_1) rfl k₀) ?_
  show GoOn p e below _ (s₁.setTop (mkF m 2 #[.val (.long q0), .second, .val (.long q1), .second, .val (.long q2), .second, .val (.long q3), .second, .val (.int q4), .val (.int q5), .unset, .unset, .unset, .unset, .unset, .unset, .unset, .unset, .unset, .unset, .unset, .unset, .unset, .unset, .unset, .unset, .unset, .unset, .unset, .unset, .unset, .unset, .unset, .unset, .unset, .unset, .unset] [(.long q1), (.long q0)]))
  obtain ⟨_, T50, L50, X50, hQ50, st50⟩ := kCallS X0 hx hZ (argsL := [(.long q0), (.long q1)]) (rest := []) (c_minL l Z a0 hw q0 q1 h0) hown (hw _ (List.mem_of_getElem? (i := 0) rfl)) (hw _ (List.mem_of_getElem? (i := 1) rfl)) (hw _ (List.mem_of_getElem? (i := 2) rfl)) (hw _ (List.mem_of_getElem? (i := 3) rfl)) (by decide) e0 (g := (mkF m 2 #[.val (.long q0), .second, .val (.long q1), .second, .val (.long q2), .second, .val (.long q3), .second, .val (.int q4), .val (.int q5), .unset, .unset, .unset, .unset, .unset, .unset, .unset, .unset, .unset, .unset, .unset, .unset, .unset, .unset, .unset, .unset, .unset, .unset, .unset, .unset, .unset, .unset, .unset, .unset, .unset, .unset, .unset] [(.long q1), (.long q0)])) rfl (by rw [hml]; rfl) (lenOf pd_3 rfl) rfl (W := 0) (by show 2 * 0 + _ ≤ _; exact Nat.le_of_eq rfl) (hb hby at_2) (by decide) (by decide) (by decide) (by decide)
  obtain ⟨rfl, rfl, e50⟩ := hQ50
  rw [List.append_nil] at X50
  refine GoOn.step st50 ?_
  show GoOn p e below _ (T50.setTop (mkF m 5 #[.val (.long q0), .second, .val (.long q1), .second, .val (.long q2), .second, .val (.long q3), .second, .val (.int q4), .val (.int q5), .unset, .unset, .unset, .unset, .unset, .unset, .unset, .unset, .unset, .unset, .unset, .unset, .unset, .unset, .unset, .unset, .unset, .unset, .unset, .unset, .unset, .unset, .unset, .unset, .unset, .unset, .unset] [(.long (if q1 < q0 then q1 else q0))]))
  generalize e0 : (if q1 < q0 then q1 else q0) = x0
  have e0I := congrArg Int64.toInt e0
  refine GoOn.step (fun t₀ k₀ => XS.lstore X50.here hx rfl (hb hby at_5) rfl (l' := #[.val (.long q0), .second, .val (.long q1), .second, .val (.long q2), .second, .val (.long q3), .second, .val (.int q4), .val (.int q5), .val (.long x0), .second, .unset, .unset, .unset, .unset, .unset, .unset, .unset, .unset, .unset, .unset, .unset, .unset, .unset, .unset, .unset, .unset, .unset, .unset, .unset, .unset, .unset, .unset, .unset, .unset, .unset]) rfl k₀) ?_
  show GoOn p e below _ (T50.setTop (mkF m 7 #[.val (.long q0), .second, .val (.long q1), .second, .val (.long q2), .second, .val (.long q3), .second, .val (.int q4), .val (.int q5), .val (.long x0), .second, .unset, .unset, .unset, .unset, .unset, .unset, .unset, .unset, .unset, .unset, .unset, .unset, .unset, .unset, .unset, .unset, .unset, .unset, .unset, .unset, .unset, .unset, .unset, .unset, .unset] []))
  refine GoOn.step (fun t₀ k₀ => XS.lloadN X50.here hx rfl (hb hby at_7) rfl k₀) ?_
  show GoOn p e below _ (T50.setTop (mkF m 8 #[.val (.long q0), .second, .val (.long q1), .second, .val (.long q2), .second, .val (.long q3), .second, .val (.int q4), .val (.int q5), .val (.long x0), .second, .unset, .unset, .unset, .unset, .unset, .unset, .unset, .unset, .unset, .unset, .unset, .unset, .unset, .unset, .unset, .unset, .unset, .unset, .unset, .unset, .unset, .unset, .unset, .unset, .unset] [(.long q0)]))
  refine GoOn.step (fun t₀ k₀ => XS.lloadN X50.here hx rfl (hb hby at_8) rfl k₀) ?_
  show GoOn p e below _ (T50.setTop (mkF m 9 #[.val (.long q0), .second, .val (.long q1), .second, .val (.long q2), .second, .val (.long q3), .second, .val (.int q4), .val (.int q5), .val (.long x0), .second, .unset, .unset, .unset, .unset, .unset, .unset, .unset, .unset, .unset, .unset, .unset, .unset, .unset, .unset, .unset, .unset, .unset, .unset, .unset, .unset, .unset, .unset, .unset, .unset, .unset] [(.long q1), (.long q0)]))
  obtain ⟨_, T51, L51, X51, hQ51, st51⟩ := kCallS X50 hx hZ (argsL := [(.long q0), (.long q1)]) (rest := []) (c_maxL l Z a0 hw q0 q1 h0) hown (hw _ (List.mem_of_getElem? (i := 4) rfl)) (hw _ (List.mem_of_getElem? (i := 5) rfl)) (hw _ (List.mem_of_getElem? (i := 2) rfl)) (hw _ (List.mem_of_getElem? (i := 6) rfl)) (by decide) e50 (g := (mkF m 9 #[.val (.long q0), .second, .val (.long q1), .second, .val (.long q2), .second, .val (.long q3), .second, .val (.int q4), .val (.int q5), .val (.long x0), .second, .unset, .unset, .unset, .unset, .unset, .unset, .unset, .unset, .unset, .unset, .unset, .unset, .unset, .unset, .unset, .unset, .unset, .unset, .unset, .unset, .unset, .unset, .unset, .unset, .unset] [(.long q1), (.long q0)])) rfl (by rw [hml]; rfl) (lenOf pd_3 rfl) rfl (W := 0) (by show 2 * 0 + _ ≤ _; exact Nat.le_of_eq rfl) (hb hby at_9) (by decide) (by decide) (by decide) (by decide)
  obtain ⟨rfl, rfl, e51⟩ := hQ51
  rw [List.append_nil] at X51
  refine GoOn.step st51 ?_
  show GoOn p e below _ (T51.setTop (mkF m 12 #[.val (.long q0), .second, .val (.long q1), .second, .val (.long q2), .second, .val (.long q3), .second, .val (.int q4), .val (.int q5), .val (.long x0), .second, .unset, .unset, .unset, .unset, .unset, .unset, .unset, .unset, .unset, .unset, .unset, .unset, .unset, .unset, .unset, .unset, .unset, .unset, .unset, .unset, .unset, .unset, .unset, .unset, .unset] [(.long (if q0 < q1 then q1 else q0))]))
  generalize e1 : (if q0 < q1 then q1 else q0) = x1
  have e1I := congrArg Int64.toInt e1
  refine GoOn.step (fun t₀ k₀ => XS.lstore X51.here hx rfl (hb hby at_12) rfl (l' := #[.val (.long q0), .second, .val (.long q1), .second, .val (.long q2), .second, .val (.long q3), .second, .val (.int q4), .val (.int q5), .val (.long x0), .second, .val (.long x1), .second, .unset, .unset, .unset, .unset, .unset, .unset, .unset, .unset, .unset, .unset, .unset, .unset, .unset, .unset, .unset, .unset, .unset, .unset, .unset, .unset, .unset, .unset, .unset]) rfl k₀) ?_
  show GoOn p e below _ (T51.setTop (mkF m 14 #[.val (.long q0), .second, .val (.long q1), .second, .val (.long q2), .second, .val (.long q3), .second, .val (.int q4), .val (.int q5), .val (.long x0), .second, .val (.long x1), .second, .unset, .unset, .unset, .unset, .unset, .unset, .unset, .unset, .unset, .unset, .unset, .unset, .unset, .unset, .unset, .unset, .unset, .unset, .unset, .unset, .unset, .unset, .unset] []))
  refine GoOn.step (fun t₀ k₀ => XS.lload X51.here hx rfl (hb hby at_14) rfl k₀) ?_
  show GoOn p e below _ (T51.setTop (mkF m 16 #[.val (.long q0), .second, .val (.long q1), .second, .val (.long q2), .second, .val (.long q3), .second, .val (.int q4), .val (.int q5), .val (.long x0), .second, .val (.long x1), .second, .unset, .unset, .unset, .unset, .unset, .unset, .unset, .unset, .unset, .unset, .unset, .unset, .unset, .unset, .unset, .unset, .unset, .unset, .unset, .unset, .unset, .unset, .unset] [(.long q2)]))
  refine GoOn.step (fun t₀ k₀ => XS.lload X51.here hx rfl (hb hby at_16) rfl k₀) ?_
  show GoOn p e below _ (T51.setTop (mkF m 18 #[.val (.long q0), .second, .val (.long q1), .second, .val (.long q2), .second, .val (.long q3), .second, .val (.int q4), .val (.int q5), .val (.long x0), .second, .val (.long x1), .second, .unset, .unset, .unset, .unset, .unset, .unset, .unset, .unset, .unset, .unset, .unset, .unset, .unset, .unset, .unset, .unset, .unset, .unset, .unset, .unset, .unset, .unset, .unset] [(.long q3), (.long q2)]))
  obtain ⟨_, T52, L52, X52, hQ52, st52⟩ := kCallS X51 hx hZ (argsL := [(.long q2), (.long q3)]) (rest := []) (c_minL l Z a0 hw q2 q3 h0) hown (hw _ (List.mem_of_getElem? (i := 0) rfl)) (hw _ (List.mem_of_getElem? (i := 1) rfl)) (hw _ (List.mem_of_getElem? (i := 2) rfl)) (hw _ (List.mem_of_getElem? (i := 3) rfl)) (by decide) e51 (g := (mkF m 18 #[.val (.long q0), .second, .val (.long q1), .second, .val (.long q2), .second, .val (.long q3), .second, .val (.int q4), .val (.int q5), .val (.long x0), .second, .val (.long x1), .second, .unset, .unset, .unset, .unset, .unset, .unset, .unset, .unset, .unset, .unset, .unset, .unset, .unset, .unset, .unset, .unset, .unset, .unset, .unset, .unset, .unset, .unset, .unset] [(.long q3), (.long q2)])) rfl (by rw [hml]; rfl) (lenOf pd_3 rfl) rfl (W := 0) (by show 2 * 0 + _ ≤ _; exact Nat.le_of_eq rfl) (hb hby at_18) (by decide) (by decide) (by decide) (by decide)
  obtain ⟨rfl, rfl, e52⟩ := hQ52
  rw [List.append_nil] at X52
  refine GoOn.step st52 ?_
  show GoOn p e below _ (T52.setTop (mkF m 21 #[.val (.long q0), .second, .val (.long q1), .second, .val (.long q2), .second, .val (.long q3), .second, .val (.int q4), .val (.int q5), .val (.long x0), .second, .val (.long x1), .second, .unset, .unset, .unset, .unset, .unset, .unset, .unset, .unset, .unset, .unset, .unset, .unset, .unset, .unset, .unset, .unset, .unset, .unset, .unset, .unset, .unset, .unset, .unset] [(.long (if q3 < q2 then q3 else q2))]))
  generalize e2 : (if q3 < q2 then q3 else q2) = x2
  have e2I := congrArg Int64.toInt e2
  refine GoOn.step (fun t₀ k₀ => XS.lstore X52.here hx rfl (hb hby at_21) rfl (l' := #[.val (.long q0), .second, .val (.long q1), .second, .val (.long q2), .second, .val (.long q3), .second, .val (.int q4), .val (.int q5), .val (.long x0), .second, .val (.long x1), .second, .val (.long x2), .second, .unset, .unset, .unset, .unset, .unset, .unset, .unset, .unset, .unset, .unset, .unset, .unset, .unset, .unset, .unset, .unset, .unset, .unset, .unset, .unset, .unset]) rfl k₀) ?_
  show GoOn p e below _ (T52.setTop (mkF m 23 #[.val (.long q0), .second, .val (.long q1), .second, .val (.long q2), .second, .val (.long q3), .second, .val (.int q4), .val (.int q5), .val (.long x0), .second, .val (.long x1), .second, .val (.long x2), .second, .unset, .unset, .unset, .unset, .unset, .unset, .unset, .unset, .unset, .unset, .unset, .unset, .unset, .unset, .unset, .unset, .unset, .unset, .unset, .unset, .unset] []))
  refine GoOn.step (fun t₀ k₀ => XS.lload X52.here hx rfl (hb hby at_23) rfl k₀) ?_
  show GoOn p e below _ (T52.setTop (mkF m 25 #[.val (.long q0), .second, .val (.long q1), .second, .val (.long q2), .second, .val (.long q3), .second, .val (.int q4), .val (.int q5), .val (.long x0), .second, .val (.long x1), .second, .val (.long x2), .second, .unset, .unset, .unset, .unset, .unset, .unset, .unset, .unset, .unset, .unset, .unset, .unset, .unset, .unset, .unset, .unset, .unset, .unset, .unset, .unset, .unset] [(.long q2)]))
  refine GoOn.step (fun t₀ k₀ => XS.lload X52.here hx rfl (hb hby at_25) rfl k₀) ?_
  show GoOn p e below _ (T52.setTop (mkF m 27 #[.val (.long q0), .second, .val (.long q1), .second, .val (.long q2), .second, .val (.long q3), .second, .val (.int q4), .val (.int q5), .val (.long x0), .second, .val (.long x1), .second, .val (.long x2), .second, .unset, .unset, .unset, .unset, .unset, .unset, .unset, .unset, .unset, .unset, .unset, .unset, .unset, .unset, .unset, .unset, .unset, .unset, .unset, .unset, .unset] [(.long q3), (.long q2)]))
  obtain ⟨_, T53, L53, X53, hQ53, st53⟩ := kCallS X52 hx hZ (argsL := [(.long q2), (.long q3)]) (rest := []) (c_maxL l Z a0 hw q2 q3 h0) hown (hw _ (List.mem_of_getElem? (i := 4) rfl)) (hw _ (List.mem_of_getElem? (i := 5) rfl)) (hw _ (List.mem_of_getElem? (i := 2) rfl)) (hw _ (List.mem_of_getElem? (i := 6) rfl)) (by decide) e52 (g := (mkF m 27 #[.val (.long q0), .second, .val (.long q1), .second, .val (.long q2), .second, .val (.long q3), .second, .val (.int q4), .val (.int q5), .val (.long x0), .second, .val (.long x1), .second, .val (.long x2), .second, .unset, .unset, .unset, .unset, .unset, .unset, .unset, .unset, .unset, .unset, .unset, .unset, .unset, .unset, .unset, .unset, .unset, .unset, .unset, .unset, .unset] [(.long q3), (.long q2)])) rfl (by rw [hml]; rfl) (lenOf pd_3 rfl) rfl (W := 0) (by show 2 * 0 + _ ≤ _; exact Nat.le_of_eq rfl) (hb hby at_27) (by decide) (by decide) (by decide) (by decide)
  obtain ⟨rfl, rfl, e53⟩ := hQ53
  rw [List.append_nil] at X53
  refine GoOn.step st53 ?_
  show GoOn p e below _ (T53.setTop (mkF m 30 #[.val (.long q0), .second, .val (.long q1), .second, .val (.long q2), .second, .val (.long q3), .second, .val (.int q4), .val (.int q5), .val (.long x0), .second, .val (.long x1), .second, .val (.long x2), .second, .unset, .unset, .unset, .unset, .unset, .unset, .unset, .unset, .unset, .unset, .unset, .unset, .unset, .unset, .unset, .unset, .unset, .unset, .unset, .unset, .unset] [(.long (if q2 < q3 then q3 else q2))]))
  generalize e3 : (if q2 < q3 then q3 else q2) = x3
  have e3I := congrArg Int64.toInt e3
  refine GoOn.step (fun t₀ k₀ => XS.lstore X53.here hx rfl (hb hby at_30) rfl (l' := #[.val (.long q0), .second, .val (.long q1), .second, .val (.long q2), .second, .val (.long q3), .second, .val (.int q4), .val (.int q5), .val (.long x0), .second, .val (.long x1), .second, .val (.long x2), .second, .val (.long x3), .second, .unset, .unset, .unset, .unset, .unset, .unset, .unset, .unset, .unset, .unset, .unset, .unset, .unset, .unset, .unset, .unset, .unset, .unset, .unset]) rfl k₀) ?_
  show GoOn p e below _ (T53.setTop (mkF m 32 #[.val (.long q0), .second, .val (.long q1), .second, .val (.long q2), .second, .val (.long q3), .second, .val (.int q4), .val (.int q5), .val (.long x0), .second, .val (.long x1), .second, .val (.long x2), .second, .val (.long x3), .second, .unset, .unset, .unset, .unset, .unset, .unset, .unset, .unset, .unset, .unset, .unset, .unset, .unset, .unset, .unset, .unset, .unset, .unset, .unset] []))
  refine GoOn.step (fun t₀ k₀ => XS.lload X53.here hx rfl (hb hby at_32) rfl k₀) ?_
  show GoOn p e below _ (T53.setTop (mkF m 34 #[.val (.long q0), .second, .val (.long q1), .second, .val (.long q2), .second, .val (.long q3), .second, .val (.int q4), .val (.int q5), .val (.long x0), .second, .val (.long x1), .second, .val (.long x2), .second, .val (.long x3), .second, .unset, .unset, .unset, .unset, .unset, .unset, .unset, .unset, .unset, .unset, .unset, .unset, .unset, .unset, .unset, .unset, .unset, .unset, .unset] [(.long x0)]))
  refine GoOn.step (fun t₀ k₀ => XS.lload X53.here hx rfl (hb hby at_34) rfl k₀) ?_
  show GoOn p e below _ (T53.setTop (mkF m 36 #[.val (.long q0), .second, .val (.long q1), .second, .val (.long q2), .second, .val (.long q3), .second, .val (.int q4), .val (.int q5), .val (.long x0), .second, .val (.long x1), .second, .val (.long x2), .second, .val (.long x3), .second, .unset, .unset, .unset, .unset, .unset, .unset, .unset, .unset, .unset, .unset, .unset, .unset, .unset, .unset, .unset, .unset, .unset, .unset, .unset] [(.long x2), (.long x0)]))
  obtain ⟨_, T54, L54, X54, hQ54, st54⟩ := kCallS X53 hx hZ (argsL := [(.long x0), (.long x2)]) (rest := []) (c_minL l Z a0 hw x0 x2 h0) hown (hw _ (List.mem_of_getElem? (i := 0) rfl)) (hw _ (List.mem_of_getElem? (i := 1) rfl)) (hw _ (List.mem_of_getElem? (i := 2) rfl)) (hw _ (List.mem_of_getElem? (i := 3) rfl)) (by decide) e53 (g := (mkF m 36 #[.val (.long q0), .second, .val (.long q1), .second, .val (.long q2), .second, .val (.long q3), .second, .val (.int q4), .val (.int q5), .val (.long x0), .second, .val (.long x1), .second, .val (.long x2), .second, .val (.long x3), .second, .unset, .unset, .unset, .unset, .unset, .unset, .unset, .unset, .unset, .unset, .unset, .unset, .unset, .unset, .unset, .unset, .unset, .unset, .unset] [(.long x2), (.long x0)])) rfl (by rw [hml]; rfl) (lenOf pd_3 rfl) rfl (W := 0) (by show 2 * 0 + _ ≤ _; exact Nat.le_of_eq rfl) (hb hby at_36) (by decide) (by decide) (by decide) (by decide)
  obtain ⟨rfl, rfl, e54⟩ := hQ54
  rw [List.append_nil] at X54
  refine GoOn.step st54 ?_
  show GoOn p e below _ (T54.setTop (mkF m 39 #[.val (.long q0), .second, .val (.long q1), .second, .val (.long q2), .second, .val (.long q3), .second, .val (.int q4), .val (.int q5), .val (.long x0), .second, .val (.long x1), .second, .val (.long x2), .second, .val (.long x3), .second, .unset, .unset, .unset, .unset, .unset, .unset, .unset, .unset, .unset, .unset, .unset, .unset, .unset, .unset, .unset, .unset, .unset, .unset, .unset] [(.long (if x2 < x0 then x2 else x0))]))
  generalize f0 : (if x2 < x0 then x2 else x0) = y0
  have f0I := congrArg Int64.toInt f0
  refine GoOn.step (fun t₀ k₀ => XS.lstore X54.here hx rfl (hb hby at_39) rfl (l' := #[.val (.long q0), .second, .val (.long q1), .second, .val (.long q2), .second, .val (.long q3), .second, .val (.int q4), .val (.int q5), .val (.long x0), .second, .val (.long x1), .second, .val (.long x2), .second, .val (.long x3), .second, .val (.long y0), .second, .unset, .unset, .unset, .unset, .unset, .unset, .unset, .unset, .unset, .unset, .unset, .unset, .unset, .unset, .unset, .unset, .unset]) rfl k₀) ?_
  show GoOn p e below _ (T54.setTop (mkF m 41 #[.val (.long q0), .second, .val (.long q1), .second, .val (.long q2), .second, .val (.long q3), .second, .val (.int q4), .val (.int q5), .val (.long x0), .second, .val (.long x1), .second, .val (.long x2), .second, .val (.long x3), .second, .val (.long y0), .second, .unset, .unset, .unset, .unset, .unset, .unset, .unset, .unset, .unset, .unset, .unset, .unset, .unset, .unset, .unset, .unset, .unset] []))
  refine GoOn.step (fun t₀ k₀ => XS.lload X54.here hx rfl (hb hby at_41) rfl k₀) ?_
  show GoOn p e below _ (T54.setTop (mkF m 43 #[.val (.long q0), .second, .val (.long q1), .second, .val (.long q2), .second, .val (.long q3), .second, .val (.int q4), .val (.int q5), .val (.long x0), .second, .val (.long x1), .second, .val (.long x2), .second, .val (.long x3), .second, .val (.long y0), .second, .unset, .unset, .unset, .unset, .unset, .unset, .unset, .unset, .unset, .unset, .unset, .unset, .unset, .unset, .unset, .unset, .unset] [(.long x0)]))
  refine GoOn.step (fun t₀ k₀ => XS.lload X54.here hx rfl (hb hby at_43) rfl k₀) ?_
  show GoOn p e below _ (T54.setTop (mkF m 45 #[.val (.long q0), .second, .val (.long q1), .second, .val (.long q2), .second, .val (.long q3), .second, .val (.int q4), .val (.int q5), .val (.long x0), .second, .val (.long x1), .second, .val (.long x2), .second, .val (.long x3), .second, .val (.long y0), .second, .unset, .unset, .unset, .unset, .unset, .unset, .unset, .unset, .unset, .unset, .unset, .unset, .unset, .unset, .unset, .unset, .unset] [(.long x2), (.long x0)]))
  obtain ⟨_, T55, L55, X55, hQ55, st55⟩ := kCallS X54 hx hZ (argsL := [(.long x0), (.long x2)]) (rest := []) (c_maxL l Z a0 hw x0 x2 h0) hown (hw _ (List.mem_of_getElem? (i := 4) rfl)) (hw _ (List.mem_of_getElem? (i := 5) rfl)) (hw _ (List.mem_of_getElem? (i := 2) rfl)) (hw _ (List.mem_of_getElem? (i := 6) rfl)) (by decide) e54 (g := (mkF m 45 #[.val (.long q0), .second, .val (.long q1), .second, .val (.long q2), .second, .val (.long q3), .second, .val (.int q4), .val (.int q5), .val (.long x0), .second, .val (.long x1), .second, .val (.long x2), .second, .val (.long x3), .second, .val (.long y0), .second, .unset, .unset, .unset, .unset, .unset, .unset, .unset, .unset, .unset, .unset, .unset, .unset, .unset, .unset, .unset, .unset, .unset] [(.long x2), (.long x0)])) rfl (by rw [hml]; rfl) (lenOf pd_3 rfl) rfl (W := 0) (by show 2 * 0 + _ ≤ _; exact Nat.le_of_eq rfl) (hb hby at_45) (by decide) (by decide) (by decide) (by decide)
  obtain ⟨rfl, rfl, e55⟩ := hQ55
  rw [List.append_nil] at X55
  refine GoOn.step st55 ?_
  show GoOn p e below _ (T55.setTop (mkF m 48 #[.val (.long q0), .second, .val (.long q1), .second, .val (.long q2), .second, .val (.long q3), .second, .val (.int q4), .val (.int q5), .val (.long x0), .second, .val (.long x1), .second, .val (.long x2), .second, .val (.long x3), .second, .val (.long y0), .second, .unset, .unset, .unset, .unset, .unset, .unset, .unset, .unset, .unset, .unset, .unset, .unset, .unset, .unset, .unset, .unset, .unset] [(.long (if x0 < x2 then x2 else x0))]))
  generalize f2 : (if x0 < x2 then x2 else x0) = y2
  have f2I := congrArg Int64.toInt f2
  refine GoOn.step (fun t₀ k₀ => XS.lstore X55.here hx rfl (hb hby at_48) rfl (l' := #[.val (.long q0), .second, .val (.long q1), .second, .val (.long q2), .second, .val (.long q3), .second, .val (.int q4), .val (.int q5), .val (.long x0), .second, .val (.long x1), .second, .val (.long x2), .second, .val (.long x3), .second, .val (.long y0), .second, .val (.long y2), .second, .unset, .unset, .unset, .unset, .unset, .unset, .unset, .unset, .unset, .unset, .unset, .unset, .unset, .unset, .unset]) rfl k₀) ?_
  show GoOn p e below _ (T55.setTop (mkF m 50 #[.val (.long q0), .second, .val (.long q1), .second, .val (.long q2), .second, .val (.long q3), .second, .val (.int q4), .val (.int q5), .val (.long x0), .second, .val (.long x1), .second, .val (.long x2), .second, .val (.long x3), .second, .val (.long y0), .second, .val (.long y2), .second, .unset, .unset, .unset, .unset, .unset, .unset, .unset, .unset, .unset, .unset, .unset, .unset, .unset, .unset, .unset] []))
  refine GoOn.step (fun t₀ k₀ => XS.lload X55.here hx rfl (hb hby at_50) rfl k₀) ?_
  show GoOn p e below _ (T55.setTop (mkF m 52 #[.val (.long q0), .second, .val (.long q1), .second, .val (.long q2), .second, .val (.long q3), .second, .val (.int q4), .val (.int q5), .val (.long x0), .second, .val (.long x1), .second, .val (.long x2), .second, .val (.long x3), .second, .val (.long y0), .second, .val (.long y2), .second, .unset, .unset, .unset, .unset, .unset, .unset, .unset, .unset, .unset, .unset, .unset, .unset, .unset, .unset, .unset] [(.long x1)]))
  refine GoOn.step (fun t₀ k₀ => XS.lload X55.here hx rfl (hb hby at_52) rfl k₀) ?_
  show GoOn p e below _ (T55.setTop (mkF m 54 #[.val (.long q0), .second, .val (.long q1), .second, .val (.long q2), .second, .val (.long q3), .second, .val (.int q4), .val (.int q5), .val (.long x0), .second, .val (.long x1), .second, .val (.long x2), .second, .val (.long x3), .second, .val (.long y0), .second, .val (.long y2), .second, .unset, .unset, .unset, .unset, .unset, .unset, .unset, .unset, .unset, .unset, .unset, .unset, .unset, .unset, .unset] [(.long x3), (.long x1)]))
  obtain ⟨_, T56, L56, X56, hQ56, st56⟩ := kCallS X55 hx hZ (argsL := [(.long x1), (.long x3)]) (rest := []) (c_minL l Z a0 hw x1 x3 h0) hown (hw _ (List.mem_of_getElem? (i := 0) rfl)) (hw _ (List.mem_of_getElem? (i := 1) rfl)) (hw _ (List.mem_of_getElem? (i := 2) rfl)) (hw _ (List.mem_of_getElem? (i := 3) rfl)) (by decide) e55 (g := (mkF m 54 #[.val (.long q0), .second, .val (.long q1), .second, .val (.long q2), .second, .val (.long q3), .second, .val (.int q4), .val (.int q5), .val (.long x0), .second, .val (.long x1), .second, .val (.long x2), .second, .val (.long x3), .second, .val (.long y0), .second, .val (.long y2), .second, .unset, .unset, .unset, .unset, .unset, .unset, .unset, .unset, .unset, .unset, .unset, .unset, .unset, .unset, .unset] [(.long x3), (.long x1)])) rfl (by rw [hml]; rfl) (lenOf pd_3 rfl) rfl (W := 0) (by show 2 * 0 + _ ≤ _; exact Nat.le_of_eq rfl) (hb hby at_54) (by decide) (by decide) (by decide) (by decide)
  obtain ⟨rfl, rfl, e56⟩ := hQ56
  rw [List.append_nil] at X56
  refine GoOn.step st56 ?_
  show GoOn p e below _ (T56.setTop (mkF m 57 #[.val (.long q0), .second, .val (.long q1), .second, .val (.long q2), .second, .val (.long q3), .second, .val (.int q4), .val (.int q5), .val (.long x0), .second, .val (.long x1), .second, .val (.long x2), .second, .val (.long x3), .second, .val (.long y0), .second, .val (.long y2), .second, .unset, .unset, .unset, .unset, .unset, .unset, .unset, .unset, .unset, .unset, .unset, .unset, .unset, .unset, .unset] [(.long (if x3 < x1 then x3 else x1))]))
  generalize f1 : (if x3 < x1 then x3 else x1) = y1
  have f1I := congrArg Int64.toInt f1
  refine GoOn.step (fun t₀ k₀ => XS.lstore X56.here hx rfl (hb hby at_57) rfl (l' := #[.val (.long q0), .second, .val (.long q1), .second, .val (.long q2), .second, .val (.long q3), .second, .val (.int q4), .val (.int q5), .val (.long x0), .second, .val (.long x1), .second, .val (.long x2), .second, .val (.long x3), .second, .val (.long y0), .second, .val (.long y2), .second, .val (.long y1), .second, .unset, .unset, .unset, .unset, .unset, .unset, .unset, .unset, .unset, .unset, .unset, .unset, .unset]) rfl k₀) ?_
  show GoOn p e below _ (T56.setTop (mkF m 59 #[.val (.long q0), .second, .val (.long q1), .second, .val (.long q2), .second, .val (.long q3), .second, .val (.int q4), .val (.int q5), .val (.long x0), .second, .val (.long x1), .second, .val (.long x2), .second, .val (.long x3), .second, .val (.long y0), .second, .val (.long y2), .second, .val (.long y1), .second, .unset, .unset, .unset, .unset, .unset, .unset, .unset, .unset, .unset, .unset, .unset, .unset, .unset] []))
  refine GoOn.step (fun t₀ k₀ => XS.lload X56.here hx rfl (hb hby at_59) rfl k₀) ?_
  show GoOn p e below _ (T56.setTop (mkF m 61 #[.val (.long q0), .second, .val (.long q1), .second, .val (.long q2), .second, .val (.long q3), .second, .val (.int q4), .val (.int q5), .val (.long x0), .second, .val (.long x1), .second, .val (.long x2), .second, .val (.long x3), .second, .val (.long y0), .second, .val (.long y2), .second, .val (.long y1), .second, .unset, .unset, .unset, .unset, .unset, .unset, .unset, .unset, .unset, .unset, .unset, .unset, .unset] [(.long x1)]))
  refine GoOn.step (fun t₀ k₀ => XS.lload X56.here hx rfl (hb hby at_61) rfl k₀) ?_
  show GoOn p e below _ (T56.setTop (mkF m 63 #[.val (.long q0), .second, .val (.long q1), .second, .val (.long q2), .second, .val (.long q3), .second, .val (.int q4), .val (.int q5), .val (.long x0), .second, .val (.long x1), .second, .val (.long x2), .second, .val (.long x3), .second, .val (.long y0), .second, .val (.long y2), .second, .val (.long y1), .second, .unset, .unset, .unset, .unset, .unset, .unset, .unset, .unset, .unset, .unset, .unset, .unset, .unset] [(.long x3), (.long x1)]))
  obtain ⟨_, T57, L57, X57, hQ57, st57⟩ := kCallS X56 hx hZ (argsL := [(.long x1), (.long x3)]) (rest := []) (c_maxL l Z a0 hw x1 x3 h0) hown (hw _ (List.mem_of_getElem? (i := 4) rfl)) (hw _ (List.mem_of_getElem? (i := 5) rfl)) (hw _ (List.mem_of_getElem? (i := 2) rfl)) (hw _ (List.mem_of_getElem? (i := 6) rfl)) (by decide) e56 (g := (mkF m 63 #[.val (.long q0), .second, .val (.long q1), .second, .val (.long q2), .second, .val (.long q3), .second, .val (.int q4), .val (.int q5), .val (.long x0), .second, .val (.long x1), .second, .val (.long x2), .second, .val (.long x3), .second, .val (.long y0), .second, .val (.long y2), .second, .val (.long y1), .second, .unset, .unset, .unset, .unset, .unset, .unset, .unset, .unset, .unset, .unset, .unset, .unset, .unset] [(.long x3), (.long x1)])) rfl (by rw [hml]; rfl) (lenOf pd_3 rfl) rfl (W := 0) (by show 2 * 0 + _ ≤ _; exact Nat.le_of_eq rfl) (hb hby at_63) (by decide) (by decide) (by decide) (by decide)
  obtain ⟨rfl, rfl, e57⟩ := hQ57
  rw [List.append_nil] at X57
  refine GoOn.step st57 ?_
  show GoOn p e below _ (T57.setTop (mkF m 66 #[.val (.long q0), .second, .val (.long q1), .second, .val (.long q2), .second, .val (.long q3), .second, .val (.int q4), .val (.int q5), .val (.long x0), .second, .val (.long x1), .second, .val (.long x2), .second, .val (.long x3), .second, .val (.long y0), .second, .val (.long y2), .second, .val (.long y1), .second, .unset, .unset, .unset, .unset, .unset, .unset, .unset, .unset, .unset, .unset, .unset, .unset, .unset] [(.long (if x1 < x3 then x3 else x1))]))
  generalize f3 : (if x1 < x3 then x3 else x1) = y3
  have f3I := congrArg Int64.toInt f3
  refine GoOn.step (fun t₀ k₀ => XS.lstore X57.here hx rfl (hb hby at_66) rfl (l' := #[.val (.long q0), .second, .val (.long q1), .second, .val (.long q2), .second, .val (.long q3), .second, .val (.int q4), .val (.int q5), .val (.long x0), .second, .val (.long x1), .second, .val (.long x2), .second, .val (.long x3), .second, .val (.long y0), .second, .val (.long y2), .second, .val (.long y1), .second, .val (.long y3), .second, .unset, .unset, .unset, .unset, .unset, .unset, .unset, .unset, .unset, .unset, .unset]) rfl k₀) ?_
  show GoOn p e below _ (T57.setTop (mkF m 68 #[.val (.long q0), .second, .val (.long q1), .second, .val (.long q2), .second, .val (.long q3), .second, .val (.int q4), .val (.int q5), .val (.long x0), .second, .val (.long x1), .second, .val (.long x2), .second, .val (.long x3), .second, .val (.long y0), .second, .val (.long y2), .second, .val (.long y1), .second, .val (.long y3), .second, .unset, .unset, .unset, .unset, .unset, .unset, .unset, .unset, .unset, .unset, .unset] []))
  refine GoOn.step (fun t₀ k₀ => XS.lload X57.here hx rfl (hb hby at_68) rfl k₀) ?_
  show GoOn p e below _ (T57.setTop (mkF m 70 #[.val (.long q0), .second, .val (.long q1), .second, .val (.long q2), .second, .val (.long q3), .second, .val (.int q4), .val (.int q5), .val (.long x0), .second, .val (.long x1), .second, .val (.long x2), .second, .val (.long x3), .second, .val (.long y0), .second, .val (.long y2), .second, .val (.long y1), .second, .val (.long y3), .second, .unset, .unset, .unset, .unset, .unset, .unset, .unset, .unset, .unset, .unset, .unset] [(.long y1)]))
  refine GoOn.step (fun t₀ k₀ => XS.lload X57.here hx rfl (hb hby at_70) rfl k₀) ?_
  show GoOn p e below _ (T57.setTop (mkF m 72 #[.val (.long q0), .second, .val (.long q1), .second, .val (.long q2), .second, .val (.long q3), .second, .val (.int q4), .val (.int q5), .val (.long x0), .second, .val (.long x1), .second, .val (.long x2), .second, .val (.long x3), .second, .val (.long y0), .second, .val (.long y2), .second, .val (.long y1), .second, .val (.long y3), .second, .unset, .unset, .unset, .unset, .unset, .unset, .unset, .unset, .unset, .unset, .unset] [(.long y2), (.long y1)]))
  obtain ⟨_, T58, L58, X58, hQ58, st58⟩ := kCallS X57 hx hZ (argsL := [(.long y1), (.long y2)]) (rest := []) (c_minL l Z a0 hw y1 y2 h0) hown (hw _ (List.mem_of_getElem? (i := 0) rfl)) (hw _ (List.mem_of_getElem? (i := 1) rfl)) (hw _ (List.mem_of_getElem? (i := 2) rfl)) (hw _ (List.mem_of_getElem? (i := 3) rfl)) (by decide) e57 (g := (mkF m 72 #[.val (.long q0), .second, .val (.long q1), .second, .val (.long q2), .second, .val (.long q3), .second, .val (.int q4), .val (.int q5), .val (.long x0), .second, .val (.long x1), .second, .val (.long x2), .second, .val (.long x3), .second, .val (.long y0), .second, .val (.long y2), .second, .val (.long y1), .second, .val (.long y3), .second, .unset, .unset, .unset, .unset, .unset, .unset, .unset, .unset, .unset, .unset, .unset] [(.long y2), (.long y1)])) rfl (by rw [hml]; rfl) (lenOf pd_3 rfl) rfl (W := 0) (by show 2 * 0 + _ ≤ _; exact Nat.le_of_eq rfl) (hb hby at_72) (by decide) (by decide) (by decide) (by decide)
  obtain ⟨rfl, rfl, e58⟩ := hQ58
  rw [List.append_nil] at X58
  refine GoOn.step st58 ?_
  show GoOn p e below _ (T58.setTop (mkF m 75 #[.val (.long q0), .second, .val (.long q1), .second, .val (.long q2), .second, .val (.long q3), .second, .val (.int q4), .val (.int q5), .val (.long x0), .second, .val (.long x1), .second, .val (.long x2), .second, .val (.long x3), .second, .val (.long y0), .second, .val (.long y2), .second, .val (.long y1), .second, .val (.long y3), .second, .unset, .unset, .unset, .unset, .unset, .unset, .unset, .unset, .unset, .unset, .unset] [(.long (if y2 < y1 then y2 else y1))]))
  generalize g1 : (if y2 < y1 then y2 else y1) = z1
  have g1I := congrArg Int64.toInt g1
  refine GoOn.step (fun t₀ k₀ => XS.lstore X58.here hx rfl (hb hby at_75) rfl (l' := #[.val (.long q0), .second, .val (.long q1), .second, .val (.long q2), .second, .val (.long q3), .second, .val (.int q4), .val (.int q5), .val (.long x0), .second, .val (.long x1), .second, .val (.long x2), .second, .val (.long x3), .second, .val (.long y0), .second, .val (.long y2), .second, .val (.long y1), .second, .val (.long y3), .second, .val (.long z1), .second, .unset, .unset, .unset, .unset, .unset, .unset, .unset, .unset, .unset]) rfl k₀) ?_
  show GoOn p e below _ (T58.setTop (mkF m 77 #[.val (.long q0), .second, .val (.long q1), .second, .val (.long q2), .second, .val (.long q3), .second, .val (.int q4), .val (.int q5), .val (.long x0), .second, .val (.long x1), .second, .val (.long x2), .second, .val (.long x3), .second, .val (.long y0), .second, .val (.long y2), .second, .val (.long y1), .second, .val (.long y3), .second, .val (.long z1), .second, .unset, .unset, .unset, .unset, .unset, .unset, .unset, .unset, .unset] []))
  refine GoOn.step (fun t₀ k₀ => XS.lload X58.here hx rfl (hb hby at_77) rfl k₀) ?_
  show GoOn p e below _ (T58.setTop (mkF m 79 #[.val (.long q0), .second, .val (.long q1), .second, .val (.long q2), .second, .val (.long q3), .second, .val (.int q4), .val (.int q5), .val (.long x0), .second, .val (.long x1), .second, .val (.long x2), .second, .val (.long x3), .second, .val (.long y0), .second, .val (.long y2), .second, .val (.long y1), .second, .val (.long y3), .second, .val (.long z1), .second, .unset, .unset, .unset, .unset, .unset, .unset, .unset, .unset, .unset] [(.long y1)]))
  refine GoOn.step (fun t₀ k₀ => XS.lload X58.here hx rfl (hb hby at_79) rfl k₀) ?_
  show GoOn p e below _ (T58.setTop (mkF m 81 #[.val (.long q0), .second, .val (.long q1), .second, .val (.long q2), .second, .val (.long q3), .second, .val (.int q4), .val (.int q5), .val (.long x0), .second, .val (.long x1), .second, .val (.long x2), .second, .val (.long x3), .second, .val (.long y0), .second, .val (.long y2), .second, .val (.long y1), .second, .val (.long y3), .second, .val (.long z1), .second, .unset, .unset, .unset, .unset, .unset, .unset, .unset, .unset, .unset] [(.long y2), (.long y1)]))
  obtain ⟨_, T59, L59, X59, hQ59, st59⟩ := kCallS X58 hx hZ (argsL := [(.long y1), (.long y2)]) (rest := []) (c_maxL l Z a0 hw y1 y2 h0) hown (hw _ (List.mem_of_getElem? (i := 4) rfl)) (hw _ (List.mem_of_getElem? (i := 5) rfl)) (hw _ (List.mem_of_getElem? (i := 2) rfl)) (hw _ (List.mem_of_getElem? (i := 6) rfl)) (by decide) e58 (g := (mkF m 81 #[.val (.long q0), .second, .val (.long q1), .second, .val (.long q2), .second, .val (.long q3), .second, .val (.int q4), .val (.int q5), .val (.long x0), .second, .val (.long x1), .second, .val (.long x2), .second, .val (.long x3), .second, .val (.long y0), .second, .val (.long y2), .second, .val (.long y1), .second, .val (.long y3), .second, .val (.long z1), .second, .unset, .unset, .unset, .unset, .unset, .unset, .unset, .unset, .unset] [(.long y2), (.long y1)])) rfl (by rw [hml]; rfl) (lenOf pd_3 rfl) rfl (W := 0) (by show 2 * 0 + _ ≤ _; exact Nat.le_of_eq rfl) (hb hby at_81) (by decide) (by decide) (by decide) (by decide)
  obtain ⟨rfl, rfl, e59⟩ := hQ59
  rw [List.append_nil] at X59
  refine GoOn.step st59 ?_
  show GoOn p e below _ (T59.setTop (mkF m 84 #[.val (.long q0), .second, .val (.long q1), .second, .val (.long q2), .second, .val (.long q3), .second, .val (.int q4), .val (.int q5), .val (.long x0), .second, .val (.long x1), .second, .val (.long x2), .second, .val (.long x3), .second, .val (.long y0), .second, .val (.long y2), .second, .val (.long y1), .second, .val (.long y3), .second, .val (.long z1), .second, .unset, .unset, .unset, .unset, .unset, .unset, .unset, .unset, .unset] [(.long (if y1 < y2 then y2 else y1))]))
  generalize g2 : (if y1 < y2 then y2 else y1) = z2
  have g2I := congrArg Int64.toInt g2
  obtain ⟨o1, o2, o3⟩ := srt _ _ _ _ _ _ _ _ _ _ _ _ _ _ e0 e1 e2 e3 f0 f2 f1 f3 g1 g2
  clear e0 e1 e2 e3 f0 f2 f1 f3 g1 g2
  refine GoOn.step (fun t₀ k₀ => XS.lstore X59.here hx rfl (hb hby at_84) rfl (l' := #[.val (.long q0), .second, .val (.long q1), .second, .val (.long q2), .second, .val (.long q3), .second, .val (.int q4), .val (.int q5), .val (.long x0), .second, .val (.long x1), .second, .val (.long x2), .second, .val (.long x3), .second, .val (.long y0), .second, .val (.long y2), .second, .val (.long y1), .second, .val (.long y3), .second, .val (.long z1), .second, .val (.long z2), .second, .unset, .unset, .unset, .unset, .unset, .unset, .unset]) rfl k₀) ?_
  show GoOn p e below _ (T59.setTop (mkF m 86 #[.val (.long q0), .second, .val (.long q1), .second, .val (.long q2), .second, .val (.long q3), .second, .val (.int q4), .val (.int q5), .val (.long x0), .second, .val (.long x1), .second, .val (.long x2), .second, .val (.long x3), .second, .val (.long y0), .second, .val (.long y2), .second, .val (.long y1), .second, .val (.long y3), .second, .val (.long z1), .second, .val (.long z2), .second, .unset, .unset, .unset, .unset, .unset, .unset, .unset] []))
  refine GoOn.step (fun t₀ k₀ => XS.iconst X59.here hx rfl (hb hby at_86) k₀) ?_
  show GoOn p e below _ (T59.setTop (mkF m 87 #[.val (.long q0), .second, .val (.long q1), .second, .val (.long q2), .second, .val (.long q3), .second, .val (.int q4), .val (.int q5), .val (.long x0), .second, .val (.long x1), .second, .val (.long x2), .second, .val (.long x3), .second, .val (.long y0), .second, .val (.long y2), .second, .val (.long y1), .second, .val (.long y3), .second, .val (.long z1), .second, .val (.long z2), .second, .unset, .unset, .unset, .unset, .unset, .unset, .unset] [(.int (4 : Int32))]))
  obtain ⟨T60, h60, k60, X60, e60, E60, A60, st60⟩ := newP X59 hx hZ (hw _ (List.mem_of_getElem? (i := 7) rfl)) e59 (g := (mkF m 87 #[.val (.long q0), .second, .val (.long q1), .second, .val (.long q2), .second, .val (.long q3), .second, .val (.int q4), .val (.int q5), .val (.long x0), .second, .val (.long x1), .second, .val (.long x2), .second, .val (.long x3), .second, .val (.long y0), .second, .val (.long y2), .second, .val (.long y1), .second, .val (.long y3), .second, .val (.long z1), .second, .val (.long z2), .second, .unset, .unset, .unset, .unset, .unset, .unset, .unset] [(.int (4 : Int32))])) rfl (hb hby at_87) rfl (by decide) (cap := 4) (by decide) (by decide) (by decide) (by decide)
  obtain ⟨ra, g60⟩ : ∃ z, z = h0.size := ⟨_, rfl⟩
  rw [← g60] at A60 st60
  have le_ra : n0 ≤ ra := by rw [g60]; exact Z0
  replace Z0 := Nat.le_trans Z0 E60.1
  have J_ra : Jar Z h60 ra .long 4 (fun _ => defaultValue .long) := Jar.new A60 (by decide)
  refine GoOn.step st60 ?_
  show GoOn p e below _ (T60.setTop (mkF m 89 #[.val (.long q0), .second, .val (.long q1), .second, .val (.long q2), .second, .val (.long q3), .second, .val (.int q4), .val (.int q5), .val (.long x0), .second, .val (.long x1), .second, .val (.long x2), .second, .val (.long x3), .second, .val (.long y0), .second, .val (.long y2), .second, .val (.long y1), .second, .val (.long y3), .second, .val (.long z1), .second, .val (.long z2), .second, .unset, .unset, .unset, .unset, .unset, .unset, .unset] [(.ref ra)]))
  refine GoOn.step (fun t₀ k₀ => XS.dup X60.here hx rfl (hb hby at_89) rfl rfl k₀) ?_
  show GoOn p e below _ (T60.setTop (mkF m 90 #[.val (.long q0), .second, .val (.long q1), .second, .val (.long q2), .second, .val (.long q3), .second, .val (.int q4), .val (.int q5), .val (.long x0), .second, .val (.long x1), .second, .val (.long x2), .second, .val (.long x3), .second, .val (.long y0), .second, .val (.long y2), .second, .val (.long y1), .second, .val (.long y3), .second, .val (.long z1), .second, .val (.long z2), .second, .unset, .unset, .unset, .unset, .unset, .unset, .unset] [(.ref ra), (.ref ra)]))
  refine GoOn.step (fun t₀ k₀ => XS.iconst X60.here hx rfl (hb hby at_90) k₀) ?_
  show GoOn p e below _ (T60.setTop (mkF m 91 #[.val (.long q0), .second, .val (.long q1), .second, .val (.long q2), .second, .val (.long q3), .second, .val (.int q4), .val (.int q5), .val (.long x0), .second, .val (.long x1), .second, .val (.long x2), .second, .val (.long x3), .second, .val (.long y0), .second, .val (.long y2), .second, .val (.long y1), .second, .val (.long y3), .second, .val (.long z1), .second, .val (.long z2), .second, .unset, .unset, .unset, .unset, .unset, .unset, .unset] [(.int (0 : Int32)), (.ref ra), (.ref ra)]))
  refine GoOn.step (fun t₀ k₀ => XS.lload X60.here hx rfl (hb hby at_91) rfl k₀) ?_
  show GoOn p e below _ (T60.setTop (mkF m 93 #[.val (.long q0), .second, .val (.long q1), .second, .val (.long q2), .second, .val (.long q3), .second, .val (.int q4), .val (.int q5), .val (.long x0), .second, .val (.long x1), .second, .val (.long x2), .second, .val (.long x3), .second, .val (.long y0), .second, .val (.long y2), .second, .val (.long y1), .second, .val (.long y3), .second, .val (.long z1), .second, .val (.long z2), .second, .unset, .unset, .unset, .unset, .unset, .unset, .unset] [(.long y0), (.int (0 : Int32)), (.ref ra), (.ref ra)]))
  obtain ⟨T61, h61, X61, e61, W61, st61⟩ := kStJ X60 hx hZ e60 J_ra (j := (0 : Int32)) ⟨by decide, by decide⟩ (g := (mkF m 93 #[.val (.long q0), .second, .val (.long q1), .second, .val (.long q2), .second, .val (.long q3), .second, .val (.int q4), .val (.int q5), .val (.long x0), .second, .val (.long x1), .second, .val (.long x2), .second, .val (.long x3), .second, .val (.long y0), .second, .val (.long y2), .second, .val (.long y1), .second, .val (.long y3), .second, .val (.long z1), .second, .val (.long z2), .second, .unset, .unset, .unset, .unset, .unset, .unset, .unset] [(.long y0), (.int (0 : Int32)), (.ref ra), (.ref ra)])) rfl rfl (hb hby at_93)
  replace N0 := Fr.snoc X61 N0 le_ra
  replace J_ra := J_ra.set W61
  replace Z0 := Nat.le_trans Z0 (Nat.le_of_eq W61.size.symm)
  refine GoOn.step st61 ?_
  show GoOn p e below _ (T61.setTop (mkF m 94 #[.val (.long q0), .second, .val (.long q1), .second, .val (.long q2), .second, .val (.long q3), .second, .val (.int q4), .val (.int q5), .val (.long x0), .second, .val (.long x1), .second, .val (.long x2), .second, .val (.long x3), .second, .val (.long y0), .second, .val (.long y2), .second, .val (.long y1), .second, .val (.long y3), .second, .val (.long z1), .second, .val (.long z2), .second, .unset, .unset, .unset, .unset, .unset, .unset, .unset] [(.ref ra)]))
  refine GoOn.step (fun t₀ k₀ => XS.dup X61.here hx rfl (hb hby at_94) rfl rfl k₀) ?_
  show GoOn p e below _ (T61.setTop (mkF m 95 #[.val (.long q0), .second, .val (.long q1), .second, .val (.long q2), .second, .val (.long q3), .second, .val (.int q4), .val (.int q5), .val (.long x0), .second, .val (.long x1), .second, .val (.long x2), .second, .val (.long x3), .second, .val (.long y0), .second, .val (.long y2), .second, .val (.long y1), .second, .val (.long y3), .second, .val (.long z1), .second, .val (.long z2), .second, .unset, .unset, .unset, .unset, .unset, .unset, .unset] [(.ref ra), (.ref ra)]))
  refine GoOn.step (fun t₀ k₀ => XS.iconst X61.here hx rfl (hb hby at_95) k₀) ?_
  show GoOn p e below _ (T61.setTop (mkF m 96 #[.val (.long q0), .second, .val (.long q1), .second, .val (.long q2), .second, .val (.long q3), .second, .val (.int q4), .val (.int q5), .val (.long x0), .second, .val (.long x1), .second, .val (.long x2), .second, .val (.long x3), .second, .val (.long y0), .second, .val (.long y2), .second, .val (.long y1), .second, .val (.long y3), .second, .val (.long z1), .second, .val (.long z2), .second, .unset, .unset, .unset, .unset, .unset, .unset, .unset] [(.int (1 : Int32)), (.ref ra), (.ref ra)]))
  refine GoOn.step (fun t₀ k₀ => XS.lload X61.here hx rfl (hb hby at_96) rfl k₀) ?_
  show GoOn p e below _ (T61.setTop (mkF m 98 #[.val (.long q0), .second, .val (.long q1), .second, .val (.long q2), .second, .val (.long q3), .second, .val (.int q4), .val (.int q5), .val (.long x0), .second, .val (.long x1), .second, .val (.long x2), .second, .val (.long x3), .second, .val (.long y0), .second, .val (.long y2), .second, .val (.long y1), .second, .val (.long y3), .second, .val (.long z1), .second, .val (.long z2), .second, .unset, .unset, .unset, .unset, .unset, .unset, .unset] [(.long z1), (.int (1 : Int32)), (.ref ra), (.ref ra)]))
  obtain ⟨T62, h62, X62, e62, W62, st62⟩ := kStJ X61 hx hZ e61 J_ra (j := (1 : Int32)) ⟨by decide, by decide⟩ (g := (mkF m 98 #[.val (.long q0), .second, .val (.long q1), .second, .val (.long q2), .second, .val (.long q3), .second, .val (.int q4), .val (.int q5), .val (.long x0), .second, .val (.long x1), .second, .val (.long x2), .second, .val (.long x3), .second, .val (.long y0), .second, .val (.long y2), .second, .val (.long y1), .second, .val (.long y3), .second, .val (.long z1), .second, .val (.long z2), .second, .unset, .unset, .unset, .unset, .unset, .unset, .unset] [(.long z1), (.int (1 : Int32)), (.ref ra), (.ref ra)])) rfl rfl (hb hby at_98)
  replace N0 := Fr.snoc X62 N0 le_ra
  replace J_ra := J_ra.set W62
  replace Z0 := Nat.le_trans Z0 (Nat.le_of_eq W62.size.symm)
  refine GoOn.step st62 ?_
  show GoOn p e below _ (T62.setTop (mkF m 99 #[.val (.long q0), .second, .val (.long q1), .second, .val (.long q2), .second, .val (.long q3), .second, .val (.int q4), .val (.int q5), .val (.long x0), .second, .val (.long x1), .second, .val (.long x2), .second, .val (.long x3), .second, .val (.long y0), .second, .val (.long y2), .second, .val (.long y1), .second, .val (.long y3), .second, .val (.long z1), .second, .val (.long z2), .second, .unset, .unset, .unset, .unset, .unset, .unset, .unset] [(.ref ra)]))
  refine GoOn.step (fun t₀ k₀ => XS.dup X62.here hx rfl (hb hby at_99) rfl rfl k₀) ?_
  show GoOn p e below _ (T62.setTop (mkF m 100 #[.val (.long q0), .second, .val (.long q1), .second, .val (.long q2), .second, .val (.long q3), .second, .val (.int q4), .val (.int q5), .val (.long x0), .second, .val (.long x1), .second, .val (.long x2), .second, .val (.long x3), .second, .val (.long y0), .second, .val (.long y2), .second, .val (.long y1), .second, .val (.long y3), .second, .val (.long z1), .second, .val (.long z2), .second, .unset, .unset, .unset, .unset, .unset, .unset, .unset] [(.ref ra), (.ref ra)]))
  refine GoOn.step (fun t₀ k₀ => XS.iconst X62.here hx rfl (hb hby at_100) k₀) ?_
  show GoOn p e below _ (T62.setTop (mkF m 101 #[.val (.long q0), .second, .val (.long q1), .second, .val (.long q2), .second, .val (.long q3), .second, .val (.int q4), .val (.int q5), .val (.long x0), .second, .val (.long x1), .second, .val (.long x2), .second, .val (.long x3), .second, .val (.long y0), .second, .val (.long y2), .second, .val (.long y1), .second, .val (.long y3), .second, .val (.long z1), .second, .val (.long z2), .second, .unset, .unset, .unset, .unset, .unset, .unset, .unset] [(.int (2 : Int32)), (.ref ra), (.ref ra)]))
  refine GoOn.step (fun t₀ k₀ => XS.lload X62.here hx rfl (hb hby at_101) rfl k₀) ?_
  show GoOn p e below _ (T62.setTop (mkF m 103 #[.val (.long q0), .second, .val (.long q1), .second, .val (.long q2), .second, .val (.long q3), .second, .val (.int q4), .val (.int q5), .val (.long x0), .second, .val (.long x1), .second, .val (.long x2), .second, .val (.long x3), .second, .val (.long y0), .second, .val (.long y2), .second, .val (.long y1), .second, .val (.long y3), .second, .val (.long z1), .second, .val (.long z2), .second, .unset, .unset, .unset, .unset, .unset, .unset, .unset] [(.long z2), (.int (2 : Int32)), (.ref ra), (.ref ra)]))
  obtain ⟨T63, h63, X63, e63, W63, st63⟩ := kStJ X62 hx hZ e62 J_ra (j := (2 : Int32)) ⟨by decide, by decide⟩ (g := (mkF m 103 #[.val (.long q0), .second, .val (.long q1), .second, .val (.long q2), .second, .val (.long q3), .second, .val (.int q4), .val (.int q5), .val (.long x0), .second, .val (.long x1), .second, .val (.long x2), .second, .val (.long x3), .second, .val (.long y0), .second, .val (.long y2), .second, .val (.long y1), .second, .val (.long y3), .second, .val (.long z1), .second, .val (.long z2), .second, .unset, .unset, .unset, .unset, .unset, .unset, .unset] [(.long z2), (.int (2 : Int32)), (.ref ra), (.ref ra)])) rfl rfl (hb hby at_103)
  replace N0 := Fr.snoc X63 N0 le_ra
  replace J_ra := J_ra.set W63
  replace Z0 := Nat.le_trans Z0 (Nat.le_of_eq W63.size.symm)
  refine GoOn.step st63 ?_
  show GoOn p e below _ (T63.setTop (mkF m 104 #[.val (.long q0), .second, .val (.long q1), .second, .val (.long q2), .second, .val (.long q3), .second, .val (.int q4), .val (.int q5), .val (.long x0), .second, .val (.long x1), .second, .val (.long x2), .second, .val (.long x3), .second, .val (.long y0), .second, .val (.long y2), .second, .val (.long y1), .second, .val (.long y3), .second, .val (.long z1), .second, .val (.long z2), .second, .unset, .unset, .unset, .unset, .unset, .unset, .unset] [(.ref ra)]))
  refine GoOn.step (fun t₀ k₀ => XS.dup X63.here hx rfl (hb hby at_104) rfl rfl k₀) ?_
  show GoOn p e below _ (T63.setTop (mkF m 105 #[.val (.long q0), .second, .val (.long q1), .second, .val (.long q2), .second, .val (.long q3), .second, .val (.int q4), .val (.int q5), .val (.long x0), .second, .val (.long x1), .second, .val (.long x2), .second, .val (.long x3), .second, .val (.long y0), .second, .val (.long y2), .second, .val (.long y1), .second, .val (.long y3), .second, .val (.long z1), .second, .val (.long z2), .second, .unset, .unset, .unset, .unset, .unset, .unset, .unset] [(.ref ra), (.ref ra)]))
  refine GoOn.step (fun t₀ k₀ => XS.iconst X63.here hx rfl (hb hby at_105) k₀) ?_
  show GoOn p e below _ (T63.setTop (mkF m 106 #[.val (.long q0), .second, .val (.long q1), .second, .val (.long q2), .second, .val (.long q3), .second, .val (.int q4), .val (.int q5), .val (.long x0), .second, .val (.long x1), .second, .val (.long x2), .second, .val (.long x3), .second, .val (.long y0), .second, .val (.long y2), .second, .val (.long y1), .second, .val (.long y3), .second, .val (.long z1), .second, .val (.long z2), .second, .unset, .unset, .unset, .unset, .unset, .unset, .unset] [(.int (3 : Int32)), (.ref ra), (.ref ra)]))
  refine GoOn.step (fun t₀ k₀ => XS.lload X63.here hx rfl (hb hby at_106) rfl k₀) ?_
  show GoOn p e below _ (T63.setTop (mkF m 108 #[.val (.long q0), .second, .val (.long q1), .second, .val (.long q2), .second, .val (.long q3), .second, .val (.int q4), .val (.int q5), .val (.long x0), .second, .val (.long x1), .second, .val (.long x2), .second, .val (.long x3), .second, .val (.long y0), .second, .val (.long y2), .second, .val (.long y1), .second, .val (.long y3), .second, .val (.long z1), .second, .val (.long z2), .second, .unset, .unset, .unset, .unset, .unset, .unset, .unset] [(.long y3), (.int (3 : Int32)), (.ref ra), (.ref ra)]))
  obtain ⟨T64, h64, X64, e64, W64, st64⟩ := kStJ X63 hx hZ e63 J_ra (j := (3 : Int32)) ⟨by decide, by decide⟩ (g := (mkF m 108 #[.val (.long q0), .second, .val (.long q1), .second, .val (.long q2), .second, .val (.long q3), .second, .val (.int q4), .val (.int q5), .val (.long x0), .second, .val (.long x1), .second, .val (.long x2), .second, .val (.long x3), .second, .val (.long y0), .second, .val (.long y2), .second, .val (.long y1), .second, .val (.long y3), .second, .val (.long z1), .second, .val (.long z2), .second, .unset, .unset, .unset, .unset, .unset, .unset, .unset] [(.long y3), (.int (3 : Int32)), (.ref ra), (.ref ra)])) rfl rfl (hb hby at_108)
  replace N0 := Fr.snoc X64 N0 le_ra
  replace J_ra := J_ra.set W64
  replace Z0 := Nat.le_trans Z0 (Nat.le_of_eq W64.size.symm)
  refine GoOn.step st64 ?_
  show GoOn p e below _ (T64.setTop (mkF m 109 #[.val (.long q0), .second, .val (.long q1), .second, .val (.long q2), .second, .val (.long q3), .second, .val (.int q4), .val (.int q5), .val (.long x0), .second, .val (.long x1), .second, .val (.long x2), .second, .val (.long x3), .second, .val (.long y0), .second, .val (.long y2), .second, .val (.long y1), .second, .val (.long y3), .second, .val (.long z1), .second, .val (.long z2), .second, .unset, .unset, .unset, .unset, .unset, .unset, .unset] [(.ref ra)]))
  replace J_ra : Jar Z h64 ra .long 4 (fun i => .long (R4 y0 z1 z2 y3 i)) := J_ra.congr (fun i hi => match i, hi with | 0, _ => rfl | 1, _ => rfl | 2, _ => rfl | 3, _ => rfl | k + 4, q => absurd q (by omega))
  refine GoOn.step (fun t₀ k₀ => XS.astore X64.here hx rfl (hb hby at_109) rfl rfl (l' := #[.val (.long q0), .second, .val (.long q1), .second, .val (.long q2), .second, .val (.long q3), .second, .val (.int q4), .val (.int q5), .val (.long x0), .second, .val (.long x1), .second, .val (.long x2), .second, .val (.long x3), .second, .val (.long y0), .second, .val (.long y2), .second, .val (.long y1), .second, .val (.long y3), .second, .val (.long z1), .second, .val (.long z2), .second, .val (.ref ra), .unset, .unset, .unset, .unset, .unset, .unset]) rfl k₀) ?_
  show GoOn p e below _ (T64.setTop (mkF m 111 #[.val (.long q0), .second, .val (.long q1), .second, .val (.long q2), .second, .val (.long q3), .second, .val (.int q4), .val (.int q5), .val (.long x0), .second, .val (.long x1), .second, .val (.long x2), .second, .val (.long x3), .second, .val (.long y0), .second, .val (.long y2), .second, .val (.long y1), .second, .val (.long y3), .second, .val (.long z1), .second, .val (.long z2), .second, .val (.ref ra), .unset, .unset, .unset, .unset, .unset, .unset] []))
  refine GoOn.step (fun t₀ k₀ => XS.iload X64.here hx rfl (hb hby at_111) rfl k₀) ?_
  show GoOn p e below _ (T64.setTop (mkF m 113 #[.val (.long q0), .second, .val (.long q1), .second, .val (.long q2), .second, .val (.long q3), .second, .val (.int q4), .val (.int q5), .val (.long x0), .second, .val (.long x1), .second, .val (.long x2), .second, .val (.long x3), .second, .val (.long y0), .second, .val (.long y2), .second, .val (.long y1), .second, .val (.long y3), .second, .val (.long z1), .second, .val (.long z2), .second, .val (.ref ra), .unset, .unset, .unset, .unset, .unset, .unset] [(.int q4)]))
  refine GoOn.step (fun t₀ k₀ => XS.bipush X64.here hx rfl (hb hby at_113) k₀) ?_
  show GoOn p e below _ (T64.setTop (mkF m 115 #[.val (.long q0), .second, .val (.long q1), .second, .val (.long q2), .second, .val (.long q3), .second, .val (.int q4), .val (.int q5), .val (.long x0), .second, .val (.long x1), .second, .val (.long x2), .second, .val (.long x3), .second, .val (.long y0), .second, .val (.long y2), .second, .val (.long y1), .second, .val (.long y3), .second, .val (.long z1), .second, .val (.long z2), .second, .val (.ref ra), .unset, .unset, .unset, .unset, .unset, .unset] [(.int (7 : Int32)), (.int q4)]))
  refine GoOn.step (fun t₀ k₀ => XS.iand X64.here hx rfl (hb hby at_115) rfl k₀) ?_
  show GoOn p e below _ (T64.setTop (mkF m 116 #[.val (.long q0), .second, .val (.long q1), .second, .val (.long q2), .second, .val (.long q3), .second, .val (.int q4), .val (.int q5), .val (.long x0), .second, .val (.long x1), .second, .val (.long x2), .second, .val (.long x3), .second, .val (.long y0), .second, .val (.long y2), .second, .val (.long y1), .second, .val (.long y3), .second, .val (.long z1), .second, .val (.long z2), .second, .val (.ref ra), .unset, .unset, .unset, .unset, .unset, .unset] [(.int (q4 &&& (7 : Int32)))]))
  have m7 : (q4 &&& (7 : Int32)).toInt = q4.toInt % 8 := c_mask q4 7 3 (by decide) (by decide)
  generalize hk : (q4 &&& (7 : Int32)) = k
  have hkI := congrArg Int32.toInt hk
  refine GoOn.step (fun t₀ k₀ => XS.istore X64.here hx rfl (hb hby at_116) rfl (l' := #[.val (.long q0), .second, .val (.long q1), .second, .val (.long q2), .second, .val (.long q3), .second, .val (.int q4), .val (.int q5), .val (.long x0), .second, .val (.long x1), .second, .val (.long x2), .second, .val (.long x3), .second, .val (.long y0), .second, .val (.long y2), .second, .val (.long y1), .second, .val (.long y3), .second, .val (.long z1), .second, .val (.long z2), .second, .val (.ref ra), .val (.int k), .unset, .unset, .unset, .unset, .unset]) rfl k₀) ?_
  show GoOn p e below _ (T64.setTop (mkF m 118 #[.val (.long q0), .second, .val (.long q1), .second, .val (.long q2), .second, .val (.long q3), .second, .val (.int q4), .val (.int q5), .val (.long x0), .second, .val (.long x1), .second, .val (.long x2), .second, .val (.long x3), .second, .val (.long y0), .second, .val (.long y2), .second, .val (.long y1), .second, .val (.long y3), .second, .val (.long z1), .second, .val (.long z2), .second, .val (.ref ra), .val (.int k), .unset, .unset, .unset, .unset, .unset] []))
  refine GoOn.step (fun t₀ k₀ => XS.iload X64.here hx rfl (hb hby at_118) rfl k₀) ?_
  show GoOn p e below _ (T64.setTop (mkF m 120 #[.val (.long q0), .second, .val (.long q1), .second, .val (.long q2), .second, .val (.long q3), .second, .val (.int q4), .val (.int q5), .val (.long x0), .second, .val (.long x1), .second, .val (.long x2), .second, .val (.long x3), .second, .val (.long y0), .second, .val (.long y2), .second, .val (.long y1), .second, .val (.long y3), .second, .val (.long z1), .second, .val (.long z2), .second, .val (.ref ra), .val (.int k), .unset, .unset, .unset, .unset, .unset] [(.int k)]))
  refine GoOn.step (fun t₀ k₀ => XS.iconst X64.here hx rfl (hb hby at_120) k₀) ?_
  show GoOn p e below _ (T64.setTop (mkF m 121 #[.val (.long q0), .second, .val (.long q1), .second, .val (.long q2), .second, .val (.long q3), .second, .val (.int q4), .val (.int q5), .val (.long x0), .second, .val (.long x1), .second, .val (.long x2), .second, .val (.long x3), .second, .val (.long y0), .second, .val (.long y2), .second, .val (.long y1), .second, .val (.long y3), .second, .val (.long z1), .second, .val (.long z2), .second, .val (.ref ra), .val (.int k), .unset, .unset, .unset, .unset, .unset] [(.int (5 : Int32)), (.int k)]))
  have Jl : ∀ (le : Int32) (_ : 0 ≤ le.toInt ∧ le.toInt ≤ 4), GoOn p e below (EndQ s room_1 (LQ n0)) (T64.setTop (mkF m 130 #[.val (.long q0), .second, .val (.long q1), .second, .val (.long q2), .second, .val (.long q3), .second, .val (.int q4), .val (.int q5), .val (.long x0), .second, .val (.long x1), .second, .val (.long x2), .second, .val (.long x3), .second, .val (.long y0), .second, .val (.long y2), .second, .val (.long y1), .second, .val (.long y3), .second, .val (.long z1), .second, .val (.long z2), .second, .val (.ref ra), .val (.int k), .unset, .unset, .unset, .unset, .unset] [(.int le)])) := by
    intro le hle
    refine GoOn.step (fun t₀ k₀ => XS.istore X64.here hx rfl (hb hby at_130) rfl (l' := #[.val (.long q0), .second, .val (.long q1), .second, .val (.long q2), .second, .val (.long q3), .second, .val (.int q4), .val (.int q5), .val (.long x0), .second, .val (.long x1), .second, .val (.long x2), .second, .val (.long x3), .second, .val (.long y0), .second, .val (.long y2), .second, .val (.long y1), .second, .val (.long y3), .second, .val (.long z1), .second, .val (.long z2), .second, .val (.ref ra), .val (.int k), .val (.int le), .unset, .unset, .unset, .unset]) rfl k₀) ?_
    show GoOn p e below _ (T64.setTop (mkF m 132 #[.val (.long q0), .second, .val (.long q1), .second, .val (.long q2), .second, .val (.long q3), .second, .val (.int q4), .val (.int q5), .val (.long x0), .second, .val (.long x1), .second, .val (.long x2), .second, .val (.long x3), .second, .val (.long y0), .second, .val (.long y2), .second, .val (.long y1), .second, .val (.long y3), .second, .val (.long z1), .second, .val (.long z2), .second, .val (.ref ra), .val (.int k), .val (.int le), .unset, .unset, .unset, .unset] []))
    refine GoOn.step (fun t₀ k₀ => XS.iload X64.here hx rfl (hb hby at_132) rfl k₀) ?_
    show GoOn p e below _ (T64.setTop (mkF m 134 #[.val (.long q0), .second, .val (.long q1), .second, .val (.long q2), .second, .val (.long q3), .second, .val (.int q4), .val (.int q5), .val (.long x0), .second, .val (.long x1), .second, .val (.long x2), .second, .val (.long x3), .second, .val (.long y0), .second, .val (.long y2), .second, .val (.long y1), .second, .val (.long y3), .second, .val (.long z1), .second, .val (.long z2), .second, .val (.ref ra), .val (.int k), .val (.int le), .unset, .unset, .unset, .unset] [(.int le)]))
    have JR : ∀ (v0 v1 v2 v3 : Int64) (T65 : State) (l65 : List Loc) (h65 : Heap) (_ : Stand p l e room_1 s m #[(.long q0), (.long q1), (.long q2), (.long q3), (.int q4), (.int q5)] below meth c T65 l65 1 4) (_ : T65.heap = h65) (_ : Fr n0 l65) (_ : n0 ≤ h65.size) (_ : Jar Z h65 ra .long 4 (fun i => .long (R4 v0 v1 v2 v3 i))) (_ : v0.toInt ≤ v1.toInt ∧ v1.toInt ≤ v2.toInt ∧ v2.toInt ≤ v3.toInt), GoOn p e below (EndQ s room_1 (LQ n0)) (T65.setTop (mkF m 183 #[.val (.long q0), .second, .val (.long q1), .second, .val (.long q2), .second, .val (.long q3), .second, .val (.int q4), .val (.int q5), .val (.long x0), .second, .val (.long x1), .second, .val (.long x2), .second, .val (.long x3), .second, .val (.long y0), .second, .val (.long y2), .second, .val (.long y1), .second, .val (.long y3), .second, .val (.long z1), .second, .val (.long z2), .second, .val (.ref ra), .val (.int k), .val (.int le), .unset, .unset, .unset, .unset] [])) := by
      intro v0 v1 v2 v3 T65 l65 h65 X65 e65 N0 Z0 J_ra hmo
      have hm := mono4 hmo
      refine GoOn.step (fun t₀ k₀ => XS.iload X65.here hx rfl (hb hby at_183) rfl k₀) ?_
      show GoOn p e below _ (T65.setTop (mkF m 185 #[.val (.long q0), .second, .val (.long q1), .second, .val (.long q2), .second, .val (.long q3), .second, .val (.int q4), .val (.int q5), .val (.long x0), .second, .val (.long x1), .second, .val (.long x2), .second, .val (.long x3), .second, .val (.long y0), .second, .val (.long y2), .second, .val (.long y1), .second, .val (.long y3), .second, .val (.long z1), .second, .val (.long z2), .second, .val (.ref ra), .val (.int k), .val (.int le), .unset, .unset, .unset, .unset] [(.int q4)]))
      refine GoOn.step (fun t₀ k₀ => XS.iconst X65.here hx rfl (hb hby at_185) k₀) ?_
      show GoOn p e below _ (T65.setTop (mkF m 186 #[.val (.long q0), .second, .val (.long q1), .second, .val (.long q2), .second, .val (.long q3), .second, .val (.int q4), .val (.int q5), .val (.long x0), .second, .val (.long x1), .second, .val (.long x2), .second, .val (.long x3), .second, .val (.long y0), .second, .val (.long y2), .second, .val (.long y1), .second, .val (.long y3), .second, .val (.long z1), .second, .val (.long z2), .second, .val (.ref ra), .val (.int k), .val (.int le), .unset, .unset, .unset, .unset] [(.int (3 : Int32)), (.int q4)]))
      refine GoOn.step (fun t₀ k₀ => XS.iushr X65.here hx rfl (hb hby at_186) rfl k₀) ?_
      show GoOn p e below _ (T65.setTop (mkF m 187 #[.val (.long q0), .second, .val (.long q1), .second, .val (.long q2), .second, .val (.long q3), .second, .val (.int q4), .val (.int q5), .val (.long x0), .second, .val (.long x1), .second, .val (.long x2), .second, .val (.long x3), .second, .val (.long y0), .second, .val (.long y2), .second, .val (.long y1), .second, .val (.long y3), .second, .val (.long z1), .second, .val (.long z2), .second, .val (.ref ra), .val (.int k), .val (.int le), .unset, .unset, .unset, .unset] [(.int ((q4.toUInt32 >>> ((3 : Int32) &&& 31).toUInt32).toInt32))]))
      refine GoOn.step (fun t₀ k₀ => XS.iconst X65.here hx rfl (hb hby at_187) k₀) ?_
      show GoOn p e below _ (T65.setTop (mkF m 188 #[.val (.long q0), .second, .val (.long q1), .second, .val (.long q2), .second, .val (.long q3), .second, .val (.int q4), .val (.int q5), .val (.long x0), .second, .val (.long x1), .second, .val (.long x2), .second, .val (.long x3), .second, .val (.long y0), .second, .val (.long y2), .second, .val (.long y1), .second, .val (.long y3), .second, .val (.long z1), .second, .val (.long z2), .second, .val (.ref ra), .val (.int k), .val (.int le), .unset, .unset, .unset, .unset] [(.int (3 : Int32)), (.int ((q4.toUInt32 >>> ((3 : Int32) &&& 31).toUInt32).toInt32))]))
      refine GoOn.step (fun t₀ k₀ => XS.iand X65.here hx rfl (hb hby at_188) rfl k₀) ?_
      show GoOn p e below _ (T65.setTop (mkF m 189 #[.val (.long q0), .second, .val (.long q1), .second, .val (.long q2), .second, .val (.long q3), .second, .val (.int q4), .val (.int q5), .val (.long x0), .second, .val (.long x1), .second, .val (.long x2), .second, .val (.long x3), .second, .val (.long y0), .second, .val (.long y2), .second, .val (.long y1), .second, .val (.long y3), .second, .val (.long z1), .second, .val (.long z2), .second, .val (.ref ra), .val (.int k), .val (.int le), .unset, .unset, .unset, .unset] [(.int (((q4.toUInt32 >>> ((3 : Int32) &&& 31).toUInt32).toInt32) &&& (3 : Int32)))]))
      have hm3 : (((q4.toUInt32 >>> ((3 : Int32) &&& 31).toUInt32).toInt32) &&& (3 : Int32)).toInt = (((q4.toUInt32 >>> ((3 : Int32) &&& 31).toUInt32).toInt32)).toInt % 4 := c_mask _ 3 2 (by decide) (by decide)
      generalize h_hs : (((q4.toUInt32 >>> ((3 : Int32) &&& 31).toUInt32).toInt32) &&& (3 : Int32)) = hs
      have h_hsI := congrArg Int32.toInt h_hs
      obtain ⟨HS, hHS, rfl⟩ : ∃ HS : Nat, HS ≤ 3 ∧ hs = Int32.ofNat HS := ⟨hs.toInt.toNat, by omega, Int32.toInt_inj.mp (by rw [on _ (by omega)]; omega)⟩
      show GoOn p e below _ (T65.setTop (mkF m 189 #[.val (.long q0), .second, .val (.long q1), .second, .val (.long q2), .second, .val (.long q3), .second, .val (.int q4), .val (.int q5), .val (.long x0), .second, .val (.long x1), .second, .val (.long x2), .second, .val (.long x3), .second, .val (.long y0), .second, .val (.long y2), .second, .val (.long y1), .second, .val (.long y3), .second, .val (.long z1), .second, .val (.long z2), .second, .val (.ref ra), .val (.int k), .val (.int le), .unset, .unset, .unset, .unset] [(.int (Int32.ofNat HS))]))
      refine GoOn.step (fun t₀ k₀ => XS.istore X65.here hx rfl (hb hby at_189) rfl (l' := #[.val (.long q0), .second, .val (.long q1), .second, .val (.long q2), .second, .val (.long q3), .second, .val (.int q4), .val (.int q5), .val (.long x0), .second, .val (.long x1), .second, .val (.long x2), .second, .val (.long x3), .second, .val (.long y0), .second, .val (.long y2), .second, .val (.long y1), .second, .val (.long y3), .second, .val (.long z1), .second, .val (.long z2), .second, .val (.ref ra), .val (.int k), .val (.int le), .val (.int (Int32.ofNat HS)), .unset, .unset, .unset]) rfl k₀) ?_
      show GoOn p e below _ (T65.setTop (mkF m 191 #[.val (.long q0), .second, .val (.long q1), .second, .val (.long q2), .second, .val (.long q3), .second, .val (.int q4), .val (.int q5), .val (.long x0), .second, .val (.long x1), .second, .val (.long x2), .second, .val (.long x3), .second, .val (.long y0), .second, .val (.long y2), .second, .val (.long y1), .second, .val (.long y3), .second, .val (.long z1), .second, .val (.long z2), .second, .val (.ref ra), .val (.int k), .val (.int le), .val (.int (Int32.ofNat HS)), .unset, .unset, .unset] []))
      refine GoOn.step (fun t₀ k₀ => XS.iload X65.here hx rfl (hb hby at_191) rfl k₀) ?_
      show GoOn p e below _ (T65.setTop (mkF m 193 #[.val (.long q0), .second, .val (.long q1), .second, .val (.long q2), .second, .val (.long q3), .second, .val (.int q4), .val (.int q5), .val (.long x0), .second, .val (.long x1), .second, .val (.long x2), .second, .val (.long x3), .second, .val (.long y0), .second, .val (.long y2), .second, .val (.long y1), .second, .val (.long y3), .second, .val (.long z1), .second, .val (.long z2), .second, .val (.ref ra), .val (.int k), .val (.int le), .val (.int (Int32.ofNat HS)), .unset, .unset, .unset] [(.int q5)]))
      refine GoOn.step (fun t₀ k₀ => XS.bipush X65.here hx rfl (hb hby at_193) k₀) ?_
      show GoOn p e below _ (T65.setTop (mkF m 195 #[.val (.long q0), .second, .val (.long q1), .second, .val (.long q2), .second, .val (.long q3), .second, .val (.int q4), .val (.int q5), .val (.long x0), .second, .val (.long x1), .second, .val (.long x2), .second, .val (.long x3), .second, .val (.long y0), .second, .val (.long y2), .second, .val (.long y1), .second, .val (.long y3), .second, .val (.long z1), .second, .val (.long z2), .second, .val (.ref ra), .val (.int k), .val (.int le), .val (.int (Int32.ofNat HS)), .unset, .unset, .unset] [(.int (7 : Int32)), (.int q5)]))
      refine GoOn.step (fun t₀ k₀ => XS.iand X65.here hx rfl (hb hby at_195) rfl k₀) ?_
      show GoOn p e below _ (T65.setTop (mkF m 196 #[.val (.long q0), .second, .val (.long q1), .second, .val (.long q2), .second, .val (.long q3), .second, .val (.int q4), .val (.int q5), .val (.long x0), .second, .val (.long x1), .second, .val (.long x2), .second, .val (.long x3), .second, .val (.long y0), .second, .val (.long y2), .second, .val (.long y1), .second, .val (.long y3), .second, .val (.long z1), .second, .val (.long z2), .second, .val (.ref ra), .val (.int k), .val (.int le), .val (.int (Int32.ofNat HS)), .unset, .unset, .unset] [(.int (q5 &&& (7 : Int32)))]))
      have hm7 : (q5 &&& (7 : Int32)).toInt = q5.toInt % 8 := c_mask q5 7 3 (by decide) (by decide)
      generalize h_he : (q5 &&& (7 : Int32)) = he
      have h_heI := congrArg Int32.toInt h_he
      obtain ⟨HE, hHE, rfl⟩ : ∃ HE : Nat, HE ≤ 7 ∧ he = Int32.ofNat HE := ⟨he.toInt.toNat, by omega, Int32.toInt_inj.mp (by rw [on _ (by omega)]; omega)⟩
      show GoOn p e below _ (T65.setTop (mkF m 196 #[.val (.long q0), .second, .val (.long q1), .second, .val (.long q2), .second, .val (.long q3), .second, .val (.int q4), .val (.int q5), .val (.long x0), .second, .val (.long x1), .second, .val (.long x2), .second, .val (.long x3), .second, .val (.long y0), .second, .val (.long y2), .second, .val (.long y1), .second, .val (.long y3), .second, .val (.long z1), .second, .val (.long z2), .second, .val (.ref ra), .val (.int k), .val (.int le), .val (.int (Int32.ofNat HS)), .unset, .unset, .unset] [(.int (Int32.ofNat HE))]))
      refine GoOn.step (fun t₀ k₀ => XS.istore X65.here hx rfl (hb hby at_196) rfl (l' := #[.val (.long q0), .second, .val (.long q1), .second, .val (.long q2), .second, .val (.long q3), .second, .val (.int q4), .val (.int q5), .val (.long x0), .second, .val (.long x1), .second, .val (.long x2), .second, .val (.long x3), .second, .val (.long y0), .second, .val (.long y2), .second, .val (.long y1), .second, .val (.long y3), .second, .val (.long z1), .second, .val (.long z2), .second, .val (.ref ra), .val (.int k), .val (.int le), .val (.int (Int32.ofNat HS)), .val (.int (Int32.ofNat HE)), .unset, .unset]) rfl k₀) ?_
      show GoOn p e below _ (T65.setTop (mkF m 198 #[.val (.long q0), .second, .val (.long q1), .second, .val (.long q2), .second, .val (.long q3), .second, .val (.int q4), .val (.int q5), .val (.long x0), .second, .val (.long x1), .second, .val (.long x2), .second, .val (.long x3), .second, .val (.long y0), .second, .val (.long y2), .second, .val (.long y1), .second, .val (.long y3), .second, .val (.long z1), .second, .val (.long z2), .second, .val (.ref ra), .val (.int k), .val (.int le), .val (.int (Int32.ofNat HS)), .val (.int (Int32.ofNat HE)), .unset, .unset] []))
      refine GoOn.step (fun t₀ k₀ => XS.bipush X65.here hx rfl (hb hby at_198) k₀) ?_
      show GoOn p e below _ (T65.setTop (mkF m 200 #[.val (.long q0), .second, .val (.long q1), .second, .val (.long q2), .second, .val (.long q3), .second, .val (.int q4), .val (.int q5), .val (.long x0), .second, .val (.long x1), .second, .val (.long x2), .second, .val (.long x3), .second, .val (.long y0), .second, .val (.long y2), .second, .val (.long y1), .second, .val (.long y3), .second, .val (.long z1), .second, .val (.long z2), .second, .val (.ref ra), .val (.int k), .val (.int le), .val (.int (Int32.ofNat HS)), .val (.int (Int32.ofNat HE)), .unset, .unset] [(.int (8 : Int32))]))
      obtain ⟨T76, h76, k76, X76, e76, E76, A76, st76⟩ := newP X65 hx hZ (hw _ (List.mem_of_getElem? (i := 7) rfl)) e65 (g := (mkF m 200 #[.val (.long q0), .second, .val (.long q1), .second, .val (.long q2), .second, .val (.long q3), .second, .val (.int q4), .val (.int q5), .val (.long x0), .second, .val (.long x1), .second, .val (.long x2), .second, .val (.long x3), .second, .val (.long y0), .second, .val (.long y2), .second, .val (.long y1), .second, .val (.long y3), .second, .val (.long z1), .second, .val (.long z2), .second, .val (.ref ra), .val (.int k), .val (.int le), .val (.int (Int32.ofNat HS)), .val (.int (Int32.ofNat HE)), .unset, .unset] [(.int (8 : Int32))])) rfl (hb hby at_200) rfl (by decide) (cap := 8) (by decide) (by decide) (by decide) (by decide)
      obtain ⟨o, g76⟩ : ∃ z, z = h65.size := ⟨_, rfl⟩
      rw [← g76] at A76 st76
      have lt_ra_o : ra < o := by rw [g76]; exact J_ra.lt
      have ne_ra_o : ra ≠ o := Nat.ne_of_lt lt_ra_o
      have le_o : n0 ≤ o := by rw [g76]; exact Z0
      replace J_ra := J_ra.ext E76
      replace Z0 := Nat.le_trans Z0 E76.1
      have J_o : Jar Z h76 o .long 8 (fun _ => defaultValue .long) := Jar.new A76 (by decide)
      refine GoOn.step st76 ?_
      show GoOn p e below _ (T76.setTop (mkF m 202 #[.val (.long q0), .second, .val (.long q1), .second, .val (.long q2), .second, .val (.long q3), .second, .val (.int q4), .val (.int q5), .val (.long x0), .second, .val (.long x1), .second, .val (.long x2), .second, .val (.long x3), .second, .val (.long y0), .second, .val (.long y2), .second, .val (.long y1), .second, .val (.long y3), .second, .val (.long z1), .second, .val (.long z2), .second, .val (.ref ra), .val (.int k), .val (.int le), .val (.int (Int32.ofNat HS)), .val (.int (Int32.ofNat HE)), .unset, .unset] [(.ref o)]))
      refine GoOn.step (fun t₀ k₀ => XS.dup X76.here hx rfl (hb hby at_202) rfl rfl k₀) ?_
      show GoOn p e below _ (T76.setTop (mkF m 203 #[.val (.long q0), .second, .val (.long q1), .second, .val (.long q2), .second, .val (.long q3), .second, .val (.int q4), .val (.int q5), .val (.long x0), .second, .val (.long x1), .second, .val (.long x2), .second, .val (.long x3), .second, .val (.long y0), .second, .val (.long y2), .second, .val (.long y1), .second, .val (.long y3), .second, .val (.long z1), .second, .val (.long z2), .second, .val (.ref ra), .val (.int k), .val (.int le), .val (.int (Int32.ofNat HS)), .val (.int (Int32.ofNat HE)), .unset, .unset] [(.ref o), (.ref o)]))
      refine GoOn.step (fun t₀ k₀ => XS.iconst X76.here hx rfl (hb hby at_203) k₀) ?_
      show GoOn p e below _ (T76.setTop (mkF m 204 #[.val (.long q0), .second, .val (.long q1), .second, .val (.long q2), .second, .val (.long q3), .second, .val (.int q4), .val (.int q5), .val (.long x0), .second, .val (.long x1), .second, .val (.long x2), .second, .val (.long x3), .second, .val (.long y0), .second, .val (.long y2), .second, .val (.long y1), .second, .val (.long y3), .second, .val (.long z1), .second, .val (.long z2), .second, .val (.ref ra), .val (.int k), .val (.int le), .val (.int (Int32.ofNat HS)), .val (.int (Int32.ofNat HE)), .unset, .unset] [(.int (0 : Int32)), (.ref o), (.ref o)]))
      refine GoOn.step (fun t₀ k₀ => X76.ldc2Long hx hown (mvT hZ (hw _ (List.mem_of_getElem? (i := 9) rfl))) (g := (mkF m 204 #[.val (.long q0), .second, .val (.long q1), .second, .val (.long q2), .second, .val (.long q3), .second, .val (.int q4), .val (.int q5), .val (.long x0), .second, .val (.long x1), .second, .val (.long x2), .second, .val (.long x3), .second, .val (.long y0), .second, .val (.long y2), .second, .val (.long y1), .second, .val (.long y3), .second, .val (.long z1), .second, .val (.long z2), .second, .val (.ref ra), .val (.int k), .val (.int le), .val (.int (Int32.ofNat HS)), .val (.int (Int32.ofNat HE)), .unset, .unset] [(.int (0 : Int32)), (.ref o), (.ref o)])) rfl (hb hby at_204) t₀ k₀) ?_
      show GoOn p e below _ (T76.setTop (mkF m 207 #[.val (.long q0), .second, .val (.long q1), .second, .val (.long q2), .second, .val (.long q3), .second, .val (.int q4), .val (.int q5), .val (.long x0), .second, .val (.long x1), .second, .val (.long x2), .second, .val (.long x3), .second, .val (.long y0), .second, .val (.long y2), .second, .val (.long y1), .second, .val (.long y3), .second, .val (.long z1), .second, .val (.long z2), .second, .val (.ref ra), .val (.int k), .val (.int le), .val (.int (Int32.ofNat HS)), .val (.int (Int32.ofNat HE)), .unset, .unset] [(.long (81985529216486895 : Int64)), (.int (0 : Int32)), (.ref o), (.ref o)]))
      obtain ⟨T77, h77, X77, e77, W77, st77⟩ := kStJ X76 hx hZ e76 J_o (j := (0 : Int32)) ⟨by decide, by decide⟩ (g := (mkF m 207 #[.val (.long q0), .second, .val (.long q1), .second, .val (.long q2), .second, .val (.long q3), .second, .val (.int q4), .val (.int q5), .val (.long x0), .second, .val (.long x1), .second, .val (.long x2), .second, .val (.long x3), .second, .val (.long y0), .second, .val (.long y2), .second, .val (.long y1), .second, .val (.long y3), .second, .val (.long z1), .second, .val (.long z2), .second, .val (.ref ra), .val (.int k), .val (.int le), .val (.int (Int32.ofNat HS)), .val (.int (Int32.ofNat HE)), .unset, .unset] [(.long (81985529216486895 : Int64)), (.int (0 : Int32)), (.ref o), (.ref o)])) rfl rfl (hb hby at_207)
      replace N0 := Fr.snoc X77 N0 le_o
      replace J_ra := J_ra.other W77 ne_ra_o
      replace J_o := J_o.set W77
      replace Z0 := Nat.le_trans Z0 (Nat.le_of_eq W77.size.symm)
      refine GoOn.step st77 ?_
      show GoOn p e below _ (T77.setTop (mkF m 208 #[.val (.long q0), .second, .val (.long q1), .second, .val (.long q2), .second, .val (.long q3), .second, .val (.int q4), .val (.int q5), .val (.long x0), .second, .val (.long x1), .second, .val (.long x2), .second, .val (.long x3), .second, .val (.long y0), .second, .val (.long y2), .second, .val (.long y1), .second, .val (.long y3), .second, .val (.long z1), .second, .val (.long z2), .second, .val (.ref ra), .val (.int k), .val (.int le), .val (.int (Int32.ofNat HS)), .val (.int (Int32.ofNat HE)), .unset, .unset] [(.ref o)]))
      refine GoOn.step (fun t₀ k₀ => XS.dup X77.here hx rfl (hb hby at_208) rfl rfl k₀) ?_
      show GoOn p e below _ (T77.setTop (mkF m 209 #[.val (.long q0), .second, .val (.long q1), .second, .val (.long q2), .second, .val (.long q3), .second, .val (.int q4), .val (.int q5), .val (.long x0), .second, .val (.long x1), .second, .val (.long x2), .second, .val (.long x3), .second, .val (.long y0), .second, .val (.long y2), .second, .val (.long y1), .second, .val (.long y3), .second, .val (.long z1), .second, .val (.long z2), .second, .val (.ref ra), .val (.int k), .val (.int le), .val (.int (Int32.ofNat HS)), .val (.int (Int32.ofNat HE)), .unset, .unset] [(.ref o), (.ref o)]))
      refine GoOn.step (fun t₀ k₀ => XS.iconst X77.here hx rfl (hb hby at_209) k₀) ?_
      show GoOn p e below _ (T77.setTop (mkF m 210 #[.val (.long q0), .second, .val (.long q1), .second, .val (.long q2), .second, .val (.long q3), .second, .val (.int q4), .val (.int q5), .val (.long x0), .second, .val (.long x1), .second, .val (.long x2), .second, .val (.long x3), .second, .val (.long y0), .second, .val (.long y2), .second, .val (.long y1), .second, .val (.long y3), .second, .val (.long z1), .second, .val (.long z2), .second, .val (.ref ra), .val (.int k), .val (.int le), .val (.int (Int32.ofNat HS)), .val (.int (Int32.ofNat HE)), .unset, .unset] [(.int (1 : Int32)), (.ref o), (.ref o)]))
      refine GoOn.step (fun t₀ k₀ => X77.ldc2Long hx hown (mvT hZ (hw _ (List.mem_of_getElem? (i := 9) rfl))) (g := (mkF m 210 #[.val (.long q0), .second, .val (.long q1), .second, .val (.long q2), .second, .val (.long q3), .second, .val (.int q4), .val (.int q5), .val (.long x0), .second, .val (.long x1), .second, .val (.long x2), .second, .val (.long x3), .second, .val (.long y0), .second, .val (.long y2), .second, .val (.long y1), .second, .val (.long y3), .second, .val (.long z1), .second, .val (.long z2), .second, .val (.ref ra), .val (.int k), .val (.int le), .val (.int (Int32.ofNat HS)), .val (.int (Int32.ofNat HE)), .unset, .unset] [(.int (1 : Int32)), (.ref o), (.ref o)])) rfl (hb hby at_210) t₀ k₀) ?_
      show GoOn p e below _ (T77.setTop (mkF m 213 #[.val (.long q0), .second, .val (.long q1), .second, .val (.long q2), .second, .val (.long q3), .second, .val (.int q4), .val (.int q5), .val (.long x0), .second, .val (.long x1), .second, .val (.long x2), .second, .val (.long x3), .second, .val (.long y0), .second, .val (.long y2), .second, .val (.long y1), .second, .val (.long y3), .second, .val (.long z1), .second, .val (.long z2), .second, .val (.ref ra), .val (.int k), .val (.int le), .val (.int (Int32.ofNat HS)), .val (.int (Int32.ofNat HE)), .unset, .unset] [(.long (81985529216486895 : Int64)), (.int (1 : Int32)), (.ref o), (.ref o)]))
      obtain ⟨T78, h78, X78, e78, W78, st78⟩ := kStJ X77 hx hZ e77 J_o (j := (1 : Int32)) ⟨by decide, by decide⟩ (g := (mkF m 213 #[.val (.long q0), .second, .val (.long q1), .second, .val (.long q2), .second, .val (.long q3), .second, .val (.int q4), .val (.int q5), .val (.long x0), .second, .val (.long x1), .second, .val (.long x2), .second, .val (.long x3), .second, .val (.long y0), .second, .val (.long y2), .second, .val (.long y1), .second, .val (.long y3), .second, .val (.long z1), .second, .val (.long z2), .second, .val (.ref ra), .val (.int k), .val (.int le), .val (.int (Int32.ofNat HS)), .val (.int (Int32.ofNat HE)), .unset, .unset] [(.long (81985529216486895 : Int64)), (.int (1 : Int32)), (.ref o), (.ref o)])) rfl rfl (hb hby at_213)
      replace N0 := Fr.snoc X78 N0 le_o
      replace J_ra := J_ra.other W78 ne_ra_o
      replace J_o := J_o.set W78
      replace Z0 := Nat.le_trans Z0 (Nat.le_of_eq W78.size.symm)
      refine GoOn.step st78 ?_
      show GoOn p e below _ (T78.setTop (mkF m 214 #[.val (.long q0), .second, .val (.long q1), .second, .val (.long q2), .second, .val (.long q3), .second, .val (.int q4), .val (.int q5), .val (.long x0), .second, .val (.long x1), .second, .val (.long x2), .second, .val (.long x3), .second, .val (.long y0), .second, .val (.long y2), .second, .val (.long y1), .second, .val (.long y3), .second, .val (.long z1), .second, .val (.long z2), .second, .val (.ref ra), .val (.int k), .val (.int le), .val (.int (Int32.ofNat HS)), .val (.int (Int32.ofNat HE)), .unset, .unset] [(.ref o)]))
      refine GoOn.step (fun t₀ k₀ => XS.dup X78.here hx rfl (hb hby at_214) rfl rfl k₀) ?_
      show GoOn p e below _ (T78.setTop (mkF m 215 #[.val (.long q0), .second, .val (.long q1), .second, .val (.long q2), .second, .val (.long q3), .second, .val (.int q4), .val (.int q5), .val (.long x0), .second, .val (.long x1), .second, .val (.long x2), .second, .val (.long x3), .second, .val (.long y0), .second, .val (.long y2), .second, .val (.long y1), .second, .val (.long y3), .second, .val (.long z1), .second, .val (.long z2), .second, .val (.ref ra), .val (.int k), .val (.int le), .val (.int (Int32.ofNat HS)), .val (.int (Int32.ofNat HE)), .unset, .unset] [(.ref o), (.ref o)]))
      refine GoOn.step (fun t₀ k₀ => XS.iconst X78.here hx rfl (hb hby at_215) k₀) ?_
      show GoOn p e below _ (T78.setTop (mkF m 216 #[.val (.long q0), .second, .val (.long q1), .second, .val (.long q2), .second, .val (.long q3), .second, .val (.int q4), .val (.int q5), .val (.long x0), .second, .val (.long x1), .second, .val (.long x2), .second, .val (.long x3), .second, .val (.long y0), .second, .val (.long y2), .second, .val (.long y1), .second, .val (.long y3), .second, .val (.long z1), .second, .val (.long z2), .second, .val (.ref ra), .val (.int k), .val (.int le), .val (.int (Int32.ofNat HS)), .val (.int (Int32.ofNat HE)), .unset, .unset] [(.int (2 : Int32)), (.ref o), (.ref o)]))
      refine GoOn.step (fun t₀ k₀ => X78.ldc2Long hx hown (mvT hZ (hw _ (List.mem_of_getElem? (i := 9) rfl))) (g := (mkF m 216 #[.val (.long q0), .second, .val (.long q1), .second, .val (.long q2), .second, .val (.long q3), .second, .val (.int q4), .val (.int q5), .val (.long x0), .second, .val (.long x1), .second, .val (.long x2), .second, .val (.long x3), .second, .val (.long y0), .second, .val (.long y2), .second, .val (.long y1), .second, .val (.long y3), .second, .val (.long z1), .second, .val (.long z2), .second, .val (.ref ra), .val (.int k), .val (.int le), .val (.int (Int32.ofNat HS)), .val (.int (Int32.ofNat HE)), .unset, .unset] [(.int (2 : Int32)), (.ref o), (.ref o)])) rfl (hb hby at_216) t₀ k₀) ?_
      show GoOn p e below _ (T78.setTop (mkF m 219 #[.val (.long q0), .second, .val (.long q1), .second, .val (.long q2), .second, .val (.long q3), .second, .val (.int q4), .val (.int q5), .val (.long x0), .second, .val (.long x1), .second, .val (.long x2), .second, .val (.long x3), .second, .val (.long y0), .second, .val (.long y2), .second, .val (.long y1), .second, .val (.long y3), .second, .val (.long z1), .second, .val (.long z2), .second, .val (.ref ra), .val (.int k), .val (.int le), .val (.int (Int32.ofNat HS)), .val (.int (Int32.ofNat HE)), .unset, .unset] [(.long (81985529216486895 : Int64)), (.int (2 : Int32)), (.ref o), (.ref o)]))
      obtain ⟨T79, h79, X79, e79, W79, st79⟩ := kStJ X78 hx hZ e78 J_o (j := (2 : Int32)) ⟨by decide, by decide⟩ (g := (mkF m 219 #[.val (.long q0), .second, .val (.long q1), .second, .val (.long q2), .second, .val (.long q3), .second, .val (.int q4), .val (.int q5), .val (.long x0), .second, .val (.long x1), .second, .val (.long x2), .second, .val (.long x3), .second, .val (.long y0), .second, .val (.long y2), .second, .val (.long y1), .second, .val (.long y3), .second, .val (.long z1), .second, .val (.long z2), .second, .val (.ref ra), .val (.int k), .val (.int le), .val (.int (Int32.ofNat HS)), .val (.int (Int32.ofNat HE)), .unset, .unset] [(.long (81985529216486895 : Int64)), (.int (2 : Int32)), (.ref o), (.ref o)])) rfl rfl (hb hby at_219)
      replace N0 := Fr.snoc X79 N0 le_o
      replace J_ra := J_ra.other W79 ne_ra_o
      replace J_o := J_o.set W79
      replace Z0 := Nat.le_trans Z0 (Nat.le_of_eq W79.size.symm)
      refine GoOn.step st79 ?_
      show GoOn p e below _ (T79.setTop (mkF m 220 #[.val (.long q0), .second, .val (.long q1), .second, .val (.long q2), .second, .val (.long q3), .second, .val (.int q4), .val (.int q5), .val (.long x0), .second, .val (.long x1), .second, .val (.long x2), .second, .val (.long x3), .second, .val (.long y0), .second, .val (.long y2), .second, .val (.long y1), .second, .val (.long y3), .second, .val (.long z1), .second, .val (.long z2), .second, .val (.ref ra), .val (.int k), .val (.int le), .val (.int (Int32.ofNat HS)), .val (.int (Int32.ofNat HE)), .unset, .unset] [(.ref o)]))
      refine GoOn.step (fun t₀ k₀ => XS.dup X79.here hx rfl (hb hby at_220) rfl rfl k₀) ?_
      show GoOn p e below _ (T79.setTop (mkF m 221 #[.val (.long q0), .second, .val (.long q1), .second, .val (.long q2), .second, .val (.long q3), .second, .val (.int q4), .val (.int q5), .val (.long x0), .second, .val (.long x1), .second, .val (.long x2), .second, .val (.long x3), .second, .val (.long y0), .second, .val (.long y2), .second, .val (.long y1), .second, .val (.long y3), .second, .val (.long z1), .second, .val (.long z2), .second, .val (.ref ra), .val (.int k), .val (.int le), .val (.int (Int32.ofNat HS)), .val (.int (Int32.ofNat HE)), .unset, .unset] [(.ref o), (.ref o)]))
      refine GoOn.step (fun t₀ k₀ => XS.iconst X79.here hx rfl (hb hby at_221) k₀) ?_
      show GoOn p e below _ (T79.setTop (mkF m 222 #[.val (.long q0), .second, .val (.long q1), .second, .val (.long q2), .second, .val (.long q3), .second, .val (.int q4), .val (.int q5), .val (.long x0), .second, .val (.long x1), .second, .val (.long x2), .second, .val (.long x3), .second, .val (.long y0), .second, .val (.long y2), .second, .val (.long y1), .second, .val (.long y3), .second, .val (.long z1), .second, .val (.long z2), .second, .val (.ref ra), .val (.int k), .val (.int le), .val (.int (Int32.ofNat HS)), .val (.int (Int32.ofNat HE)), .unset, .unset] [(.int (3 : Int32)), (.ref o), (.ref o)]))
      refine GoOn.step (fun t₀ k₀ => X79.ldc2Long hx hown (mvT hZ (hw _ (List.mem_of_getElem? (i := 9) rfl))) (g := (mkF m 222 #[.val (.long q0), .second, .val (.long q1), .second, .val (.long q2), .second, .val (.long q3), .second, .val (.int q4), .val (.int q5), .val (.long x0), .second, .val (.long x1), .second, .val (.long x2), .second, .val (.long x3), .second, .val (.long y0), .second, .val (.long y2), .second, .val (.long y1), .second, .val (.long y3), .second, .val (.long z1), .second, .val (.long z2), .second, .val (.ref ra), .val (.int k), .val (.int le), .val (.int (Int32.ofNat HS)), .val (.int (Int32.ofNat HE)), .unset, .unset] [(.int (3 : Int32)), (.ref o), (.ref o)])) rfl (hb hby at_222) t₀ k₀) ?_
      show GoOn p e below _ (T79.setTop (mkF m 225 #[.val (.long q0), .second, .val (.long q1), .second, .val (.long q2), .second, .val (.long q3), .second, .val (.int q4), .val (.int q5), .val (.long x0), .second, .val (.long x1), .second, .val (.long x2), .second, .val (.long x3), .second, .val (.long y0), .second, .val (.long y2), .second, .val (.long y1), .second, .val (.long y3), .second, .val (.long z1), .second, .val (.long z2), .second, .val (.ref ra), .val (.int k), .val (.int le), .val (.int (Int32.ofNat HS)), .val (.int (Int32.ofNat HE)), .unset, .unset] [(.long (81985529216486895 : Int64)), (.int (3 : Int32)), (.ref o), (.ref o)]))
      obtain ⟨T80, h80, X80, e80, W80, st80⟩ := kStJ X79 hx hZ e79 J_o (j := (3 : Int32)) ⟨by decide, by decide⟩ (g := (mkF m 225 #[.val (.long q0), .second, .val (.long q1), .second, .val (.long q2), .second, .val (.long q3), .second, .val (.int q4), .val (.int q5), .val (.long x0), .second, .val (.long x1), .second, .val (.long x2), .second, .val (.long x3), .second, .val (.long y0), .second, .val (.long y2), .second, .val (.long y1), .second, .val (.long y3), .second, .val (.long z1), .second, .val (.long z2), .second, .val (.ref ra), .val (.int k), .val (.int le), .val (.int (Int32.ofNat HS)), .val (.int (Int32.ofNat HE)), .unset, .unset] [(.long (81985529216486895 : Int64)), (.int (3 : Int32)), (.ref o), (.ref o)])) rfl rfl (hb hby at_225)
      replace N0 := Fr.snoc X80 N0 le_o
      replace J_ra := J_ra.other W80 ne_ra_o
      replace J_o := J_o.set W80
      replace Z0 := Nat.le_trans Z0 (Nat.le_of_eq W80.size.symm)
      refine GoOn.step st80 ?_
      show GoOn p e below _ (T80.setTop (mkF m 226 #[.val (.long q0), .second, .val (.long q1), .second, .val (.long q2), .second, .val (.long q3), .second, .val (.int q4), .val (.int q5), .val (.long x0), .second, .val (.long x1), .second, .val (.long x2), .second, .val (.long x3), .second, .val (.long y0), .second, .val (.long y2), .second, .val (.long y1), .second, .val (.long y3), .second, .val (.long z1), .second, .val (.long z2), .second, .val (.ref ra), .val (.int k), .val (.int le), .val (.int (Int32.ofNat HS)), .val (.int (Int32.ofNat HE)), .unset, .unset] [(.ref o)]))
      refine GoOn.step (fun t₀ k₀ => XS.dup X80.here hx rfl (hb hby at_226) rfl rfl k₀) ?_
      show GoOn p e below _ (T80.setTop (mkF m 227 #[.val (.long q0), .second, .val (.long q1), .second, .val (.long q2), .second, .val (.long q3), .second, .val (.int q4), .val (.int q5), .val (.long x0), .second, .val (.long x1), .second, .val (.long x2), .second, .val (.long x3), .second, .val (.long y0), .second, .val (.long y2), .second, .val (.long y1), .second, .val (.long y3), .second, .val (.long z1), .second, .val (.long z2), .second, .val (.ref ra), .val (.int k), .val (.int le), .val (.int (Int32.ofNat HS)), .val (.int (Int32.ofNat HE)), .unset, .unset] [(.ref o), (.ref o)]))
      refine GoOn.step (fun t₀ k₀ => XS.iconst X80.here hx rfl (hb hby at_227) k₀) ?_
      show GoOn p e below _ (T80.setTop (mkF m 228 #[.val (.long q0), .second, .val (.long q1), .second, .val (.long q2), .second, .val (.long q3), .second, .val (.int q4), .val (.int q5), .val (.long x0), .second, .val (.long x1), .second, .val (.long x2), .second, .val (.long x3), .second, .val (.long y0), .second, .val (.long y2), .second, .val (.long y1), .second, .val (.long y3), .second, .val (.long z1), .second, .val (.long z2), .second, .val (.ref ra), .val (.int k), .val (.int le), .val (.int (Int32.ofNat HS)), .val (.int (Int32.ofNat HE)), .unset, .unset] [(.int (4 : Int32)), (.ref o), (.ref o)]))
      refine GoOn.step (fun t₀ k₀ => X80.ldc2Long hx hown (mvT hZ (hw _ (List.mem_of_getElem? (i := 9) rfl))) (g := (mkF m 228 #[.val (.long q0), .second, .val (.long q1), .second, .val (.long q2), .second, .val (.long q3), .second, .val (.int q4), .val (.int q5), .val (.long x0), .second, .val (.long x1), .second, .val (.long x2), .second, .val (.long x3), .second, .val (.long y0), .second, .val (.long y2), .second, .val (.long y1), .second, .val (.long y3), .second, .val (.long z1), .second, .val (.long z2), .second, .val (.ref ra), .val (.int k), .val (.int le), .val (.int (Int32.ofNat HS)), .val (.int (Int32.ofNat HE)), .unset, .unset] [(.int (4 : Int32)), (.ref o), (.ref o)])) rfl (hb hby at_228) t₀ k₀) ?_
      show GoOn p e below _ (T80.setTop (mkF m 231 #[.val (.long q0), .second, .val (.long q1), .second, .val (.long q2), .second, .val (.long q3), .second, .val (.int q4), .val (.int q5), .val (.long x0), .second, .val (.long x1), .second, .val (.long x2), .second, .val (.long x3), .second, .val (.long y0), .second, .val (.long y2), .second, .val (.long y1), .second, .val (.long y3), .second, .val (.long z1), .second, .val (.long z2), .second, .val (.ref ra), .val (.int k), .val (.int le), .val (.int (Int32.ofNat HS)), .val (.int (Int32.ofNat HE)), .unset, .unset] [(.long (81985529216486895 : Int64)), (.int (4 : Int32)), (.ref o), (.ref o)]))
      obtain ⟨T81, h81, X81, e81, W81, st81⟩ := kStJ X80 hx hZ e80 J_o (j := (4 : Int32)) ⟨by decide, by decide⟩ (g := (mkF m 231 #[.val (.long q0), .second, .val (.long q1), .second, .val (.long q2), .second, .val (.long q3), .second, .val (.int q4), .val (.int q5), .val (.long x0), .second, .val (.long x1), .second, .val (.long x2), .second, .val (.long x3), .second, .val (.long y0), .second, .val (.long y2), .second, .val (.long y1), .second, .val (.long y3), .second, .val (.long z1), .second, .val (.long z2), .second, .val (.ref ra), .val (.int k), .val (.int le), .val (.int (Int32.ofNat HS)), .val (.int (Int32.ofNat HE)), .unset, .unset] [(.long (81985529216486895 : Int64)), (.int (4 : Int32)), (.ref o), (.ref o)])) rfl rfl (hb hby at_231)
      replace N0 := Fr.snoc X81 N0 le_o
      replace J_ra := J_ra.other W81 ne_ra_o
      replace J_o := J_o.set W81
      replace Z0 := Nat.le_trans Z0 (Nat.le_of_eq W81.size.symm)
      refine GoOn.step st81 ?_
      show GoOn p e below _ (T81.setTop (mkF m 232 #[.val (.long q0), .second, .val (.long q1), .second, .val (.long q2), .second, .val (.long q3), .second, .val (.int q4), .val (.int q5), .val (.long x0), .second, .val (.long x1), .second, .val (.long x2), .second, .val (.long x3), .second, .val (.long y0), .second, .val (.long y2), .second, .val (.long y1), .second, .val (.long y3), .second, .val (.long z1), .second, .val (.long z2), .second, .val (.ref ra), .val (.int k), .val (.int le), .val (.int (Int32.ofNat HS)), .val (.int (Int32.ofNat HE)), .unset, .unset] [(.ref o)]))
      refine GoOn.step (fun t₀ k₀ => XS.dup X81.here hx rfl (hb hby at_232) rfl rfl k₀) ?_
      show GoOn p e below _ (T81.setTop (mkF m 233 #[.val (.long q0), .second, .val (.long q1), .second, .val (.long q2), .second, .val (.long q3), .second, .val (.int q4), .val (.int q5), .val (.long x0), .second, .val (.long x1), .second, .val (.long x2), .second, .val (.long x3), .second, .val (.long y0), .second, .val (.long y2), .second, .val (.long y1), .second, .val (.long y3), .second, .val (.long z1), .second, .val (.long z2), .second, .val (.ref ra), .val (.int k), .val (.int le), .val (.int (Int32.ofNat HS)), .val (.int (Int32.ofNat HE)), .unset, .unset] [(.ref o), (.ref o)]))
      refine GoOn.step (fun t₀ k₀ => XS.iconst X81.here hx rfl (hb hby at_233) k₀) ?_
      show GoOn p e below _ (T81.setTop (mkF m 234 #[.val (.long q0), .second, .val (.long q1), .second, .val (.long q2), .second, .val (.long q3), .second, .val (.int q4), .val (.int q5), .val (.long x0), .second, .val (.long x1), .second, .val (.long x2), .second, .val (.long x3), .second, .val (.long y0), .second, .val (.long y2), .second, .val (.long y1), .second, .val (.long y3), .second, .val (.long z1), .second, .val (.long z2), .second, .val (.ref ra), .val (.int k), .val (.int le), .val (.int (Int32.ofNat HS)), .val (.int (Int32.ofNat HE)), .unset, .unset] [(.int (5 : Int32)), (.ref o), (.ref o)]))
      refine GoOn.step (fun t₀ k₀ => X81.ldc2Long hx hown (mvT hZ (hw _ (List.mem_of_getElem? (i := 9) rfl))) (g := (mkF m 234 #[.val (.long q0), .second, .val (.long q1), .second, .val (.long q2), .second, .val (.long q3), .second, .val (.int q4), .val (.int q5), .val (.long x0), .second, .val (.long x1), .second, .val (.long x2), .second, .val (.long x3), .second, .val (.long y0), .second, .val (.long y2), .second, .val (.long y1), .second, .val (.long y3), .second, .val (.long z1), .second, .val (.long z2), .second, .val (.ref ra), .val (.int k), .val (.int le), .val (.int (Int32.ofNat HS)), .val (.int (Int32.ofNat HE)), .unset, .unset] [(.int (5 : Int32)), (.ref o), (.ref o)])) rfl (hb hby at_234) t₀ k₀) ?_
      show GoOn p e below _ (T81.setTop (mkF m 237 #[.val (.long q0), .second, .val (.long q1), .second, .val (.long q2), .second, .val (.long q3), .second, .val (.int q4), .val (.int q5), .val (.long x0), .second, .val (.long x1), .second, .val (.long x2), .second, .val (.long x3), .second, .val (.long y0), .second, .val (.long y2), .second, .val (.long y1), .second, .val (.long y3), .second, .val (.long z1), .second, .val (.long z2), .second, .val (.ref ra), .val (.int k), .val (.int le), .val (.int (Int32.ofNat HS)), .val (.int (Int32.ofNat HE)), .unset, .unset] [(.long (81985529216486895 : Int64)), (.int (5 : Int32)), (.ref o), (.ref o)]))
      obtain ⟨T82, h82, X82, e82, W82, st82⟩ := kStJ X81 hx hZ e81 J_o (j := (5 : Int32)) ⟨by decide, by decide⟩ (g := (mkF m 237 #[.val (.long q0), .second, .val (.long q1), .second, .val (.long q2), .second, .val (.long q3), .second, .val (.int q4), .val (.int q5), .val (.long x0), .second, .val (.long x1), .second, .val (.long x2), .second, .val (.long x3), .second, .val (.long y0), .second, .val (.long y2), .second, .val (.long y1), .second, .val (.long y3), .second, .val (.long z1), .second, .val (.long z2), .second, .val (.ref ra), .val (.int k), .val (.int le), .val (.int (Int32.ofNat HS)), .val (.int (Int32.ofNat HE)), .unset, .unset] [(.long (81985529216486895 : Int64)), (.int (5 : Int32)), (.ref o), (.ref o)])) rfl rfl (hb hby at_237)
      replace N0 := Fr.snoc X82 N0 le_o
      replace J_ra := J_ra.other W82 ne_ra_o
      replace J_o := J_o.set W82
      replace Z0 := Nat.le_trans Z0 (Nat.le_of_eq W82.size.symm)
      refine GoOn.step st82 ?_
      show GoOn p e below _ (T82.setTop (mkF m 238 #[.val (.long q0), .second, .val (.long q1), .second, .val (.long q2), .second, .val (.long q3), .second, .val (.int q4), .val (.int q5), .val (.long x0), .second, .val (.long x1), .second, .val (.long x2), .second, .val (.long x3), .second, .val (.long y0), .second, .val (.long y2), .second, .val (.long y1), .second, .val (.long y3), .second, .val (.long z1), .second, .val (.long z2), .second, .val (.ref ra), .val (.int k), .val (.int le), .val (.int (Int32.ofNat HS)), .val (.int (Int32.ofNat HE)), .unset, .unset] [(.ref o)]))
      refine GoOn.step (fun t₀ k₀ => XS.dup X82.here hx rfl (hb hby at_238) rfl rfl k₀) ?_
      show GoOn p e below _ (T82.setTop (mkF m 239 #[.val (.long q0), .second, .val (.long q1), .second, .val (.long q2), .second, .val (.long q3), .second, .val (.int q4), .val (.int q5), .val (.long x0), .second, .val (.long x1), .second, .val (.long x2), .second, .val (.long x3), .second, .val (.long y0), .second, .val (.long y2), .second, .val (.long y1), .second, .val (.long y3), .second, .val (.long z1), .second, .val (.long z2), .second, .val (.ref ra), .val (.int k), .val (.int le), .val (.int (Int32.ofNat HS)), .val (.int (Int32.ofNat HE)), .unset, .unset] [(.ref o), (.ref o)]))
      refine GoOn.step (fun t₀ k₀ => XS.bipush X82.here hx rfl (hb hby at_239) k₀) ?_
      show GoOn p e below _ (T82.setTop (mkF m 241 #[.val (.long q0), .second, .val (.long q1), .second, .val (.long q2), .second, .val (.long q3), .second, .val (.int q4), .val (.int q5), .val (.long x0), .second, .val (.long x1), .second, .val (.long x2), .second, .val (.long x3), .second, .val (.long y0), .second, .val (.long y2), .second, .val (.long y1), .second, .val (.long y3), .second, .val (.long z1), .second, .val (.long z2), .second, .val (.ref ra), .val (.int k), .val (.int le), .val (.int (Int32.ofNat HS)), .val (.int (Int32.ofNat HE)), .unset, .unset] [(.int (6 : Int32)), (.ref o), (.ref o)]))
      refine GoOn.step (fun t₀ k₀ => X82.ldc2Long hx hown (mvT hZ (hw _ (List.mem_of_getElem? (i := 9) rfl))) (g := (mkF m 241 #[.val (.long q0), .second, .val (.long q1), .second, .val (.long q2), .second, .val (.long q3), .second, .val (.int q4), .val (.int q5), .val (.long x0), .second, .val (.long x1), .second, .val (.long x2), .second, .val (.long x3), .second, .val (.long y0), .second, .val (.long y2), .second, .val (.long y1), .second, .val (.long y3), .second, .val (.long z1), .second, .val (.long z2), .second, .val (.ref ra), .val (.int k), .val (.int le), .val (.int (Int32.ofNat HS)), .val (.int (Int32.ofNat HE)), .unset, .unset] [(.int (6 : Int32)), (.ref o), (.ref o)])) rfl (hb hby at_241) t₀ k₀) ?_
      show GoOn p e below _ (T82.setTop (mkF m 244 #[.val (.long q0), .second, .val (.long q1), .second, .val (.long q2), .second, .val (.long q3), .second, .val (.int q4), .val (.int q5), .val (.long x0), .second, .val (.long x1), .second, .val (.long x2), .second, .val (.long x3), .second, .val (.long y0), .second, .val (.long y2), .second, .val (.long y1), .second, .val (.long y3), .second, .val (.long z1), .second, .val (.long z2), .second, .val (.ref ra), .val (.int k), .val (.int le), .val (.int (Int32.ofNat HS)), .val (.int (Int32.ofNat HE)), .unset, .unset] [(.long (81985529216486895 : Int64)), (.int (6 : Int32)), (.ref o), (.ref o)]))
      obtain ⟨T83, h83, X83, e83, W83, st83⟩ := kStJ X82 hx hZ e82 J_o (j := (6 : Int32)) ⟨by decide, by decide⟩ (g := (mkF m 244 #[.val (.long q0), .second, .val (.long q1), .second, .val (.long q2), .second, .val (.long q3), .second, .val (.int q4), .val (.int q5), .val (.long x0), .second, .val (.long x1), .second, .val (.long x2), .second, .val (.long x3), .second, .val (.long y0), .second, .val (.long y2), .second, .val (.long y1), .second, .val (.long y3), .second, .val (.long z1), .second, .val (.long z2), .second, .val (.ref ra), .val (.int k), .val (.int le), .val (.int (Int32.ofNat HS)), .val (.int (Int32.ofNat HE)), .unset, .unset] [(.long (81985529216486895 : Int64)), (.int (6 : Int32)), (.ref o), (.ref o)])) rfl rfl (hb hby at_244)
      replace N0 := Fr.snoc X83 N0 le_o
      replace J_ra := J_ra.other W83 ne_ra_o
      replace J_o := J_o.set W83
      replace Z0 := Nat.le_trans Z0 (Nat.le_of_eq W83.size.symm)
      refine GoOn.step st83 ?_
      show GoOn p e below _ (T83.setTop (mkF m 245 #[.val (.long q0), .second, .val (.long q1), .second, .val (.long q2), .second, .val (.long q3), .second, .val (.int q4), .val (.int q5), .val (.long x0), .second, .val (.long x1), .second, .val (.long x2), .second, .val (.long x3), .second, .val (.long y0), .second, .val (.long y2), .second, .val (.long y1), .second, .val (.long y3), .second, .val (.long z1), .second, .val (.long z2), .second, .val (.ref ra), .val (.int k), .val (.int le), .val (.int (Int32.ofNat HS)), .val (.int (Int32.ofNat HE)), .unset, .unset] [(.ref o)]))
      refine GoOn.step (fun t₀ k₀ => XS.dup X83.here hx rfl (hb hby at_245) rfl rfl k₀) ?_
      show GoOn p e below _ (T83.setTop (mkF m 246 #[.val (.long q0), .second, .val (.long q1), .second, .val (.long q2), .second, .val (.long q3), .second, .val (.int q4), .val (.int q5), .val (.long x0), .second, .val (.long x1), .second, .val (.long x2), .second, .val (.long x3), .second, .val (.long y0), .second, .val (.long y2), .second, .val (.long y1), .second, .val (.long y3), .second, .val (.long z1), .second, .val (.long z2), .second, .val (.ref ra), .val (.int k), .val (.int le), .val (.int (Int32.ofNat HS)), .val (.int (Int32.ofNat HE)), .unset, .unset] [(.ref o), (.ref o)]))
      refine GoOn.step (fun t₀ k₀ => XS.bipush X83.here hx rfl (hb hby at_246) k₀) ?_
      show GoOn p e below _ (T83.setTop (mkF m 248 #[.val (.long q0), .second, .val (.long q1), .second, .val (.long q2), .second, .val (.long q3), .second, .val (.int q4), .val (.int q5), .val (.long x0), .second, .val (.long x1), .second, .val (.long x2), .second, .val (.long x3), .second, .val (.long y0), .second, .val (.long y2), .second, .val (.long y1), .second, .val (.long y3), .second, .val (.long z1), .second, .val (.long z2), .second, .val (.ref ra), .val (.int k), .val (.int le), .val (.int (Int32.ofNat HS)), .val (.int (Int32.ofNat HE)), .unset, .unset] [(.int (7 : Int32)), (.ref o), (.ref o)]))
      refine GoOn.step (fun t₀ k₀ => X83.ldc2Long hx hown (mvT hZ (hw _ (List.mem_of_getElem? (i := 9) rfl))) (g := (mkF m 248 #[.val (.long q0), .second, .val (.long q1), .second, .val (.long q2), .second, .val (.long q3), .second, .val (.int q4), .val (.int q5), .val (.long x0), .second, .val (.long x1), .second, .val (.long x2), .second, .val (.long x3), .second, .val (.long y0), .second, .val (.long y2), .second, .val (.long y1), .second, .val (.long y3), .second, .val (.long z1), .second, .val (.long z2), .second, .val (.ref ra), .val (.int k), .val (.int le), .val (.int (Int32.ofNat HS)), .val (.int (Int32.ofNat HE)), .unset, .unset] [(.int (7 : Int32)), (.ref o), (.ref o)])) rfl (hb hby at_248) t₀ k₀) ?_
      show GoOn p e below _ (T83.setTop (mkF m 251 #[.val (.long q0), .second, .val (.long q1), .second, .val (.long q2), .second, .val (.long q3), .second, .val (.int q4), .val (.int q5), .val (.long x0), .second, .val (.long x1), .second, .val (.long x2), .second, .val (.long x3), .second, .val (.long y0), .second, .val (.long y2), .second, .val (.long y1), .second, .val (.long y3), .second, .val (.long z1), .second, .val (.long z2), .second, .val (.ref ra), .val (.int k), .val (.int le), .val (.int (Int32.ofNat HS)), .val (.int (Int32.ofNat HE)), .unset, .unset] [(.long (81985529216486895 : Int64)), (.int (7 : Int32)), (.ref o), (.ref o)]))
      obtain ⟨T84, h84, X84, e84, W84, st84⟩ := kStJ X83 hx hZ e83 J_o (j := (7 : Int32)) ⟨by decide, by decide⟩ (g := (mkF m 251 #[.val (.long q0), .second, .val (.long q1), .second, .val (.long q2), .second, .val (.long q3), .second, .val (.int q4), .val (.int q5), .val (.long x0), .second, .val (.long x1), .second, .val (.long x2), .second, .val (.long x3), .second, .val (.long y0), .second, .val (.long y2), .second, .val (.long y1), .second, .val (.long y3), .second, .val (.long z1), .second, .val (.long z2), .second, .val (.ref ra), .val (.int k), .val (.int le), .val (.int (Int32.ofNat HS)), .val (.int (Int32.ofNat HE)), .unset, .unset] [(.long (81985529216486895 : Int64)), (.int (7 : Int32)), (.ref o), (.ref o)])) rfl rfl (hb hby at_251)
      replace N0 := Fr.snoc X84 N0 le_o
      replace J_ra := J_ra.other W84 ne_ra_o
      replace J_o := J_o.set W84
      replace Z0 := Nat.le_trans Z0 (Nat.le_of_eq W84.size.symm)
      refine GoOn.step st84 ?_
      show GoOn p e below _ (T84.setTop (mkF m 252 #[.val (.long q0), .second, .val (.long q1), .second, .val (.long q2), .second, .val (.long q3), .second, .val (.int q4), .val (.int q5), .val (.long x0), .second, .val (.long x1), .second, .val (.long x2), .second, .val (.long x3), .second, .val (.long y0), .second, .val (.long y2), .second, .val (.long y1), .second, .val (.long y3), .second, .val (.long z1), .second, .val (.long z2), .second, .val (.ref ra), .val (.int k), .val (.int le), .val (.int (Int32.ofNat HS)), .val (.int (Int32.ofNat HE)), .unset, .unset] [(.ref o)]))
      replace J_o : Jar Z h84 o .long 8 (fun _ => .long (81985529216486895 : Int64)) := J_o.congr (fun i hi => match i, hi with | 0, _ => rfl | 1, _ => rfl | 2, _ => rfl | 3, _ => rfl | 4, _ => rfl | 5, _ => rfl | 6, _ => rfl | 7, _ => rfl | k + 8, q => absurd q (by omega))
      refine GoOn.step (fun t₀ k₀ => XS.astore X84.here hx rfl (hb hby at_252) rfl rfl (l' := #[.val (.long q0), .second, .val (.long q1), .second, .val (.long q2), .second, .val (.long q3), .second, .val (.int q4), .val (.int q5), .val (.long x0), .second, .val (.long x1), .second, .val (.long x2), .second, .val (.long x3), .second, .val (.long y0), .second, .val (.long y2), .second, .val (.long y1), .second, .val (.long y3), .second, .val (.long z1), .second, .val (.long z2), .second, .val (.ref ra), .val (.int k), .val (.int le), .val (.int (Int32.ofNat HS)), .val (.int (Int32.ofNat HE)), .val (.ref o), .unset]) rfl k₀) ?_
      show GoOn p e below _ (T84.setTop (mkF m 254 #[.val (.long q0), .second, .val (.long q1), .second, .val (.long q2), .second, .val (.long q3), .second, .val (.int q4), .val (.int q5), .val (.long x0), .second, .val (.long x1), .second, .val (.long x2), .second, .val (.long x3), .second, .val (.long y0), .second, .val (.long y2), .second, .val (.long y1), .second, .val (.long y3), .second, .val (.long z1), .second, .val (.long z2), .second, .val (.ref ra), .val (.int k), .val (.int le), .val (.int (Int32.ofNat HS)), .val (.int (Int32.ofNat HE)), .val (.ref o), .unset] []))
      obtain ⟨T85, h85, X85, e85, E85, A85, D85, -, st85⟩ := newO X84 hx hZ hown (hw _ (List.mem_of_getElem? (i := 10) rfl)) (hw _ (List.mem_of_getElem? (i := 11) rfl)) (hw _ (List.mem_of_getElem? (i := 12) rfl)) e84 (g := (mkF m 254 #[.val (.long q0), .second, .val (.long q1), .second, .val (.long q2), .second, .val (.long q3), .second, .val (.int q4), .val (.int q5), .val (.long x0), .second, .val (.long x1), .second, .val (.long x2), .second, .val (.long x3), .second, .val (.long y0), .second, .val (.long y2), .second, .val (.long y1), .second, .val (.long y3), .second, .val (.long z1), .second, .val (.long z2), .second, .val (.ref ra), .val (.int k), .val (.int le), .val (.int (Int32.ofNat HS)), .val (.int (Int32.ofNat HE)), .val (.ref o), .unset] [])) rfl (hb hby at_254) (by decide) (by decide)
      obtain ⟨t, g85⟩ : ∃ z, z = h84.size := ⟨_, rfl⟩
      rw [← g85] at A85 D85 st85
      have lt_ra_t : ra < t := by rw [g85]; exact J_ra.lt
      have ne_ra_t : ra ≠ t := Nat.ne_of_lt lt_ra_t
      have lt_o_t : o < t := by rw [g85]; exact J_o.lt
      have ne_o_t : o ≠ t := Nat.ne_of_lt lt_o_t
      have le_t : n0 ≤ t := by rw [g85]; exact Z0
      replace J_ra := J_ra.ext E85
      replace J_o := J_o.ext E85
      replace Z0 := Nat.le_trans Z0 E85.1
      have Ex_t : Exa Z h85 t "com/example/treesack/treesack/core/ValueSteps" := A85
      have F_costs_t : Fld Z h85 t "com/example/treesack/treesack/core/ValueSteps" "costs" "[J" .null := D85 (Or.inl (hw _ (List.mem_of_getElem? (i := 20) rfl))) (ty := (.array .long)) (by decide)
      have F_values_t : Fld Z h85 t "com/example/treesack/treesack/core/ValueSteps" "values" "[J" .null := D85 (Or.inl (hw _ (List.mem_of_getElem? (i := 22) rfl))) (ty := (.array .long)) (by decide)
      have F_spareCosts_t : Fld Z h85 t "com/example/treesack/treesack/core/ValueSteps" "spareCosts" "[J" .null := D85 (Or.inl (hw _ (List.mem_of_getElem? (i := 24) rfl))) (ty := (.array .long)) (by decide)
      have F_spareValues_t : Fld Z h85 t "com/example/treesack/treesack/core/ValueSteps" "spareValues" "[J" .null := D85 (Or.inl (hw _ (List.mem_of_getElem? (i := 26) rfl))) (ty := (.array .long)) (by decide)
      have F_count_t : Fld Z h85 t "com/example/treesack/treesack/core/ValueSteps" "count" "I" (.int (0 : Int32)) := D85 (Or.inl (hw _ (List.mem_of_getElem? (i := 43) rfl))) (ty := .int) (by decide)
      have F_parts_t : Fld Z h85 t "com/example/treesack/treesack/core/ValueSteps" "parts" "[J" .null := D85 (Or.inl (hw _ (List.mem_of_getElem? (i := 45) rfl))) (ty := (.array .long)) (by decide)
      refine GoOn.step st85 ?_
      show GoOn p e below _ (T85.setTop (mkF m 257 #[.val (.long q0), .second, .val (.long q1), .second, .val (.long q2), .second, .val (.long q3), .second, .val (.int q4), .val (.int q5), .val (.long x0), .second, .val (.long x1), .second, .val (.long x2), .second, .val (.long x3), .second, .val (.long y0), .second, .val (.long y2), .second, .val (.long y1), .second, .val (.long y3), .second, .val (.long z1), .second, .val (.long z2), .second, .val (.ref ra), .val (.int k), .val (.int le), .val (.int (Int32.ofNat HS)), .val (.int (Int32.ofNat HE)), .val (.ref o), .unset] [(.ref t)]))
      refine GoOn.step (fun t₀ k₀ => XS.dup X85.here hx rfl (hb hby at_257) rfl rfl k₀) ?_
      show GoOn p e below _ (T85.setTop (mkF m 258 #[.val (.long q0), .second, .val (.long q1), .second, .val (.long q2), .second, .val (.long q3), .second, .val (.int q4), .val (.int q5), .val (.long x0), .second, .val (.long x1), .second, .val (.long x2), .second, .val (.long x3), .second, .val (.long y0), .second, .val (.long y2), .second, .val (.long y1), .second, .val (.long y3), .second, .val (.long z1), .second, .val (.long z2), .second, .val (.ref ra), .val (.int k), .val (.int le), .val (.int (Int32.ofNat HS)), .val (.int (Int32.ofNat HE)), .val (.ref o), .unset] [(.ref t), (.ref t)]))
      obtain ⟨_, T86, L86, X86, hQ86, st86⟩ := kCallI X85 hx hZ (a := t) (argsL := []) (rest := [(.ref t)]) (c_ini l Z a0 hw t h85 n0 Z0 Ex_t F_costs_t F_values_t F_spareCosts_t F_spareValues_t F_count_t F_parts_t le_t) rfl hown (hw _ (List.mem_of_getElem? (i := 13) rfl)) (hw _ (List.mem_of_getElem? (i := 14) rfl)) (hw _ (List.mem_of_getElem? (i := 12) rfl)) (hw _ (List.mem_of_getElem? (i := 15) rfl)) (by decide) e85 (g := (mkF m 258 #[.val (.long q0), .second, .val (.long q1), .second, .val (.long q2), .second, .val (.long q3), .second, .val (.int q4), .val (.int q5), .val (.long x0), .second, .val (.long x1), .second, .val (.long x2), .second, .val (.long x3), .second, .val (.long y0), .second, .val (.long y2), .second, .val (.long y1), .second, .val (.long y3), .second, .val (.long z1), .second, .val (.long z2), .second, .val (.ref ra), .val (.int k), .val (.int le), .val (.int (Int32.ofNat HS)), .val (.int (Int32.ofNat HE)), .val (.ref o), .unset] [(.ref t), (.ref t)])) rfl (by rw [hml]; rfl) (lenOf pd_4 rfl) rfl (W := 1) (by show 2 * 0 + _ ≤ _; exact Nat.le_of_eq rfl) (hb hby at_258) (by decide) (by decide) (by decide) (by decide)
      obtain ⟨xc, xv, sc, sv, f1, f2, f3, f4, rfl, N86, K86, G_costs, G_values, G_spareCosts, G_spareValues, G_count, G_parts, J_xc, J_xv, J_sc, J_sv, ⟨s_xc, s_xv, s_sc, s_sv⟩, dsc, dt⟩ := hQ86
      replace N0 := Fr.app N0 N86
      have ne_ra_xc : ra ≠ xc := Nat.ne_of_lt (Nat.lt_of_lt_of_le J_ra.lt s_xc)
      have ne_ra_xv : ra ≠ xv := Nat.ne_of_lt (Nat.lt_of_lt_of_le J_ra.lt s_xv)
      have ne_ra_sc : ra ≠ sc := Nat.ne_of_lt (Nat.lt_of_lt_of_le J_ra.lt s_sc)
      have ne_ra_sv : ra ≠ sv := Nat.ne_of_lt (Nat.lt_of_lt_of_le J_ra.lt s_sv)
      have ne_o_xc : o ≠ xc := Nat.ne_of_lt (Nat.lt_of_lt_of_le J_o.lt s_xc)
      have ne_o_xv : o ≠ xv := Nat.ne_of_lt (Nat.lt_of_lt_of_le J_o.lt s_xv)
      have ne_o_sc : o ≠ sc := Nat.ne_of_lt (Nat.lt_of_lt_of_le J_o.lt s_sc)
      have ne_o_sv : o ≠ sv := Nat.ne_of_lt (Nat.lt_of_lt_of_le J_o.lt s_sv)
      have le_sc : n0 ≤ sc := Nat.le_trans Z0 s_sc
      have le_sv : n0 ≤ sv := Nat.le_trans Z0 s_sv
      replace J_ra := J_ra.keep K86 (ninS ne_ra_t nin0)
      replace J_o := J_o.keep K86 (ninS ne_o_t nin0)
      replace Ex_t := Ex_t.keep K86
      clear F_costs_t
      clear F_values_t
      clear F_spareCosts_t
      clear F_spareValues_t
      clear F_count_t
      clear F_parts_t
      replace Z0 := Nat.le_trans Z0 K86.1
      refine GoOn.step st86 ?_
      show GoOn p e below _ (T86.setTop (mkF m 261 #[.val (.long q0), .second, .val (.long q1), .second, .val (.long q2), .second, .val (.long q3), .second, .val (.int q4), .val (.int q5), .val (.long x0), .second, .val (.long x1), .second, .val (.long x2), .second, .val (.long x3), .second, .val (.long y0), .second, .val (.long y2), .second, .val (.long y1), .second, .val (.long y3), .second, .val (.long z1), .second, .val (.long z2), .second, .val (.ref ra), .val (.int k), .val (.int le), .val (.int (Int32.ofNat HS)), .val (.int (Int32.ofNat HE)), .val (.ref o), .unset] [(.ref t)]))
      refine GoOn.step (fun t₀ k₀ => XS.astore X86.here hx rfl (hb hby at_261) rfl rfl (l' := #[.val (.long q0), .second, .val (.long q1), .second, .val (.long q2), .second, .val (.long q3), .second, .val (.int q4), .val (.int q5), .val (.long x0), .second, .val (.long x1), .second, .val (.long x2), .second, .val (.long x3), .second, .val (.long y0), .second, .val (.long y2), .second, .val (.long y1), .second, .val (.long y3), .second, .val (.long z1), .second, .val (.long z2), .second, .val (.ref ra), .val (.int k), .val (.int le), .val (.int (Int32.ofNat HS)), .val (.int (Int32.ofNat HE)), .val (.ref o), .val (.ref t)]) rfl k₀) ?_
      show GoOn p e below _ (T86.setTop (mkF m 263 #[.val (.long q0), .second, .val (.long q1), .second, .val (.long q2), .second, .val (.long q3), .second, .val (.int q4), .val (.int q5), .val (.long x0), .second, .val (.long x1), .second, .val (.long x2), .second, .val (.long x3), .second, .val (.long y0), .second, .val (.long y2), .second, .val (.long y1), .second, .val (.long y3), .second, .val (.long z1), .second, .val (.long z2), .second, .val (.ref ra), .val (.int k), .val (.int le), .val (.int (Int32.ofNat HS)), .val (.int (Int32.ofNat HE)), .val (.ref o), .val (.ref t)] []))
      refine GoOn.step (fun t₀ k₀ => XS.aload X86.here hx rfl (hb hby at_263) rfl rfl k₀) ?_
      show GoOn p e below _ (T86.setTop (mkF m 265 #[.val (.long q0), .second, .val (.long q1), .second, .val (.long q2), .second, .val (.long q3), .second, .val (.int q4), .val (.int q5), .val (.long x0), .second, .val (.long x1), .second, .val (.long x2), .second, .val (.long x3), .second, .val (.long y0), .second, .val (.long y2), .second, .val (.long y1), .second, .val (.long y3), .second, .val (.long z1), .second, .val (.long z2), .second, .val (.ref ra), .val (.int k), .val (.int le), .val (.int (Int32.ofNat HS)), .val (.int (Int32.ofNat HE)), .val (.ref o), .val (.ref t)] [(.ref t)]))
      refine GoOn.step (fun t₀ k₀ => XS.aload X86.here hx rfl (hb hby at_265) rfl rfl k₀) ?_
      show GoOn p e below _ (T86.setTop (mkF m 267 #[.val (.long q0), .second, .val (.long q1), .second, .val (.long q2), .second, .val (.long q3), .second, .val (.int q4), .val (.int q5), .val (.long x0), .second, .val (.long x1), .second, .val (.long x2), .second, .val (.long x3), .second, .val (.long y0), .second, .val (.long y2), .second, .val (.long y1), .second, .val (.long y3), .second, .val (.long z1), .second, .val (.long z2), .second, .val (.ref ra), .val (.int k), .val (.int le), .val (.int (Int32.ofNat HS)), .val (.int (Int32.ofNat HE)), .val (.ref o), .val (.ref t)] [(.ref ra), (.ref t)]))
      refine GoOn.step (fun t₀ k₀ => XS.iload X86.here hx rfl (hb hby at_267) rfl k₀) ?_
      show GoOn p e below _ (T86.setTop (mkF m 269 #[.val (.long q0), .second, .val (.long q1), .second, .val (.long q2), .second, .val (.long q3), .second, .val (.int q4), .val (.int q5), .val (.long x0), .second, .val (.long x1), .second, .val (.long x2), .second, .val (.long x3), .second, .val (.long y0), .second, .val (.long y2), .second, .val (.long y1), .second, .val (.long y3), .second, .val (.long z1), .second, .val (.long z2), .second, .val (.ref ra), .val (.int k), .val (.int le), .val (.int (Int32.ofNat HS)), .val (.int (Int32.ofNat HE)), .val (.ref o), .val (.ref t)] [(.int (Int32.ofNat HS)), (.ref ra), (.ref t)]))
      clear J_xc
      clear J_xv
      obtain ⟨_, T87, L87, X87, hQ87, st87⟩ := kCallV X86 hx hZ (a := t) (argsL := [(.ref ra), (.int (Int32.ofNat HS))]) (rest := []) (c_ss l Z a0 hw t ra xc xv sc sv HS _ (R4 v0 v1 v2 v3) _ _ T86.heap n0 Z0 Ex_t G_costs G_values G_spareCosts G_spareValues G_count G_parts J_sc J_sv J_ra hHS le_t le_sc le_sv dsc dt.1 dt.2 ne_ra_sc ne_ra_sv ne_ra_t) hown (hw _ (List.mem_of_getElem? (i := 27) rfl)) (hw _ (List.mem_of_getElem? (i := 28) rfl)) (notFace_of_selects (args := #[]) (mvT hZ (hw _ (List.mem_of_getElem? (i := 30) rfl)))) (hw _ (List.mem_of_getElem? (i := 30) rfl)) (hw _ (List.mem_of_getElem? (i := 29) rfl)) (hw _ (List.mem_of_getElem? (i := 12) rfl)) (hw _ (List.mem_of_getElem? (i := 31) rfl)) (by decide) rfl Ex_t (g := (mkF m 269 #[.val (.long q0), .second, .val (.long q1), .second, .val (.long q2), .second, .val (.long q3), .second, .val (.int q4), .val (.int q5), .val (.long x0), .second, .val (.long x1), .second, .val (.long x2), .second, .val (.long x3), .second, .val (.long y0), .second, .val (.long y2), .second, .val (.long y1), .second, .val (.long y3), .second, .val (.long z1), .second, .val (.long z2), .second, .val (.ref ra), .val (.int k), .val (.int le), .val (.int (Int32.ofNat HS)), .val (.int (Int32.ofNat HE)), .val (.ref o), .val (.ref t)] [(.int (Int32.ofNat HS)), (.ref ra), (.ref t)])) rfl (by rw [hml]; rfl) (lenOf pd_5 rfl) rfl (W := 0) (by show 2 * 0 + _ ≤ _; exact Nat.le_of_eq rfl) (hb hby at_269) (by decide) (by decide) (by decide) (by decide)
      obtain ⟨fc, fv, rfl, N87, K87, H1, H2, H3, Jsc, tc, Jsv, tv⟩ := hQ87
      replace N0 := Fr.app N0 N87
      clear G_costs
      clear G_values
      clear G_spareCosts
      clear G_spareValues
      clear G_count
      clear G_parts
      clear J_sc
      clear J_sv
      replace J_ra := J_ra.keep K87 (ninS ne_ra_t (ninS ne_ra_sc (ninS ne_ra_sv nin0)))
      replace J_o := J_o.keep K87 (ninS ne_o_t (ninS ne_o_sc (ninS ne_o_sv nin0)))
      replace Ex_t := Ex_t.keep K87
      replace Z0 := Nat.le_trans Z0 K87.1
      refine GoOn.step st87 ?_
      show GoOn p e below _ (T87.setTop (mkF m 272 #[.val (.long q0), .second, .val (.long q1), .second, .val (.long q2), .second, .val (.long q3), .second, .val (.int q4), .val (.int q5), .val (.long x0), .second, .val (.long x1), .second, .val (.long x2), .second, .val (.long x3), .second, .val (.long y0), .second, .val (.long y2), .second, .val (.long y1), .second, .val (.long y3), .second, .val (.long z1), .second, .val (.long z2), .second, .val (.ref ra), .val (.int k), .val (.int le), .val (.int (Int32.ofNat HS)), .val (.int (Int32.ofNat HE)), .val (.ref o), .val (.ref t)] []))
      refine GoOn.step (fun t₀ k₀ => XS.aload X87.here hx rfl (hb hby at_272) rfl rfl k₀) ?_
      show GoOn p e below _ (T87.setTop (mkF m 274 #[.val (.long q0), .second, .val (.long q1), .second, .val (.long q2), .second, .val (.long q3), .second, .val (.int q4), .val (.int q5), .val (.long x0), .second, .val (.long x1), .second, .val (.long x2), .second, .val (.long x3), .second, .val (.long y0), .second, .val (.long y2), .second, .val (.long y1), .second, .val (.long y3), .second, .val (.long z1), .second, .val (.long z2), .second, .val (.ref ra), .val (.int k), .val (.int le), .val (.int (Int32.ofNat HS)), .val (.int (Int32.ofNat HE)), .val (.ref o), .val (.ref t)] [(.ref t)]))
      refine GoOn.step (fun t₀ k₀ => XS.aload X87.here hx rfl (hb hby at_274) rfl rfl k₀) ?_
      show GoOn p e below _ (T87.setTop (mkF m 276 #[.val (.long q0), .second, .val (.long q1), .second, .val (.long q2), .second, .val (.long q3), .second, .val (.int q4), .val (.int q5), .val (.long x0), .second, .val (.long x1), .second, .val (.long x2), .second, .val (.long x3), .second, .val (.long y0), .second, .val (.long y2), .second, .val (.long y1), .second, .val (.long y3), .second, .val (.long z1), .second, .val (.long z2), .second, .val (.ref ra), .val (.int k), .val (.int le), .val (.int (Int32.ofNat HS)), .val (.int (Int32.ofNat HE)), .val (.ref o), .val (.ref t)] [(.ref o), (.ref t)]))
      refine GoOn.step (fun t₀ k₀ => XS.iload X87.here hx rfl (hb hby at_276) rfl k₀) ?_
      show GoOn p e below _ (T87.setTop (mkF m 278 #[.val (.long q0), .second, .val (.long q1), .second, .val (.long q2), .second, .val (.long q3), .second, .val (.int q4), .val (.int q5), .val (.long x0), .second, .val (.long x1), .second, .val (.long x2), .second, .val (.long x3), .second, .val (.long y0), .second, .val (.long y2), .second, .val (.long y1), .second, .val (.long y3), .second, .val (.long z1), .second, .val (.long z2), .second, .val (.ref ra), .val (.int k), .val (.int le), .val (.int (Int32.ofNat HS)), .val (.int (Int32.ofNat HE)), .val (.ref o), .val (.ref t)] [(.int (Int32.ofNat HE)), (.ref o), (.ref t)]))
      obtain ⟨_, T88, L88, X88, hQ88, st88⟩ := kCallV X87 hx hZ (a := t) (argsL := [(.ref o), (.int (Int32.ofNat HE))]) (rest := []) (c_ex l Z a0 hw t o sc sv HS HE (R4 v0 v1 v2 v3) _ _ _ T87.heap n0 Z0 H1 H2 H3 Jsc tc Jsv tv J_o (fun _ => rfl) hm hHS hHE le_o (Ne.symm ne_o_t) (Ne.symm ne_o_sc) (Ne.symm ne_o_sv)) hown (hw _ (List.mem_of_getElem? (i := 46) rfl)) (hw _ (List.mem_of_getElem? (i := 47) rfl)) (notFace_of_selects (args := #[]) (mvT hZ (hw _ (List.mem_of_getElem? (i := 49) rfl)))) (hw _ (List.mem_of_getElem? (i := 49) rfl)) (hw _ (List.mem_of_getElem? (i := 48) rfl)) (hw _ (List.mem_of_getElem? (i := 12) rfl)) (hw _ (List.mem_of_getElem? (i := 50) rfl)) (by decide) rfl Ex_t (g := (mkF m 278 #[.val (.long q0), .second, .val (.long q1), .second, .val (.long q2), .second, .val (.long q3), .second, .val (.int q4), .val (.int q5), .val (.long x0), .second, .val (.long x1), .second, .val (.long x2), .second, .val (.long x3), .second, .val (.long y0), .second, .val (.long y2), .second, .val (.long y1), .second, .val (.long y3), .second, .val (.long z1), .second, .val (.long z2), .second, .val (.ref ra), .val (.int k), .val (.int le), .val (.int (Int32.ofNat HS)), .val (.int (Int32.ofNat HE)), .val (.ref o), .val (.ref t)] [(.int (Int32.ofNat HE)), (.ref o), (.ref t)])) rfl (by rw [hml]; rfl) (lenOf pd_5 rfl) rfl (W := 0) (by show 2 * 0 + _ ≤ _; exact Nat.le_of_eq rfl) (hb hby at_278) (by decide) (by decide) (by decide) (by decide)
      obtain ⟨fo, rfl, N88, K88, Jo, h1, h2⟩ := hQ88
      replace N0 := Fr.app N0 N88
      clear J_o
      replace J_ra := J_ra.keep K88 (ninS ne_ra_o nin0)
      replace Ex_t := Ex_t.keep K88
      replace H1 := H1.keep K88 (ninS (Ne.symm ne_o_t) nin0)
      replace H2 := H2.keep K88 (ninS (Ne.symm ne_o_t) nin0)
      replace H3 := H3.keep K88 (ninS (Ne.symm ne_o_t) nin0)
      replace Jsc := Jsc.keep K88 (ninS (Ne.symm ne_o_sc) nin0)
      replace Jsv := Jsv.keep K88 (ninS (Ne.symm ne_o_sv) nin0)
      replace Z0 := Nat.le_trans Z0 K88.1
      refine GoOn.step st88 ?_
      show GoOn p e below _ (T88.setTop (mkF m 281 #[.val (.long q0), .second, .val (.long q1), .second, .val (.long q2), .second, .val (.long q3), .second, .val (.int q4), .val (.int q5), .val (.long x0), .second, .val (.long x1), .second, .val (.long x2), .second, .val (.long x3), .second, .val (.long y0), .second, .val (.long y2), .second, .val (.long y1), .second, .val (.long y3), .second, .val (.long z1), .second, .val (.long z2), .second, .val (.ref ra), .val (.int k), .val (.int le), .val (.int (Int32.ofNat HS)), .val (.int (Int32.ofNat HE)), .val (.ref o), .val (.ref t)] []))
      refine GoOn.step (fun t₀ k₀ => XS.aload X88.here hx rfl (hb hby at_281) rfl rfl k₀) ?_
      show GoOn p e below _ (T88.setTop (mkF m 283 #[.val (.long q0), .second, .val (.long q1), .second, .val (.long q2), .second, .val (.long q3), .second, .val (.int q4), .val (.int q5), .val (.long x0), .second, .val (.long x1), .second, .val (.long x2), .second, .val (.long x3), .second, .val (.long y0), .second, .val (.long y2), .second, .val (.long y1), .second, .val (.long y3), .second, .val (.long z1), .second, .val (.long z2), .second, .val (.ref ra), .val (.int k), .val (.int le), .val (.int (Int32.ofNat HS)), .val (.int (Int32.ofNat HE)), .val (.ref o), .val (.ref t)] [(.ref o)]))
      refine GoOn.step (fun t₀ k₀ => XS.iconst X88.here hx rfl (hb hby at_283) k₀) ?_
      show GoOn p e below _ (T88.setTop (mkF m 284 #[.val (.long q0), .second, .val (.long q1), .second, .val (.long q2), .second, .val (.long q3), .second, .val (.int q4), .val (.int q5), .val (.long x0), .second, .val (.long x1), .second, .val (.long x2), .second, .val (.long x3), .second, .val (.long y0), .second, .val (.long y2), .second, .val (.long y1), .second, .val (.long y3), .second, .val (.long z1), .second, .val (.long z2), .second, .val (.ref ra), .val (.int k), .val (.int le), .val (.int (Int32.ofNat HS)), .val (.int (Int32.ofNat HE)), .val (.ref o), .val (.ref t)] [(.int (0 : Int32)), (.ref o)]))
      refine GoOn.step (fun t₀ k₀ => XS.iload X88.here hx rfl (hb hby at_284) rfl k₀) ?_
      show GoOn p e below _ (T88.setTop (mkF m 286 #[.val (.long q0), .second, .val (.long q1), .second, .val (.long q2), .second, .val (.long q3), .second, .val (.int q4), .val (.int q5), .val (.long x0), .second, .val (.long x1), .second, .val (.long x2), .second, .val (.long x3), .second, .val (.long y0), .second, .val (.long y2), .second, .val (.long y1), .second, .val (.long y3), .second, .val (.long z1), .second, .val (.long z2), .second, .val (.ref ra), .val (.int k), .val (.int le), .val (.int (Int32.ofNat HS)), .val (.int (Int32.ofNat HE)), .val (.ref o), .val (.ref t)] [(.int (Int32.ofNat HE)), (.int (0 : Int32)), (.ref o)]))
      refine GoOn.step (fun t₀ k₀ => XS.iload X88.here hx rfl (hb hby at_286) rfl k₀) ?_
      show GoOn p e below _ (T88.setTop (mkF m 288 #[.val (.long q0), .second, .val (.long q1), .second, .val (.long q2), .second, .val (.long q3), .second, .val (.int q4), .val (.int q5), .val (.long x0), .second, .val (.long x1), .second, .val (.long x2), .second, .val (.long x3), .second, .val (.long y0), .second, .val (.long y2), .second, .val (.long y1), .second, .val (.long y3), .second, .val (.long z1), .second, .val (.long z2), .second, .val (.ref ra), .val (.int k), .val (.int le), .val (.int (Int32.ofNat HS)), .val (.int (Int32.ofNat HE)), .val (.ref o), .val (.ref t)] [(.int (Int32.ofNat HS)), (.int (Int32.ofNat HE)), (.int (0 : Int32)), (.ref o)]))
      refine GoOn.step (fun t₀ k₀ => XS.aload X88.here hx rfl (hb hby at_288) rfl rfl k₀) ?_
      show GoOn p e below _ (T88.setTop (mkF m 290 #[.val (.long q0), .second, .val (.long q1), .second, .val (.long q2), .second, .val (.long q3), .second, .val (.int q4), .val (.int q5), .val (.long x0), .second, .val (.long x1), .second, .val (.long x2), .second, .val (.long x3), .second, .val (.long y0), .second, .val (.long y2), .second, .val (.long y1), .second, .val (.long y3), .second, .val (.long z1), .second, .val (.long z2), .second, .val (.ref ra), .val (.int k), .val (.int le), .val (.int (Int32.ofNat HS)), .val (.int (Int32.ofNat HE)), .val (.ref o), .val (.ref t)] [(.ref ra), (.int (Int32.ofNat HS)), (.int (Int32.ofNat HE)), (.int (0 : Int32)), (.ref o)]))
      obtain ⟨_, T89, L89, X89, hQ89, st89⟩ := kCallS X88 hx hZ (argsL := [(.ref o), (.int (0 : Int32)), (.int (Int32.ofNat HE)), (.int (Int32.ofNat HS)), (.ref ra)]) (rest := []) (c_at l Z a0 hw o ra 0 HS HE (R4 v0 v1 v2 v3) fo _ Jo J_ra (by decide) hHS hHE h1 h2) hown (hw _ (List.mem_of_getElem? (i := 51) rfl)) (hw _ (List.mem_of_getElem? (i := 52) rfl)) (hw _ (List.mem_of_getElem? (i := 53) rfl)) (hw _ (List.mem_of_getElem? (i := 54) rfl)) (by decide) rfl (g := (mkF m 290 #[.val (.long q0), .second, .val (.long q1), .second, .val (.long q2), .second, .val (.long q3), .second, .val (.int q4), .val (.int q5), .val (.long x0), .second, .val (.long x1), .second, .val (.long x2), .second, .val (.long x3), .second, .val (.long y0), .second, .val (.long y2), .second, .val (.long y1), .second, .val (.long y3), .second, .val (.long z1), .second, .val (.long z2), .second, .val (.ref ra), .val (.int k), .val (.int le), .val (.int (Int32.ofNat HS)), .val (.int (Int32.ofNat HE)), .val (.ref o), .val (.ref t)] [(.ref ra), (.int (Int32.ofNat HS)), (.int (Int32.ofNat HE)), (.int (0 : Int32)), (.ref o)])) rfl (by rw [hml]; rfl) (lenOf pd_6 rfl) rfl (W := 0) (by show 2 * 0 + _ ≤ _; exact Nat.le_of_eq rfl) (hb hby at_290) (by decide) (by decide) (by decide) (by decide)
      obtain ⟨rfl, rfl, e89⟩ := hQ89
      rw [List.append_nil] at X89
      refine GoOn.step st89 ?_
      show GoOn p e below _ (T89.setTop (mkF m 293 #[.val (.long q0), .second, .val (.long q1), .second, .val (.long q2), .second, .val (.long q3), .second, .val (.int q4), .val (.int q5), .val (.long x0), .second, .val (.long x1), .second, .val (.long x2), .second, .val (.long x3), .second, .val (.long y0), .second, .val (.long y2), .second, .val (.long y1), .second, .val (.long y3), .second, .val (.long z1), .second, .val (.long z2), .second, .val (.ref ra), .val (.int k), .val (.int le), .val (.int (Int32.ofNat HS)), .val (.int (Int32.ofNat HE)), .val (.ref o), .val (.ref t)] [(.int (1 : Int32))]))
      have hf90 : ¬ ((1 : Int32) = (0 : Int32)) := (by decide)
      refine GoOn.step (fun t₀ k₀ => XS.ifNo X89.here hx rfl (hb hby at_293) rfl ((if0 _ _).trans (feq hf90).1) k₀) ?_
      show GoOn p e below _ (T89.setTop (mkF m 296 #[.val (.long q0), .second, .val (.long q1), .second, .val (.long q2), .second, .val (.long q3), .second, .val (.int q4), .val (.int q5), .val (.long x0), .second, .val (.long x1), .second, .val (.long x2), .second, .val (.long x3), .second, .val (.long y0), .second, .val (.long y2), .second, .val (.long y1), .second, .val (.long y3), .second, .val (.long z1), .second, .val (.long z2), .second, .val (.ref ra), .val (.int k), .val (.int le), .val (.int (Int32.ofNat HS)), .val (.int (Int32.ofNat HE)), .val (.ref o), .val (.ref t)] []))
      refine GoOn.step (fun t₀ k₀ => XS.aload X89.here hx rfl (hb hby at_296) rfl rfl k₀) ?_
      show GoOn p e below _ (T89.setTop (mkF m 298 #[.val (.long q0), .second, .val (.long q1), .second, .val (.long q2), .second, .val (.long q3), .second, .val (.int q4), .val (.int q5), .val (.long x0), .second, .val (.long x1), .second, .val (.long x2), .second, .val (.long x3), .second, .val (.long y0), .second, .val (.long y2), .second, .val (.long y1), .second, .val (.long y3), .second, .val (.long z1), .second, .val (.long z2), .second, .val (.ref ra), .val (.int k), .val (.int le), .val (.int (Int32.ofNat HS)), .val (.int (Int32.ofNat HE)), .val (.ref o), .val (.ref t)] [(.ref o)]))
      refine GoOn.step (fun t₀ k₀ => XS.iconst X89.here hx rfl (hb hby at_298) k₀) ?_
      show GoOn p e below _ (T89.setTop (mkF m 299 #[.val (.long q0), .second, .val (.long q1), .second, .val (.long q2), .second, .val (.long q3), .second, .val (.int q4), .val (.int q5), .val (.long x0), .second, .val (.long x1), .second, .val (.long x2), .second, .val (.long x3), .second, .val (.long y0), .second, .val (.long y2), .second, .val (.long y1), .second, .val (.long y3), .second, .val (.long z1), .second, .val (.long z2), .second, .val (.ref ra), .val (.int k), .val (.int le), .val (.int (Int32.ofNat HS)), .val (.int (Int32.ofNat HE)), .val (.ref o), .val (.ref t)] [(.int (1 : Int32)), (.ref o)]))
      refine GoOn.step (fun t₀ k₀ => XS.iload X89.here hx rfl (hb hby at_299) rfl k₀) ?_
      show GoOn p e below _ (T89.setTop (mkF m 301 #[.val (.long q0), .second, .val (.long q1), .second, .val (.long q2), .second, .val (.long q3), .second, .val (.int q4), .val (.int q5), .val (.long x0), .second, .val (.long x1), .second, .val (.long x2), .second, .val (.long x3), .second, .val (.long y0), .second, .val (.long y2), .second, .val (.long y1), .second, .val (.long y3), .second, .val (.long z1), .second, .val (.long z2), .second, .val (.ref ra), .val (.int k), .val (.int le), .val (.int (Int32.ofNat HS)), .val (.int (Int32.ofNat HE)), .val (.ref o), .val (.ref t)] [(.int (Int32.ofNat HE)), (.int (1 : Int32)), (.ref o)]))
      refine GoOn.step (fun t₀ k₀ => XS.iload X89.here hx rfl (hb hby at_301) rfl k₀) ?_
      show GoOn p e below _ (T89.setTop (mkF m 303 #[.val (.long q0), .second, .val (.long q1), .second, .val (.long q2), .second, .val (.long q3), .second, .val (.int q4), .val (.int q5), .val (.long x0), .second, .val (.long x1), .second, .val (.long x2), .second, .val (.long x3), .second, .val (.long y0), .second, .val (.long y2), .second, .val (.long y1), .second, .val (.long y3), .second, .val (.long z1), .second, .val (.long z2), .second, .val (.ref ra), .val (.int k), .val (.int le), .val (.int (Int32.ofNat HS)), .val (.int (Int32.ofNat HE)), .val (.ref o), .val (.ref t)] [(.int (Int32.ofNat HS)), (.int (Int32.ofNat HE)), (.int (1 : Int32)), (.ref o)]))
      refine GoOn.step (fun t₀ k₀ => XS.aload X89.here hx rfl (hb hby at_303) rfl rfl k₀) ?_
      show GoOn p e below _ (T89.setTop (mkF m 305 #[.val (.long q0), .second, .val (.long q1), .second, .val (.long q2), .second, .val (.long q3), .second, .val (.int q4), .val (.int q5), .val (.long x0), .second, .val (.long x1), .second, .val (.long x2), .second, .val (.long x3), .second, .val (.long y0), .second, .val (.long y2), .second, .val (.long y1), .second, .val (.long y3), .second, .val (.long z1), .second, .val (.long z2), .second, .val (.ref ra), .val (.int k), .val (.int le), .val (.int (Int32.ofNat HS)), .val (.int (Int32.ofNat HE)), .val (.ref o), .val (.ref t)] [(.ref ra), (.int (Int32.ofNat HS)), (.int (Int32.ofNat HE)), (.int (1 : Int32)), (.ref o)]))
      obtain ⟨_, T91, L91, X91, hQ91, st91⟩ := kCallS X89 hx hZ (argsL := [(.ref o), (.int (1 : Int32)), (.int (Int32.ofNat HE)), (.int (Int32.ofNat HS)), (.ref ra)]) (rest := []) (c_at l Z a0 hw o ra 1 HS HE (R4 v0 v1 v2 v3) fo _ Jo J_ra (by decide) hHS hHE h1 h2) hown (hw _ (List.mem_of_getElem? (i := 51) rfl)) (hw _ (List.mem_of_getElem? (i := 52) rfl)) (hw _ (List.mem_of_getElem? (i := 53) rfl)) (hw _ (List.mem_of_getElem? (i := 54) rfl)) (by decide) e89 (g := (mkF m 305 #[.val (.long q0), .second, .val (.long q1), .second, .val (.long q2), .second, .val (.long q3), .second, .val (.int q4), .val (.int q5), .val (.long x0), .second, .val (.long x1), .second, .val (.long x2), .second, .val (.long x3), .second, .val (.long y0), .second, .val (.long y2), .second, .val (.long y1), .second, .val (.long y3), .second, .val (.long z1), .second, .val (.long z2), .second, .val (.ref ra), .val (.int k), .val (.int le), .val (.int (Int32.ofNat HS)), .val (.int (Int32.ofNat HE)), .val (.ref o), .val (.ref t)] [(.ref ra), (.int (Int32.ofNat HS)), (.int (Int32.ofNat HE)), (.int (1 : Int32)), (.ref o)])) rfl (by rw [hml]; rfl) (lenOf pd_6 rfl) rfl (W := 0) (by show 2 * 0 + _ ≤ _; exact Nat.le_of_eq rfl) (hb hby at_305) (by decide) (by decide) (by decide) (by decide)
      obtain ⟨rfl, rfl, e91⟩ := hQ91
      rw [List.append_nil] at X91
      refine GoOn.step st91 ?_
      show GoOn p e below _ (T91.setTop (mkF m 308 #[.val (.long q0), .second, .val (.long q1), .second, .val (.long q2), .second, .val (.long q3), .second, .val (.int q4), .val (.int q5), .val (.long x0), .second, .val (.long x1), .second, .val (.long x2), .second, .val (.long x3), .second, .val (.long y0), .second, .val (.long y2), .second, .val (.long y1), .second, .val (.long y3), .second, .val (.long z1), .second, .val (.long z2), .second, .val (.ref ra), .val (.int k), .val (.int le), .val (.int (Int32.ofNat HS)), .val (.int (Int32.ofNat HE)), .val (.ref o), .val (.ref t)] [(.int (1 : Int32))]))
      have hf92 : ¬ ((1 : Int32) = (0 : Int32)) := (by decide)
      refine GoOn.step (fun t₀ k₀ => XS.ifNo X91.here hx rfl (hb hby at_308) rfl ((if0 _ _).trans (feq hf92).1) k₀) ?_
      show GoOn p e below _ (T91.setTop (mkF m 311 #[.val (.long q0), .second, .val (.long q1), .second, .val (.long q2), .second, .val (.long q3), .second, .val (.int q4), .val (.int q5), .val (.long x0), .second, .val (.long x1), .second, .val (.long x2), .second, .val (.long x3), .second, .val (.long y0), .second, .val (.long y2), .second, .val (.long y1), .second, .val (.long y3), .second, .val (.long z1), .second, .val (.long z2), .second, .val (.ref ra), .val (.int k), .val (.int le), .val (.int (Int32.ofNat HS)), .val (.int (Int32.ofNat HE)), .val (.ref o), .val (.ref t)] []))
      refine GoOn.step (fun t₀ k₀ => XS.aload X91.here hx rfl (hb hby at_311) rfl rfl k₀) ?_
      show GoOn p e below _ (T91.setTop (mkF m 313 #[.val (.long q0), .second, .val (.long q1), .second, .val (.long q2), .second, .val (.long q3), .second, .val (.int q4), .val (.int q5), .val (.long x0), .second, .val (.long x1), .second, .val (.long x2), .second, .val (.long x3), .second, .val (.long y0), .second, .val (.long y2), .second, .val (.long y1), .second, .val (.long y3), .second, .val (.long z1), .second, .val (.long z2), .second, .val (.ref ra), .val (.int k), .val (.int le), .val (.int (Int32.ofNat HS)), .val (.int (Int32.ofNat HE)), .val (.ref o), .val (.ref t)] [(.ref o)]))
      refine GoOn.step (fun t₀ k₀ => XS.iconst X91.here hx rfl (hb hby at_313) k₀) ?_
      show GoOn p e below _ (T91.setTop (mkF m 314 #[.val (.long q0), .second, .val (.long q1), .second, .val (.long q2), .second, .val (.long q3), .second, .val (.int q4), .val (.int q5), .val (.long x0), .second, .val (.long x1), .second, .val (.long x2), .second, .val (.long x3), .second, .val (.long y0), .second, .val (.long y2), .second, .val (.long y1), .second, .val (.long y3), .second, .val (.long z1), .second, .val (.long z2), .second, .val (.ref ra), .val (.int k), .val (.int le), .val (.int (Int32.ofNat HS)), .val (.int (Int32.ofNat HE)), .val (.ref o), .val (.ref t)] [(.int (2 : Int32)), (.ref o)]))
      refine GoOn.step (fun t₀ k₀ => XS.iload X91.here hx rfl (hb hby at_314) rfl k₀) ?_
      show GoOn p e below _ (T91.setTop (mkF m 316 #[.val (.long q0), .second, .val (.long q1), .second, .val (.long q2), .second, .val (.long q3), .second, .val (.int q4), .val (.int q5), .val (.long x0), .second, .val (.long x1), .second, .val (.long x2), .second, .val (.long x3), .second, .val (.long y0), .second, .val (.long y2), .second, .val (.long y1), .second, .val (.long y3), .second, .val (.long z1), .second, .val (.long z2), .second, .val (.ref ra), .val (.int k), .val (.int le), .val (.int (Int32.ofNat HS)), .val (.int (Int32.ofNat HE)), .val (.ref o), .val (.ref t)] [(.int (Int32.ofNat HE)), (.int (2 : Int32)), (.ref o)]))
      refine GoOn.step (fun t₀ k₀ => XS.iload X91.here hx rfl (hb hby at_316) rfl k₀) ?_
      show GoOn p e below _ (T91.setTop (mkF m 318 #[.val (.long q0), .second, .val (.long q1), .second, .val (.long q2), .second, .val (.long q3), .second, .val (.int q4), .val (.int q5), .val (.long x0), .second, .val (.long x1), .second, .val (.long x2), .second, .val (.long x3), .second, .val (.long y0), .second, .val (.long y2), .second, .val (.long y1), .second, .val (.long y3), .second, .val (.long z1), .second, .val (.long z2), .second, .val (.ref ra), .val (.int k), .val (.int le), .val (.int (Int32.ofNat HS)), .val (.int (Int32.ofNat HE)), .val (.ref o), .val (.ref t)] [(.int (Int32.ofNat HS)), (.int (Int32.ofNat HE)), (.int (2 : Int32)), (.ref o)]))
      refine GoOn.step (fun t₀ k₀ => XS.aload X91.here hx rfl (hb hby at_318) rfl rfl k₀) ?_
      show GoOn p e below _ (T91.setTop (mkF m 320 #[.val (.long q0), .second, .val (.long q1), .second, .val (.long q2), .second, .val (.long q3), .second, .val (.int q4), .val (.int q5), .val (.long x0), .second, .val (.long x1), .second, .val (.long x2), .second, .val (.long x3), .second, .val (.long y0), .second, .val (.long y2), .second, .val (.long y1), .second, .val (.long y3), .second, .val (.long z1), .second, .val (.long z2), .second, .val (.ref ra), .val (.int k), .val (.int le), .val (.int (Int32.ofNat HS)), .val (.int (Int32.ofNat HE)), .val (.ref o), .val (.ref t)] [(.ref ra), (.int (Int32.ofNat HS)), (.int (Int32.ofNat HE)), (.int (2 : Int32)), (.ref o)]))
      obtain ⟨_, T93, L93, X93, hQ93, st93⟩ := kCallS X91 hx hZ (argsL := [(.ref o), (.int (2 : Int32)), (.int (Int32.ofNat HE)), (.int (Int32.ofNat HS)), (.ref ra)]) (rest := []) (c_at l Z a0 hw o ra 2 HS HE (R4 v0 v1 v2 v3) fo _ Jo J_ra (by decide) hHS hHE h1 h2) hown (hw _ (List.mem_of_getElem? (i := 51) rfl)) (hw _ (List.mem_of_getElem? (i := 52) rfl)) (hw _ (List.mem_of_getElem? (i := 53) rfl)) (hw _ (List.mem_of_getElem? (i := 54) rfl)) (by decide) e91 (g := (mkF m 320 #[.val (.long q0), .second, .val (.long q1), .second, .val (.long q2), .second, .val (.long q3), .second, .val (.int q4), .val (.int q5), .val (.long x0), .second, .val (.long x1), .second, .val (.long x2), .second, .val (.long x3), .second, .val (.long y0), .second, .val (.long y2), .second, .val (.long y1), .second, .val (.long y3), .second, .val (.long z1), .second, .val (.long z2), .second, .val (.ref ra), .val (.int k), .val (.int le), .val (.int (Int32.ofNat HS)), .val (.int (Int32.ofNat HE)), .val (.ref o), .val (.ref t)] [(.ref ra), (.int (Int32.ofNat HS)), (.int (Int32.ofNat HE)), (.int (2 : Int32)), (.ref o)])) rfl (by rw [hml]; rfl) (lenOf pd_6 rfl) rfl (W := 0) (by show 2 * 0 + _ ≤ _; exact Nat.le_of_eq rfl) (hb hby at_320) (by decide) (by decide) (by decide) (by decide)
      obtain ⟨rfl, rfl, e93⟩ := hQ93
      rw [List.append_nil] at X93
      refine GoOn.step st93 ?_
      show GoOn p e below _ (T93.setTop (mkF m 323 #[.val (.long q0), .second, .val (.long q1), .second, .val (.long q2), .second, .val (.long q3), .second, .val (.int q4), .val (.int q5), .val (.long x0), .second, .val (.long x1), .second, .val (.long x2), .second, .val (.long x3), .second, .val (.long y0), .second, .val (.long y2), .second, .val (.long y1), .second, .val (.long y3), .second, .val (.long z1), .second, .val (.long z2), .second, .val (.ref ra), .val (.int k), .val (.int le), .val (.int (Int32.ofNat HS)), .val (.int (Int32.ofNat HE)), .val (.ref o), .val (.ref t)] [(.int (1 : Int32))]))
      have hf94 : ¬ ((1 : Int32) = (0 : Int32)) := (by decide)
      refine GoOn.step (fun t₀ k₀ => XS.ifNo X93.here hx rfl (hb hby at_323) rfl ((if0 _ _).trans (feq hf94).1) k₀) ?_
      show GoOn p e below _ (T93.setTop (mkF m 326 #[.val (.long q0), .second, .val (.long q1), .second, .val (.long q2), .second, .val (.long q3), .second, .val (.int q4), .val (.int q5), .val (.long x0), .second, .val (.long x1), .second, .val (.long x2), .second, .val (.long x3), .second, .val (.long y0), .second, .val (.long y2), .second, .val (.long y1), .second, .val (.long y3), .second, .val (.long z1), .second, .val (.long z2), .second, .val (.ref ra), .val (.int k), .val (.int le), .val (.int (Int32.ofNat HS)), .val (.int (Int32.ofNat HE)), .val (.ref o), .val (.ref t)] []))
      refine GoOn.step (fun t₀ k₀ => XS.aload X93.here hx rfl (hb hby at_326) rfl rfl k₀) ?_
      show GoOn p e below _ (T93.setTop (mkF m 328 #[.val (.long q0), .second, .val (.long q1), .second, .val (.long q2), .second, .val (.long q3), .second, .val (.int q4), .val (.int q5), .val (.long x0), .second, .val (.long x1), .second, .val (.long x2), .second, .val (.long x3), .second, .val (.long y0), .second, .val (.long y2), .second, .val (.long y1), .second, .val (.long y3), .second, .val (.long z1), .second, .val (.long z2), .second, .val (.ref ra), .val (.int k), .val (.int le), .val (.int (Int32.ofNat HS)), .val (.int (Int32.ofNat HE)), .val (.ref o), .val (.ref t)] [(.ref o)]))
      refine GoOn.step (fun t₀ k₀ => XS.iconst X93.here hx rfl (hb hby at_328) k₀) ?_
      show GoOn p e below _ (T93.setTop (mkF m 329 #[.val (.long q0), .second, .val (.long q1), .second, .val (.long q2), .second, .val (.long q3), .second, .val (.int q4), .val (.int q5), .val (.long x0), .second, .val (.long x1), .second, .val (.long x2), .second, .val (.long x3), .second, .val (.long y0), .second, .val (.long y2), .second, .val (.long y1), .second, .val (.long y3), .second, .val (.long z1), .second, .val (.long z2), .second, .val (.ref ra), .val (.int k), .val (.int le), .val (.int (Int32.ofNat HS)), .val (.int (Int32.ofNat HE)), .val (.ref o), .val (.ref t)] [(.int (3 : Int32)), (.ref o)]))
      refine GoOn.step (fun t₀ k₀ => XS.iload X93.here hx rfl (hb hby at_329) rfl k₀) ?_
      show GoOn p e below _ (T93.setTop (mkF m 331 #[.val (.long q0), .second, .val (.long q1), .second, .val (.long q2), .second, .val (.long q3), .second, .val (.int q4), .val (.int q5), .val (.long x0), .second, .val (.long x1), .second, .val (.long x2), .second, .val (.long x3), .second, .val (.long y0), .second, .val (.long y2), .second, .val (.long y1), .second, .val (.long y3), .second, .val (.long z1), .second, .val (.long z2), .second, .val (.ref ra), .val (.int k), .val (.int le), .val (.int (Int32.ofNat HS)), .val (.int (Int32.ofNat HE)), .val (.ref o), .val (.ref t)] [(.int (Int32.ofNat HE)), (.int (3 : Int32)), (.ref o)]))
      refine GoOn.step (fun t₀ k₀ => XS.iload X93.here hx rfl (hb hby at_331) rfl k₀) ?_
      show GoOn p e below _ (T93.setTop (mkF m 333 #[.val (.long q0), .second, .val (.long q1), .second, .val (.long q2), .second, .val (.long q3), .second, .val (.int q4), .val (.int q5), .val (.long x0), .second, .val (.long x1), .second, .val (.long x2), .second, .val (.long x3), .second, .val (.long y0), .second, .val (.long y2), .second, .val (.long y1), .second, .val (.long y3), .second, .val (.long z1), .second, .val (.long z2), .second, .val (.ref ra), .val (.int k), .val (.int le), .val (.int (Int32.ofNat HS)), .val (.int (Int32.ofNat HE)), .val (.ref o), .val (.ref t)] [(.int (Int32.ofNat HS)), (.int (Int32.ofNat HE)), (.int (3 : Int32)), (.ref o)]))
      refine GoOn.step (fun t₀ k₀ => XS.aload X93.here hx rfl (hb hby at_333) rfl rfl k₀) ?_
      show GoOn p e below _ (T93.setTop (mkF m 335 #[.val (.long q0), .second, .val (.long q1), .second, .val (.long q2), .second, .val (.long q3), .second, .val (.int q4), .val (.int q5), .val (.long x0), .second, .val (.long x1), .second, .val (.long x2), .second, .val (.long x3), .second, .val (.long y0), .second, .val (.long y2), .second, .val (.long y1), .second, .val (.long y3), .second, .val (.long z1), .second, .val (.long z2), .second, .val (.ref ra), .val (.int k), .val (.int le), .val (.int (Int32.ofNat HS)), .val (.int (Int32.ofNat HE)), .val (.ref o), .val (.ref t)] [(.ref ra), (.int (Int32.ofNat HS)), (.int (Int32.ofNat HE)), (.int (3 : Int32)), (.ref o)]))
      obtain ⟨_, T95, L95, X95, hQ95, st95⟩ := kCallS X93 hx hZ (argsL := [(.ref o), (.int (3 : Int32)), (.int (Int32.ofNat HE)), (.int (Int32.ofNat HS)), (.ref ra)]) (rest := []) (c_at l Z a0 hw o ra 3 HS HE (R4 v0 v1 v2 v3) fo _ Jo J_ra (by decide) hHS hHE h1 h2) hown (hw _ (List.mem_of_getElem? (i := 51) rfl)) (hw _ (List.mem_of_getElem? (i := 52) rfl)) (hw _ (List.mem_of_getElem? (i := 53) rfl)) (hw _ (List.mem_of_getElem? (i := 54) rfl)) (by decide) e93 (g := (mkF m 335 #[.val (.long q0), .second, .val (.long q1), .second, .val (.long q2), .second, .val (.long q3), .second, .val (.int q4), .val (.int q5), .val (.long x0), .second, .val (.long x1), .second, .val (.long x2), .second, .val (.long x3), .second, .val (.long y0), .second, .val (.long y2), .second, .val (.long y1), .second, .val (.long y3), .second, .val (.long z1), .second, .val (.long z2), .second, .val (.ref ra), .val (.int k), .val (.int le), .val (.int (Int32.ofNat HS)), .val (.int (Int32.ofNat HE)), .val (.ref o), .val (.ref t)] [(.ref ra), (.int (Int32.ofNat HS)), (.int (Int32.ofNat HE)), (.int (3 : Int32)), (.ref o)])) rfl (by rw [hml]; rfl) (lenOf pd_6 rfl) rfl (W := 0) (by show 2 * 0 + _ ≤ _; exact Nat.le_of_eq rfl) (hb hby at_335) (by decide) (by decide) (by decide) (by decide)
      obtain ⟨rfl, rfl, e95⟩ := hQ95
      rw [List.append_nil] at X95
      refine GoOn.step st95 ?_
      show GoOn p e below _ (T95.setTop (mkF m 338 #[.val (.long q0), .second, .val (.long q1), .second, .val (.long q2), .second, .val (.long q3), .second, .val (.int q4), .val (.int q5), .val (.long x0), .second, .val (.long x1), .second, .val (.long x2), .second, .val (.long x3), .second, .val (.long y0), .second, .val (.long y2), .second, .val (.long y1), .second, .val (.long y3), .second, .val (.long z1), .second, .val (.long z2), .second, .val (.ref ra), .val (.int k), .val (.int le), .val (.int (Int32.ofNat HS)), .val (.int (Int32.ofNat HE)), .val (.ref o), .val (.ref t)] [(.int (1 : Int32))]))
      have hf96 : ¬ ((1 : Int32) = (0 : Int32)) := (by decide)
      refine GoOn.step (fun t₀ k₀ => XS.ifNo X95.here hx rfl (hb hby at_338) rfl ((if0 _ _).trans (feq hf96).1) k₀) ?_
      show GoOn p e below _ (T95.setTop (mkF m 341 #[.val (.long q0), .second, .val (.long q1), .second, .val (.long q2), .second, .val (.long q3), .second, .val (.int q4), .val (.int q5), .val (.long x0), .second, .val (.long x1), .second, .val (.long x2), .second, .val (.long x3), .second, .val (.long y0), .second, .val (.long y2), .second, .val (.long y1), .second, .val (.long y3), .second, .val (.long z1), .second, .val (.long z2), .second, .val (.ref ra), .val (.int k), .val (.int le), .val (.int (Int32.ofNat HS)), .val (.int (Int32.ofNat HE)), .val (.ref o), .val (.ref t)] []))
      refine GoOn.step (fun t₀ k₀ => XS.aload X95.here hx rfl (hb hby at_341) rfl rfl k₀) ?_
      show GoOn p e below _ (T95.setTop (mkF m 343 #[.val (.long q0), .second, .val (.long q1), .second, .val (.long q2), .second, .val (.long q3), .second, .val (.int q4), .val (.int q5), .val (.long x0), .second, .val (.long x1), .second, .val (.long x2), .second, .val (.long x3), .second, .val (.long y0), .second, .val (.long y2), .second, .val (.long y1), .second, .val (.long y3), .second, .val (.long z1), .second, .val (.long z2), .second, .val (.ref ra), .val (.int k), .val (.int le), .val (.int (Int32.ofNat HS)), .val (.int (Int32.ofNat HE)), .val (.ref o), .val (.ref t)] [(.ref o)]))
      refine GoOn.step (fun t₀ k₀ => XS.iconst X95.here hx rfl (hb hby at_343) k₀) ?_
      show GoOn p e below _ (T95.setTop (mkF m 344 #[.val (.long q0), .second, .val (.long q1), .second, .val (.long q2), .second, .val (.long q3), .second, .val (.int q4), .val (.int q5), .val (.long x0), .second, .val (.long x1), .second, .val (.long x2), .second, .val (.long x3), .second, .val (.long y0), .second, .val (.long y2), .second, .val (.long y1), .second, .val (.long y3), .second, .val (.long z1), .second, .val (.long z2), .second, .val (.ref ra), .val (.int k), .val (.int le), .val (.int (Int32.ofNat HS)), .val (.int (Int32.ofNat HE)), .val (.ref o), .val (.ref t)] [(.int (4 : Int32)), (.ref o)]))
      refine GoOn.step (fun t₀ k₀ => XS.iload X95.here hx rfl (hb hby at_344) rfl k₀) ?_
      show GoOn p e below _ (T95.setTop (mkF m 346 #[.val (.long q0), .second, .val (.long q1), .second, .val (.long q2), .second, .val (.long q3), .second, .val (.int q4), .val (.int q5), .val (.long x0), .second, .val (.long x1), .second, .val (.long x2), .second, .val (.long x3), .second, .val (.long y0), .second, .val (.long y2), .second, .val (.long y1), .second, .val (.long y3), .second, .val (.long z1), .second, .val (.long z2), .second, .val (.ref ra), .val (.int k), .val (.int le), .val (.int (Int32.ofNat HS)), .val (.int (Int32.ofNat HE)), .val (.ref o), .val (.ref t)] [(.int (Int32.ofNat HE)), (.int (4 : Int32)), (.ref o)]))
      refine GoOn.step (fun t₀ k₀ => XS.iload X95.here hx rfl (hb hby at_346) rfl k₀) ?_
      show GoOn p e below _ (T95.setTop (mkF m 348 #[.val (.long q0), .second, .val (.long q1), .second, .val (.long q2), .second, .val (.long q3), .second, .val (.int q4), .val (.int q5), .val (.long x0), .second, .val (.long x1), .second, .val (.long x2), .second, .val (.long x3), .second, .val (.long y0), .second, .val (.long y2), .second, .val (.long y1), .second, .val (.long y3), .second, .val (.long z1), .second, .val (.long z2), .second, .val (.ref ra), .val (.int k), .val (.int le), .val (.int (Int32.ofNat HS)), .val (.int (Int32.ofNat HE)), .val (.ref o), .val (.ref t)] [(.int (Int32.ofNat HS)), (.int (Int32.ofNat HE)), (.int (4 : Int32)), (.ref o)]))
      refine GoOn.step (fun t₀ k₀ => XS.aload X95.here hx rfl (hb hby at_348) rfl rfl k₀) ?_
      show GoOn p e below _ (T95.setTop (mkF m 350 #[.val (.long q0), .second, .val (.long q1), .second, .val (.long q2), .second, .val (.long q3), .second, .val (.int q4), .val (.int q5), .val (.long x0), .second, .val (.long x1), .second, .val (.long x2), .second, .val (.long x3), .second, .val (.long y0), .second, .val (.long y2), .second, .val (.long y1), .second, .val (.long y3), .second, .val (.long z1), .second, .val (.long z2), .second, .val (.ref ra), .val (.int k), .val (.int le), .val (.int (Int32.ofNat HS)), .val (.int (Int32.ofNat HE)), .val (.ref o), .val (.ref t)] [(.ref ra), (.int (Int32.ofNat HS)), (.int (Int32.ofNat HE)), (.int (4 : Int32)), (.ref o)]))
      obtain ⟨_, T97, L97, X97, hQ97, st97⟩ := kCallS X95 hx hZ (argsL := [(.ref o), (.int (4 : Int32)), (.int (Int32.ofNat HE)), (.int (Int32.ofNat HS)), (.ref ra)]) (rest := []) (c_at l Z a0 hw o ra 4 HS HE (R4 v0 v1 v2 v3) fo _ Jo J_ra (by decide) hHS hHE h1 h2) hown (hw _ (List.mem_of_getElem? (i := 51) rfl)) (hw _ (List.mem_of_getElem? (i := 52) rfl)) (hw _ (List.mem_of_getElem? (i := 53) rfl)) (hw _ (List.mem_of_getElem? (i := 54) rfl)) (by decide) e95 (g := (mkF m 350 #[.val (.long q0), .second, .val (.long q1), .second, .val (.long q2), .second, .val (.long q3), .second, .val (.int q4), .val (.int q5), .val (.long x0), .second, .val (.long x1), .second, .val (.long x2), .second, .val (.long x3), .second, .val (.long y0), .second, .val (.long y2), .second, .val (.long y1), .second, .val (.long y3), .second, .val (.long z1), .second, .val (.long z2), .second, .val (.ref ra), .val (.int k), .val (.int le), .val (.int (Int32.ofNat HS)), .val (.int (Int32.ofNat HE)), .val (.ref o), .val (.ref t)] [(.ref ra), (.int (Int32.ofNat HS)), (.int (Int32.ofNat HE)), (.int (4 : Int32)), (.ref o)])) rfl (by rw [hml]; rfl) (lenOf pd_6 rfl) rfl (W := 0) (by show 2 * 0 + _ ≤ _; exact Nat.le_of_eq rfl) (hb hby at_350) (by decide) (by decide) (by decide) (by decide)
      obtain ⟨rfl, rfl, e97⟩ := hQ97
      rw [List.append_nil] at X97
      refine GoOn.step st97 ?_
      show GoOn p e below _ (T97.setTop (mkF m 353 #[.val (.long q0), .second, .val (.long q1), .second, .val (.long q2), .second, .val (.long q3), .second, .val (.int q4), .val (.int q5), .val (.long x0), .second, .val (.long x1), .second, .val (.long x2), .second, .val (.long x3), .second, .val (.long y0), .second, .val (.long y2), .second, .val (.long y1), .second, .val (.long y3), .second, .val (.long z1), .second, .val (.long z2), .second, .val (.ref ra), .val (.int k), .val (.int le), .val (.int (Int32.ofNat HS)), .val (.int (Int32.ofNat HE)), .val (.ref o), .val (.ref t)] [(.int (1 : Int32))]))
      have hf98 : ¬ ((1 : Int32) = (0 : Int32)) := (by decide)
      refine GoOn.step (fun t₀ k₀ => XS.ifNo X97.here hx rfl (hb hby at_353) rfl ((if0 _ _).trans (feq hf98).1) k₀) ?_
      show GoOn p e below _ (T97.setTop (mkF m 356 #[.val (.long q0), .second, .val (.long q1), .second, .val (.long q2), .second, .val (.long q3), .second, .val (.int q4), .val (.int q5), .val (.long x0), .second, .val (.long x1), .second, .val (.long x2), .second, .val (.long x3), .second, .val (.long y0), .second, .val (.long y2), .second, .val (.long y1), .second, .val (.long y3), .second, .val (.long z1), .second, .val (.long z2), .second, .val (.ref ra), .val (.int k), .val (.int le), .val (.int (Int32.ofNat HS)), .val (.int (Int32.ofNat HE)), .val (.ref o), .val (.ref t)] []))
      refine GoOn.step (fun t₀ k₀ => XS.aload X97.here hx rfl (hb hby at_356) rfl rfl k₀) ?_
      show GoOn p e below _ (T97.setTop (mkF m 358 #[.val (.long q0), .second, .val (.long q1), .second, .val (.long q2), .second, .val (.long q3), .second, .val (.int q4), .val (.int q5), .val (.long x0), .second, .val (.long x1), .second, .val (.long x2), .second, .val (.long x3), .second, .val (.long y0), .second, .val (.long y2), .second, .val (.long y1), .second, .val (.long y3), .second, .val (.long z1), .second, .val (.long z2), .second, .val (.ref ra), .val (.int k), .val (.int le), .val (.int (Int32.ofNat HS)), .val (.int (Int32.ofNat HE)), .val (.ref o), .val (.ref t)] [(.ref o)]))
      refine GoOn.step (fun t₀ k₀ => XS.iconst X97.here hx rfl (hb hby at_358) k₀) ?_
      show GoOn p e below _ (T97.setTop (mkF m 359 #[.val (.long q0), .second, .val (.long q1), .second, .val (.long q2), .second, .val (.long q3), .second, .val (.int q4), .val (.int q5), .val (.long x0), .second, .val (.long x1), .second, .val (.long x2), .second, .val (.long x3), .second, .val (.long y0), .second, .val (.long y2), .second, .val (.long y1), .second, .val (.long y3), .second, .val (.long z1), .second, .val (.long z2), .second, .val (.ref ra), .val (.int k), .val (.int le), .val (.int (Int32.ofNat HS)), .val (.int (Int32.ofNat HE)), .val (.ref o), .val (.ref t)] [(.int (5 : Int32)), (.ref o)]))
      refine GoOn.step (fun t₀ k₀ => XS.iload X97.here hx rfl (hb hby at_359) rfl k₀) ?_
      show GoOn p e below _ (T97.setTop (mkF m 361 #[.val (.long q0), .second, .val (.long q1), .second, .val (.long q2), .second, .val (.long q3), .second, .val (.int q4), .val (.int q5), .val (.long x0), .second, .val (.long x1), .second, .val (.long x2), .second, .val (.long x3), .second, .val (.long y0), .second, .val (.long y2), .second, .val (.long y1), .second, .val (.long y3), .second, .val (.long z1), .second, .val (.long z2), .second, .val (.ref ra), .val (.int k), .val (.int le), .val (.int (Int32.ofNat HS)), .val (.int (Int32.ofNat HE)), .val (.ref o), .val (.ref t)] [(.int (Int32.ofNat HE)), (.int (5 : Int32)), (.ref o)]))
      refine GoOn.step (fun t₀ k₀ => XS.iload X97.here hx rfl (hb hby at_361) rfl k₀) ?_
      show GoOn p e below _ (T97.setTop (mkF m 363 #[.val (.long q0), .second, .val (.long q1), .second, .val (.long q2), .second, .val (.long q3), .second, .val (.int q4), .val (.int q5), .val (.long x0), .second, .val (.long x1), .second, .val (.long x2), .second, .val (.long x3), .second, .val (.long y0), .second, .val (.long y2), .second, .val (.long y1), .second, .val (.long y3), .second, .val (.long z1), .second, .val (.long z2), .second, .val (.ref ra), .val (.int k), .val (.int le), .val (.int (Int32.ofNat HS)), .val (.int (Int32.ofNat HE)), .val (.ref o), .val (.ref t)] [(.int (Int32.ofNat HS)), (.int (Int32.ofNat HE)), (.int (5 : Int32)), (.ref o)]))
      refine GoOn.step (fun t₀ k₀ => XS.aload X97.here hx rfl (hb hby at_363) rfl rfl k₀) ?_
      show GoOn p e below _ (T97.setTop (mkF m 365 #[.val (.long q0), .second, .val (.long q1), .second, .val (.long q2), .second, .val (.long q3), .second, .val (.int q4), .val (.int q5), .val (.long x0), .second, .val (.long x1), .second, .val (.long x2), .second, .val (.long x3), .second, .val (.long y0), .second, .val (.long y2), .second, .val (.long y1), .second, .val (.long y3), .second, .val (.long z1), .second, .val (.long z2), .second, .val (.ref ra), .val (.int k), .val (.int le), .val (.int (Int32.ofNat HS)), .val (.int (Int32.ofNat HE)), .val (.ref o), .val (.ref t)] [(.ref ra), (.int (Int32.ofNat HS)), (.int (Int32.ofNat HE)), (.int (5 : Int32)), (.ref o)]))
      obtain ⟨_, T99, L99, X99, hQ99, st99⟩ := kCallS X97 hx hZ (argsL := [(.ref o), (.int (5 : Int32)), (.int (Int32.ofNat HE)), (.int (Int32.ofNat HS)), (.ref ra)]) (rest := []) (c_at l Z a0 hw o ra 5 HS HE (R4 v0 v1 v2 v3) fo _ Jo J_ra (by decide) hHS hHE h1 h2) hown (hw _ (List.mem_of_getElem? (i := 51) rfl)) (hw _ (List.mem_of_getElem? (i := 52) rfl)) (hw _ (List.mem_of_getElem? (i := 53) rfl)) (hw _ (List.mem_of_getElem? (i := 54) rfl)) (by decide) e97 (g := (mkF m 365 #[.val (.long q0), .second, .val (.long q1), .second, .val (.long q2), .second, .val (.long q3), .second, .val (.int q4), .val (.int q5), .val (.long x0), .second, .val (.long x1), .second, .val (.long x2), .second, .val (.long x3), .second, .val (.long y0), .second, .val (.long y2), .second, .val (.long y1), .second, .val (.long y3), .second, .val (.long z1), .second, .val (.long z2), .second, .val (.ref ra), .val (.int k), .val (.int le), .val (.int (Int32.ofNat HS)), .val (.int (Int32.ofNat HE)), .val (.ref o), .val (.ref t)] [(.ref ra), (.int (Int32.ofNat HS)), (.int (Int32.ofNat HE)), (.int (5 : Int32)), (.ref o)])) rfl (by rw [hml]; rfl) (lenOf pd_6 rfl) rfl (W := 0) (by show 2 * 0 + _ ≤ _; exact Nat.le_of_eq rfl) (hb hby at_365) (by decide) (by decide) (by decide) (by decide)
      obtain ⟨rfl, rfl, e99⟩ := hQ99
      rw [List.append_nil] at X99
      refine GoOn.step st99 ?_
      show GoOn p e below _ (T99.setTop (mkF m 368 #[.val (.long q0), .second, .val (.long q1), .second, .val (.long q2), .second, .val (.long q3), .second, .val (.int q4), .val (.int q5), .val (.long x0), .second, .val (.long x1), .second, .val (.long x2), .second, .val (.long x3), .second, .val (.long y0), .second, .val (.long y2), .second, .val (.long y1), .second, .val (.long y3), .second, .val (.long z1), .second, .val (.long z2), .second, .val (.ref ra), .val (.int k), .val (.int le), .val (.int (Int32.ofNat HS)), .val (.int (Int32.ofNat HE)), .val (.ref o), .val (.ref t)] [(.int (1 : Int32))]))
      have hf100 : ¬ ((1 : Int32) = (0 : Int32)) := (by decide)
      refine GoOn.step (fun t₀ k₀ => XS.ifNo X99.here hx rfl (hb hby at_368) rfl ((if0 _ _).trans (feq hf100).1) k₀) ?_
      show GoOn p e below _ (T99.setTop (mkF m 371 #[.val (.long q0), .second, .val (.long q1), .second, .val (.long q2), .second, .val (.long q3), .second, .val (.int q4), .val (.int q5), .val (.long x0), .second, .val (.long x1), .second, .val (.long x2), .second, .val (.long x3), .second, .val (.long y0), .second, .val (.long y2), .second, .val (.long y1), .second, .val (.long y3), .second, .val (.long z1), .second, .val (.long z2), .second, .val (.ref ra), .val (.int k), .val (.int le), .val (.int (Int32.ofNat HS)), .val (.int (Int32.ofNat HE)), .val (.ref o), .val (.ref t)] []))
      refine GoOn.step (fun t₀ k₀ => XS.aload X99.here hx rfl (hb hby at_371) rfl rfl k₀) ?_
      show GoOn p e below _ (T99.setTop (mkF m 373 #[.val (.long q0), .second, .val (.long q1), .second, .val (.long q2), .second, .val (.long q3), .second, .val (.int q4), .val (.int q5), .val (.long x0), .second, .val (.long x1), .second, .val (.long x2), .second, .val (.long x3), .second, .val (.long y0), .second, .val (.long y2), .second, .val (.long y1), .second, .val (.long y3), .second, .val (.long z1), .second, .val (.long z2), .second, .val (.ref ra), .val (.int k), .val (.int le), .val (.int (Int32.ofNat HS)), .val (.int (Int32.ofNat HE)), .val (.ref o), .val (.ref t)] [(.ref o)]))
      refine GoOn.step (fun t₀ k₀ => XS.bipush X99.here hx rfl (hb hby at_373) k₀) ?_
      show GoOn p e below _ (T99.setTop (mkF m 375 #[.val (.long q0), .second, .val (.long q1), .second, .val (.long q2), .second, .val (.long q3), .second, .val (.int q4), .val (.int q5), .val (.long x0), .second, .val (.long x1), .second, .val (.long x2), .second, .val (.long x3), .second, .val (.long y0), .second, .val (.long y2), .second, .val (.long y1), .second, .val (.long y3), .second, .val (.long z1), .second, .val (.long z2), .second, .val (.ref ra), .val (.int k), .val (.int le), .val (.int (Int32.ofNat HS)), .val (.int (Int32.ofNat HE)), .val (.ref o), .val (.ref t)] [(.int (6 : Int32)), (.ref o)]))
      refine GoOn.step (fun t₀ k₀ => XS.iload X99.here hx rfl (hb hby at_375) rfl k₀) ?_
      show GoOn p e below _ (T99.setTop (mkF m 377 #[.val (.long q0), .second, .val (.long q1), .second, .val (.long q2), .second, .val (.long q3), .second, .val (.int q4), .val (.int q5), .val (.long x0), .second, .val (.long x1), .second, .val (.long x2), .second, .val (.long x3), .second, .val (.long y0), .second, .val (.long y2), .second, .val (.long y1), .second, .val (.long y3), .second, .val (.long z1), .second, .val (.long z2), .second, .val (.ref ra), .val (.int k), .val (.int le), .val (.int (Int32.ofNat HS)), .val (.int (Int32.ofNat HE)), .val (.ref o), .val (.ref t)] [(.int (Int32.ofNat HE)), (.int (6 : Int32)), (.ref o)]))
      refine GoOn.step (fun t₀ k₀ => XS.iload X99.here hx rfl (hb hby at_377) rfl k₀) ?_
      show GoOn p e below _ (T99.setTop (mkF m 379 #[.val (.long q0), .second, .val (.long q1), .second, .val (.long q2), .second, .val (.long q3), .second, .val (.int q4), .val (.int q5), .val (.long x0), .second, .val (.long x1), .second, .val (.long x2), .second, .val (.long x3), .second, .val (.long y0), .second, .val (.long y2), .second, .val (.long y1), .second, .val (.long y3), .second, .val (.long z1), .second, .val (.long z2), .second, .val (.ref ra), .val (.int k), .val (.int le), .val (.int (Int32.ofNat HS)), .val (.int (Int32.ofNat HE)), .val (.ref o), .val (.ref t)] [(.int (Int32.ofNat HS)), (.int (Int32.ofNat HE)), (.int (6 : Int32)), (.ref o)]))
      refine GoOn.step (fun t₀ k₀ => XS.aload X99.here hx rfl (hb hby at_379) rfl rfl k₀) ?_
      show GoOn p e below _ (T99.setTop (mkF m 381 #[.val (.long q0), .second, .val (.long q1), .second, .val (.long q2), .second, .val (.long q3), .second, .val (.int q4), .val (.int q5), .val (.long x0), .second, .val (.long x1), .second, .val (.long x2), .second, .val (.long x3), .second, .val (.long y0), .second, .val (.long y2), .second, .val (.long y1), .second, .val (.long y3), .second, .val (.long z1), .second, .val (.long z2), .second, .val (.ref ra), .val (.int k), .val (.int le), .val (.int (Int32.ofNat HS)), .val (.int (Int32.ofNat HE)), .val (.ref o), .val (.ref t)] [(.ref ra), (.int (Int32.ofNat HS)), (.int (Int32.ofNat HE)), (.int (6 : Int32)), (.ref o)]))
      obtain ⟨_, T101, L101, X101, hQ101, st101⟩ := kCallS X99 hx hZ (argsL := [(.ref o), (.int (6 : Int32)), (.int (Int32.ofNat HE)), (.int (Int32.ofNat HS)), (.ref ra)]) (rest := []) (c_at l Z a0 hw o ra 6 HS HE (R4 v0 v1 v2 v3) fo _ Jo J_ra (by decide) hHS hHE h1 h2) hown (hw _ (List.mem_of_getElem? (i := 51) rfl)) (hw _ (List.mem_of_getElem? (i := 52) rfl)) (hw _ (List.mem_of_getElem? (i := 53) rfl)) (hw _ (List.mem_of_getElem? (i := 54) rfl)) (by decide) e99 (g := (mkF m 381 #[.val (.long q0), .second, .val (.long q1), .second, .val (.long q2), .second, .val (.long q3), .second, .val (.int q4), .val (.int q5), .val (.long x0), .second, .val (.long x1), .second, .val (.long x2), .second, .val (.long x3), .second, .val (.long y0), .second, .val (.long y2), .second, .val (.long y1), .second, .val (.long y3), .second, .val (.long z1), .second, .val (.long z2), .second, .val (.ref ra), .val (.int k), .val (.int le), .val (.int (Int32.ofNat HS)), .val (.int (Int32.ofNat HE)), .val (.ref o), .val (.ref t)] [(.ref ra), (.int (Int32.ofNat HS)), (.int (Int32.ofNat HE)), (.int (6 : Int32)), (.ref o)])) rfl (by rw [hml]; rfl) (lenOf pd_6 rfl) rfl (W := 0) (by show 2 * 0 + _ ≤ _; exact Nat.le_of_eq rfl) (hb hby at_381) (by decide) (by decide) (by decide) (by decide)
      obtain ⟨rfl, rfl, e101⟩ := hQ101
      rw [List.append_nil] at X101
      refine GoOn.step st101 ?_
      show GoOn p e below _ (T101.setTop (mkF m 384 #[.val (.long q0), .second, .val (.long q1), .second, .val (.long q2), .second, .val (.long q3), .second, .val (.int q4), .val (.int q5), .val (.long x0), .second, .val (.long x1), .second, .val (.long x2), .second, .val (.long x3), .second, .val (.long y0), .second, .val (.long y2), .second, .val (.long y1), .second, .val (.long y3), .second, .val (.long z1), .second, .val (.long z2), .second, .val (.ref ra), .val (.int k), .val (.int le), .val (.int (Int32.ofNat HS)), .val (.int (Int32.ofNat HE)), .val (.ref o), .val (.ref t)] [(.int (1 : Int32))]))
      have hf102 : ¬ ((1 : Int32) = (0 : Int32)) := (by decide)
      refine GoOn.step (fun t₀ k₀ => XS.ifNo X101.here hx rfl (hb hby at_384) rfl ((if0 _ _).trans (feq hf102).1) k₀) ?_
      show GoOn p e below _ (T101.setTop (mkF m 387 #[.val (.long q0), .second, .val (.long q1), .second, .val (.long q2), .second, .val (.long q3), .second, .val (.int q4), .val (.int q5), .val (.long x0), .second, .val (.long x1), .second, .val (.long x2), .second, .val (.long x3), .second, .val (.long y0), .second, .val (.long y2), .second, .val (.long y1), .second, .val (.long y3), .second, .val (.long z1), .second, .val (.long z2), .second, .val (.ref ra), .val (.int k), .val (.int le), .val (.int (Int32.ofNat HS)), .val (.int (Int32.ofNat HE)), .val (.ref o), .val (.ref t)] []))
      refine GoOn.step (fun t₀ k₀ => XS.aload X101.here hx rfl (hb hby at_387) rfl rfl k₀) ?_
      show GoOn p e below _ (T101.setTop (mkF m 389 #[.val (.long q0), .second, .val (.long q1), .second, .val (.long q2), .second, .val (.long q3), .second, .val (.int q4), .val (.int q5), .val (.long x0), .second, .val (.long x1), .second, .val (.long x2), .second, .val (.long x3), .second, .val (.long y0), .second, .val (.long y2), .second, .val (.long y1), .second, .val (.long y3), .second, .val (.long z1), .second, .val (.long z2), .second, .val (.ref ra), .val (.int k), .val (.int le), .val (.int (Int32.ofNat HS)), .val (.int (Int32.ofNat HE)), .val (.ref o), .val (.ref t)] [(.ref o)]))
      refine GoOn.step (fun t₀ k₀ => XS.bipush X101.here hx rfl (hb hby at_389) k₀) ?_
      show GoOn p e below _ (T101.setTop (mkF m 391 #[.val (.long q0), .second, .val (.long q1), .second, .val (.long q2), .second, .val (.long q3), .second, .val (.int q4), .val (.int q5), .val (.long x0), .second, .val (.long x1), .second, .val (.long x2), .second, .val (.long x3), .second, .val (.long y0), .second, .val (.long y2), .second, .val (.long y1), .second, .val (.long y3), .second, .val (.long z1), .second, .val (.long z2), .second, .val (.ref ra), .val (.int k), .val (.int le), .val (.int (Int32.ofNat HS)), .val (.int (Int32.ofNat HE)), .val (.ref o), .val (.ref t)] [(.int (7 : Int32)), (.ref o)]))
      refine GoOn.step (fun t₀ k₀ => XS.iload X101.here hx rfl (hb hby at_391) rfl k₀) ?_
      show GoOn p e below _ (T101.setTop (mkF m 393 #[.val (.long q0), .second, .val (.long q1), .second, .val (.long q2), .second, .val (.long q3), .second, .val (.int q4), .val (.int q5), .val (.long x0), .second, .val (.long x1), .second, .val (.long x2), .second, .val (.long x3), .second, .val (.long y0), .second, .val (.long y2), .second, .val (.long y1), .second, .val (.long y3), .second, .val (.long z1), .second, .val (.long z2), .second, .val (.ref ra), .val (.int k), .val (.int le), .val (.int (Int32.ofNat HS)), .val (.int (Int32.ofNat HE)), .val (.ref o), .val (.ref t)] [(.int (Int32.ofNat HE)), (.int (7 : Int32)), (.ref o)]))
      refine GoOn.step (fun t₀ k₀ => XS.iload X101.here hx rfl (hb hby at_393) rfl k₀) ?_
      show GoOn p e below _ (T101.setTop (mkF m 395 #[.val (.long q0), .second, .val (.long q1), .second, .val (.long q2), .second, .val (.long q3), .second, .val (.int q4), .val (.int q5), .val (.long x0), .second, .val (.long x1), .second, .val (.long x2), .second, .val (.long x3), .second, .val (.long y0), .second, .val (.long y2), .second, .val (.long y1), .second, .val (.long y3), .second, .val (.long z1), .second, .val (.long z2), .second, .val (.ref ra), .val (.int k), .val (.int le), .val (.int (Int32.ofNat HS)), .val (.int (Int32.ofNat HE)), .val (.ref o), .val (.ref t)] [(.int (Int32.ofNat HS)), (.int (Int32.ofNat HE)), (.int (7 : Int32)), (.ref o)]))
      refine GoOn.step (fun t₀ k₀ => XS.aload X101.here hx rfl (hb hby at_395) rfl rfl k₀) ?_
      show GoOn p e below _ (T101.setTop (mkF m 397 #[.val (.long q0), .second, .val (.long q1), .second, .val (.long q2), .second, .val (.long q3), .second, .val (.int q4), .val (.int q5), .val (.long x0), .second, .val (.long x1), .second, .val (.long x2), .second, .val (.long x3), .second, .val (.long y0), .second, .val (.long y2), .second, .val (.long y1), .second, .val (.long y3), .second, .val (.long z1), .second, .val (.long z2), .second, .val (.ref ra), .val (.int k), .val (.int le), .val (.int (Int32.ofNat HS)), .val (.int (Int32.ofNat HE)), .val (.ref o), .val (.ref t)] [(.ref ra), (.int (Int32.ofNat HS)), (.int (Int32.ofNat HE)), (.int (7 : Int32)), (.ref o)]))
      obtain ⟨_, T103, L103, X103, hQ103, st103⟩ := kCallS X101 hx hZ (argsL := [(.ref o), (.int (7 : Int32)), (.int (Int32.ofNat HE)), (.int (Int32.ofNat HS)), (.ref ra)]) (rest := []) (c_at l Z a0 hw o ra 7 HS HE (R4 v0 v1 v2 v3) fo _ Jo J_ra (by decide) hHS hHE h1 h2) hown (hw _ (List.mem_of_getElem? (i := 51) rfl)) (hw _ (List.mem_of_getElem? (i := 52) rfl)) (hw _ (List.mem_of_getElem? (i := 53) rfl)) (hw _ (List.mem_of_getElem? (i := 54) rfl)) (by decide) e101 (g := (mkF m 397 #[.val (.long q0), .second, .val (.long q1), .second, .val (.long q2), .second, .val (.long q3), .second, .val (.int q4), .val (.int q5), .val (.long x0), .second, .val (.long x1), .second, .val (.long x2), .second, .val (.long x3), .second, .val (.long y0), .second, .val (.long y2), .second, .val (.long y1), .second, .val (.long y3), .second, .val (.long z1), .second, .val (.long z2), .second, .val (.ref ra), .val (.int k), .val (.int le), .val (.int (Int32.ofNat HS)), .val (.int (Int32.ofNat HE)), .val (.ref o), .val (.ref t)] [(.ref ra), (.int (Int32.ofNat HS)), (.int (Int32.ofNat HE)), (.int (7 : Int32)), (.ref o)])) rfl (by rw [hml]; rfl) (lenOf pd_6 rfl) rfl (W := 0) (by show 2 * 0 + _ ≤ _; exact Nat.le_of_eq rfl) (hb hby at_397) (by decide) (by decide) (by decide) (by decide)
      obtain ⟨rfl, rfl, e103⟩ := hQ103
      rw [List.append_nil] at X103
      refine GoOn.step st103 ?_
      show GoOn p e below _ (T103.setTop (mkF m 400 #[.val (.long q0), .second, .val (.long q1), .second, .val (.long q2), .second, .val (.long q3), .second, .val (.int q4), .val (.int q5), .val (.long x0), .second, .val (.long x1), .second, .val (.long x2), .second, .val (.long x3), .second, .val (.long y0), .second, .val (.long y2), .second, .val (.long y1), .second, .val (.long y3), .second, .val (.long z1), .second, .val (.long z2), .second, .val (.ref ra), .val (.int k), .val (.int le), .val (.int (Int32.ofNat HS)), .val (.int (Int32.ofNat HE)), .val (.ref o), .val (.ref t)] [(.int (1 : Int32))]))
      have hf104 : ¬ ((1 : Int32) = (0 : Int32)) := (by decide)
      refine GoOn.step (fun t₀ k₀ => XS.ifNo X103.here hx rfl (hb hby at_400) rfl ((if0 _ _).trans (feq hf104).1) k₀) ?_
      show GoOn p e below _ (T103.setTop (mkF m 403 #[.val (.long q0), .second, .val (.long q1), .second, .val (.long q2), .second, .val (.long q3), .second, .val (.int q4), .val (.int q5), .val (.long x0), .second, .val (.long x1), .second, .val (.long x2), .second, .val (.long x3), .second, .val (.long y0), .second, .val (.long y2), .second, .val (.long y1), .second, .val (.long y3), .second, .val (.long z1), .second, .val (.long z2), .second, .val (.ref ra), .val (.int k), .val (.int le), .val (.int (Int32.ofNat HS)), .val (.int (Int32.ofNat HE)), .val (.ref o), .val (.ref t)] []))
      refine GoOn.step (fun t₀ k₀ => XS.iconst X103.here hx rfl (hb hby at_403) k₀) ?_
      show GoOn p e below _ (T103.setTop (mkF m 404 #[.val (.long q0), .second, .val (.long q1), .second, .val (.long q2), .second, .val (.long q3), .second, .val (.int q4), .val (.int q5), .val (.long x0), .second, .val (.long x1), .second, .val (.long x2), .second, .val (.long x3), .second, .val (.long y0), .second, .val (.long y2), .second, .val (.long y1), .second, .val (.long y3), .second, .val (.long z1), .second, .val (.long z2), .second, .val (.ref ra), .val (.int k), .val (.int le), .val (.int (Int32.ofNat HS)), .val (.int (Int32.ofNat HE)), .val (.ref o), .val (.ref t)] [(.int (1 : Int32))]))
      refine GoOn.step (fun t₀ k₀ => XS.goto X103.here hx rfl (pc0 := 404) (pc' := 408) rfl (hb hby at_404) (by decide) (by decide) k₀) ?_
      show GoOn p e below _ (T103.setTop (mkF m 408 #[.val (.long q0), .second, .val (.long q1), .second, .val (.long q2), .second, .val (.long q3), .second, .val (.int q4), .val (.int q5), .val (.long x0), .second, .val (.long x1), .second, .val (.long x2), .second, .val (.long x3), .second, .val (.long y0), .second, .val (.long y2), .second, .val (.long y1), .second, .val (.long y3), .second, .val (.long z1), .second, .val (.long z2), .second, .val (.ref ra), .val (.int k), .val (.int le), .val (.int (Int32.ofNat HS)), .val (.int (Int32.ofNat HE)), .val (.ref o), .val (.ref t)] [(.int (1 : Int32))]))
      exact GoOn.retN X103 hx hrt hlk (by simp) (hb hby at_408) (by decide) (by decide) (by first | exact ⟨rfl, N0⟩ | (rw [e103]; exact ⟨rfl, N0⟩))
    by_cases c0 : (0 : Int32) < le
    · refine GoOn.step (fun t₀ k₀ => XS.ifNo X64.here hx rfl (hb hby at_134) rfl ((if0 _ _).trans (tlt c0).2.2.2) k₀) ?_
      show GoOn p e below _ (T64.setTop (mkF m 137 #[.val (.long q0), .second, .val (.long q1), .second, .val (.long q2), .second, .val (.long q3), .second, .val (.int q4), .val (.int q5), .val (.long x0), .second, .val (.long x1), .second, .val (.long x2), .second, .val (.long x3), .second, .val (.long y0), .second, .val (.long y2), .second, .val (.long y1), .second, .val (.long y3), .second, .val (.long z1), .second, .val (.long z2), .second, .val (.ref ra), .val (.int k), .val (.int le), .unset, .unset, .unset, .unset] []))
      refine GoOn.step (fun t₀ k₀ => XS.aload X64.here hx rfl (hb hby at_137) rfl rfl k₀) ?_
      show GoOn p e below _ (T64.setTop (mkF m 139 #[.val (.long q0), .second, .val (.long q1), .second, .val (.long q2), .second, .val (.long q3), .second, .val (.int q4), .val (.int q5), .val (.long x0), .second, .val (.long x1), .second, .val (.long x2), .second, .val (.long x3), .second, .val (.long y0), .second, .val (.long y2), .second, .val (.long y1), .second, .val (.long y3), .second, .val (.long z1), .second, .val (.long z2), .second, .val (.ref ra), .val (.int k), .val (.int le), .unset, .unset, .unset, .unset] [(.ref ra)]))
      refine GoOn.step (fun t₀ k₀ => XS.iconst X64.here hx rfl (hb hby at_139) k₀) ?_
      show GoOn p e below _ (T64.setTop (mkF m 140 #[.val (.long q0), .second, .val (.long q1), .second, .val (.long q2), .second, .val (.long q3), .second, .val (.int q4), .val (.int q5), .val (.long x0), .second, .val (.long x1), .second, .val (.long x2), .second, .val (.long x3), .second, .val (.long y0), .second, .val (.long y2), .second, .val (.long y1), .second, .val (.long y3), .second, .val (.long z1), .second, .val (.long z2), .second, .val (.ref ra), .val (.int k), .val (.int le), .unset, .unset, .unset, .unset] [(.int (0 : Int32)), (.ref ra)]))
      refine GoOn.step (fun t₀ k₀ => X64.ldc2Long hx hown (mvT hZ (hw _ (List.mem_of_getElem? (i := 8) rfl))) (g := (mkF m 140 #[.val (.long q0), .second, .val (.long q1), .second, .val (.long q2), .second, .val (.long q3), .second, .val (.int q4), .val (.int q5), .val (.long x0), .second, .val (.long x1), .second, .val (.long x2), .second, .val (.long x3), .second, .val (.long y0), .second, .val (.long y2), .second, .val (.long y1), .second, .val (.long y3), .second, .val (.long z1), .second, .val (.long z2), .second, .val (.ref ra), .val (.int k), .val (.int le), .unset, .unset, .unset, .unset] [(.int (0 : Int32)), (.ref ra)])) rfl (hb hby at_140) t₀ k₀) ?_
      show GoOn p e below _ (T64.setTop (mkF m 143 #[.val (.long q0), .second, .val (.long q1), .second, .val (.long q2), .second, .val (.long q3), .second, .val (.int q4), .val (.int q5), .val (.long x0), .second, .val (.long x1), .second, .val (.long x2), .second, .val (.long x3), .second, .val (.long y0), .second, .val (.long y2), .second, .val (.long y1), .second, .val (.long y3), .second, .val (.long z1), .second, .val (.long z2), .second, .val (.ref ra), .val (.int k), .val (.int le), .unset, .unset, .unset, .unset] [(.long (-9223372036854775808 : Int64)), (.int (0 : Int32)), (.ref ra)]))
      obtain ⟨T69, h69, X69, e69, W69, st69⟩ := kStJ X64 hx hZ e64 J_ra (j := (0 : Int32)) ⟨by decide, by decide⟩ (g := (mkF m 143 #[.val (.long q0), .second, .val (.long q1), .second, .val (.long q2), .second, .val (.long q3), .second, .val (.int q4), .val (.int q5), .val (.long x0), .second, .val (.long x1), .second, .val (.long x2), .second, .val (.long x3), .second, .val (.long y0), .second, .val (.long y2), .second, .val (.long y1), .second, .val (.long y3), .second, .val (.long z1), .second, .val (.long z2), .second, .val (.ref ra), .val (.int k), .val (.int le), .unset, .unset, .unset, .unset] [(.long (-9223372036854775808 : Int64)), (.int (0 : Int32)), (.ref ra)])) rfl rfl (hb hby at_143)
      replace N0 := Fr.snoc X69 N0 le_ra
      replace J_ra := J_ra.set W69
      replace Z0 := Nat.le_trans Z0 (Nat.le_of_eq W69.size.symm)
      refine GoOn.step st69 ?_
      show GoOn p e below _ (T69.setTop (mkF m 144 #[.val (.long q0), .second, .val (.long q1), .second, .val (.long q2), .second, .val (.long q3), .second, .val (.int q4), .val (.int q5), .val (.long x0), .second, .val (.long x1), .second, .val (.long x2), .second, .val (.long x3), .second, .val (.long y0), .second, .val (.long y2), .second, .val (.long y1), .second, .val (.long y3), .second, .val (.long z1), .second, .val (.long z2), .second, .val (.ref ra), .val (.int k), .val (.int le), .unset, .unset, .unset, .unset] []))
      replace J_ra : Jar Z h69 ra .long 4 (fun i => .long (R4 (-9223372036854775808 : Int64) z1 z2 y3 i)) := J_ra.congr (fun i hi => match i, hi with | 0, _ => rfl | 1, _ => rfl | 2, _ => rfl | 3, _ => rfl | k + 4, q => absurd q (by omega))
      refine GoOn.step (fun t₀ k₀ => XS.iload X69.here hx rfl (hb hby at_144) rfl k₀) ?_
      show GoOn p e below _ (T69.setTop (mkF m 146 #[.val (.long q0), .second, .val (.long q1), .second, .val (.long q2), .second, .val (.long q3), .second, .val (.int q4), .val (.int q5), .val (.long x0), .second, .val (.long x1), .second, .val (.long x2), .second, .val (.long x3), .second, .val (.long y0), .second, .val (.long y2), .second, .val (.long y1), .second, .val (.long y3), .second, .val (.long z1), .second, .val (.long z2), .second, .val (.ref ra), .val (.int k), .val (.int le), .unset, .unset, .unset, .unset] [(.int le)]))
      refine GoOn.step (fun t₀ k₀ => XS.iconst X69.here hx rfl (hb hby at_146) k₀) ?_
      show GoOn p e below _ (T69.setTop (mkF m 147 #[.val (.long q0), .second, .val (.long q1), .second, .val (.long q2), .second, .val (.long q3), .second, .val (.int q4), .val (.int q5), .val (.long x0), .second, .val (.long x1), .second, .val (.long x2), .second, .val (.long x3), .second, .val (.long y0), .second, .val (.long y2), .second, .val (.long y1), .second, .val (.long y3), .second, .val (.long z1), .second, .val (.long z2), .second, .val (.ref ra), .val (.int k), .val (.int le), .unset, .unset, .unset, .unset] [(.int (1 : Int32)), (.int le)]))
      by_cases c1 : (1 : Int32) < le
      · refine GoOn.step (fun t₀ k₀ => XS.icmpNo X69.here hx rfl (hb hby at_147) rfl (tlt c1).2.2.2 k₀) ?_
        show GoOn p e below _ (T69.setTop (mkF m 150 #[.val (.long q0), .second, .val (.long q1), .second, .val (.long q2), .second, .val (.long q3), .second, .val (.int q4), .val (.int q5), .val (.long x0), .second, .val (.long x1), .second, .val (.long x2), .second, .val (.long x3), .second, .val (.long y0), .second, .val (.long y2), .second, .val (.long y1), .second, .val (.long y3), .second, .val (.long z1), .second, .val (.long z2), .second, .val (.ref ra), .val (.int k), .val (.int le), .unset, .unset, .unset, .unset] []))
        refine GoOn.step (fun t₀ k₀ => XS.aload X69.here hx rfl (hb hby at_150) rfl rfl k₀) ?_
        show GoOn p e below _ (T69.setTop (mkF m 152 #[.val (.long q0), .second, .val (.long q1), .second, .val (.long q2), .second, .val (.long q3), .second, .val (.int q4), .val (.int q5), .val (.long x0), .second, .val (.long x1), .second, .val (.long x2), .second, .val (.long x3), .second, .val (.long y0), .second, .val (.long y2), .second, .val (.long y1), .second, .val (.long y3), .second, .val (.long z1), .second, .val (.long z2), .second, .val (.ref ra), .val (.int k), .val (.int le), .unset, .unset, .unset, .unset] [(.ref ra)]))
        refine GoOn.step (fun t₀ k₀ => XS.iconst X69.here hx rfl (hb hby at_152) k₀) ?_
        show GoOn p e below _ (T69.setTop (mkF m 153 #[.val (.long q0), .second, .val (.long q1), .second, .val (.long q2), .second, .val (.long q3), .second, .val (.int q4), .val (.int q5), .val (.long x0), .second, .val (.long x1), .second, .val (.long x2), .second, .val (.long x3), .second, .val (.long y0), .second, .val (.long y2), .second, .val (.long y1), .second, .val (.long y3), .second, .val (.long z1), .second, .val (.long z2), .second, .val (.ref ra), .val (.int k), .val (.int le), .unset, .unset, .unset, .unset] [(.int (1 : Int32)), (.ref ra)]))
        refine GoOn.step (fun t₀ k₀ => X69.ldc2Long hx hown (mvT hZ (hw _ (List.mem_of_getElem? (i := 8) rfl))) (g := (mkF m 153 #[.val (.long q0), .second, .val (.long q1), .second, .val (.long q2), .second, .val (.long q3), .second, .val (.int q4), .val (.int q5), .val (.long x0), .second, .val (.long x1), .second, .val (.long x2), .second, .val (.long x3), .second, .val (.long y0), .second, .val (.long y2), .second, .val (.long y1), .second, .val (.long y3), .second, .val (.long z1), .second, .val (.long z2), .second, .val (.ref ra), .val (.int k), .val (.int le), .unset, .unset, .unset, .unset] [(.int (1 : Int32)), (.ref ra)])) rfl (hb hby at_153) t₀ k₀) ?_
        show GoOn p e below _ (T69.setTop (mkF m 156 #[.val (.long q0), .second, .val (.long q1), .second, .val (.long q2), .second, .val (.long q3), .second, .val (.int q4), .val (.int q5), .val (.long x0), .second, .val (.long x1), .second, .val (.long x2), .second, .val (.long x3), .second, .val (.long y0), .second, .val (.long y2), .second, .val (.long y1), .second, .val (.long y3), .second, .val (.long z1), .second, .val (.long z2), .second, .val (.ref ra), .val (.int k), .val (.int le), .unset, .unset, .unset, .unset] [(.long (-9223372036854775808 : Int64)), (.int (1 : Int32)), (.ref ra)]))
        obtain ⟨T72, h72, X72, e72, W72, st72⟩ := kStJ X69 hx hZ e69 J_ra (j := (1 : Int32)) ⟨by decide, by decide⟩ (g := (mkF m 156 #[.val (.long q0), .second, .val (.long q1), .second, .val (.long q2), .second, .val (.long q3), .second, .val (.int q4), .val (.int q5), .val (.long x0), .second, .val (.long x1), .second, .val (.long x2), .second, .val (.long x3), .second, .val (.long y0), .second, .val (.long y2), .second, .val (.long y1), .second, .val (.long y3), .second, .val (.long z1), .second, .val (.long z2), .second, .val (.ref ra), .val (.int k), .val (.int le), .unset, .unset, .unset, .unset] [(.long (-9223372036854775808 : Int64)), (.int (1 : Int32)), (.ref ra)])) rfl rfl (hb hby at_156)
        replace N0 := Fr.snoc X72 N0 le_ra
        replace J_ra := J_ra.set W72
        replace Z0 := Nat.le_trans Z0 (Nat.le_of_eq W72.size.symm)
        refine GoOn.step st72 ?_
        show GoOn p e below _ (T72.setTop (mkF m 157 #[.val (.long q0), .second, .val (.long q1), .second, .val (.long q2), .second, .val (.long q3), .second, .val (.int q4), .val (.int q5), .val (.long x0), .second, .val (.long x1), .second, .val (.long x2), .second, .val (.long x3), .second, .val (.long y0), .second, .val (.long y2), .second, .val (.long y1), .second, .val (.long y3), .second, .val (.long z1), .second, .val (.long z2), .second, .val (.ref ra), .val (.int k), .val (.int le), .unset, .unset, .unset, .unset] []))
        replace J_ra : Jar Z h72 ra .long 4 (fun i => .long (R4 (-9223372036854775808 : Int64) (-9223372036854775808 : Int64) z2 y3 i)) := J_ra.congr (fun i hi => match i, hi with | 0, _ => rfl | 1, _ => rfl | 2, _ => rfl | 3, _ => rfl | k + 4, q => absurd q (by omega))
        refine GoOn.step (fun t₀ k₀ => XS.iload X72.here hx rfl (hb hby at_157) rfl k₀) ?_
        show GoOn p e below _ (T72.setTop (mkF m 159 #[.val (.long q0), .second, .val (.long q1), .second, .val (.long q2), .second, .val (.long q3), .second, .val (.int q4), .val (.int q5), .val (.long x0), .second, .val (.long x1), .second, .val (.long x2), .second, .val (.long x3), .second, .val (.long y0), .second, .val (.long y2), .second, .val (.long y1), .second, .val (.long y3), .second, .val (.long z1), .second, .val (.long z2), .second, .val (.ref ra), .val (.int k), .val (.int le), .unset, .unset, .unset, .unset] [(.int le)]))
        refine GoOn.step (fun t₀ k₀ => XS.iconst X72.here hx rfl (hb hby at_159) k₀) ?_
        show GoOn p e below _ (T72.setTop (mkF m 160 #[.val (.long q0), .second, .val (.long q1), .second, .val (.long q2), .second, .val (.long q3), .second, .val (.int q4), .val (.int q5), .val (.long x0), .second, .val (.long x1), .second, .val (.long x2), .second, .val (.long x3), .second, .val (.long y0), .second, .val (.long y2), .second, .val (.long y1), .second, .val (.long y3), .second, .val (.long z1), .second, .val (.long z2), .second, .val (.ref ra), .val (.int k), .val (.int le), .unset, .unset, .unset, .unset] [(.int (2 : Int32)), (.int le)]))
        by_cases c2 : (2 : Int32) < le
        · refine GoOn.step (fun t₀ k₀ => XS.icmpNo X72.here hx rfl (hb hby at_160) rfl (tlt c2).2.2.2 k₀) ?_
          show GoOn p e below _ (T72.setTop (mkF m 163 #[.val (.long q0), .second, .val (.long q1), .second, .val (.long q2), .second, .val (.long q3), .second, .val (.int q4), .val (.int q5), .val (.long x0), .second, .val (.long x1), .second, .val (.long x2), .second, .val (.long x3), .second, .val (.long y0), .second, .val (.long y2), .second, .val (.long y1), .second, .val (.long y3), .second, .val (.long z1), .second, .val (.long z2), .second, .val (.ref ra), .val (.int k), .val (.int le), .unset, .unset, .unset, .unset] []))
          refine GoOn.step (fun t₀ k₀ => XS.aload X72.here hx rfl (hb hby at_163) rfl rfl k₀) ?_
          show GoOn p e below _ (T72.setTop (mkF m 165 #[.val (.long q0), .second, .val (.long q1), .second, .val (.long q2), .second, .val (.long q3), .second, .val (.int q4), .val (.int q5), .val (.long x0), .second, .val (.long x1), .second, .val (.long x2), .second, .val (.long x3), .second, .val (.long y0), .second, .val (.long y2), .second, .val (.long y1), .second, .val (.long y3), .second, .val (.long z1), .second, .val (.long z2), .second, .val (.ref ra), .val (.int k), .val (.int le), .unset, .unset, .unset, .unset] [(.ref ra)]))
          refine GoOn.step (fun t₀ k₀ => XS.iconst X72.here hx rfl (hb hby at_165) k₀) ?_
          show GoOn p e below _ (T72.setTop (mkF m 166 #[.val (.long q0), .second, .val (.long q1), .second, .val (.long q2), .second, .val (.long q3), .second, .val (.int q4), .val (.int q5), .val (.long x0), .second, .val (.long x1), .second, .val (.long x2), .second, .val (.long x3), .second, .val (.long y0), .second, .val (.long y2), .second, .val (.long y1), .second, .val (.long y3), .second, .val (.long z1), .second, .val (.long z2), .second, .val (.ref ra), .val (.int k), .val (.int le), .unset, .unset, .unset, .unset] [(.int (2 : Int32)), (.ref ra)]))
          refine GoOn.step (fun t₀ k₀ => X72.ldc2Long hx hown (mvT hZ (hw _ (List.mem_of_getElem? (i := 8) rfl))) (g := (mkF m 166 #[.val (.long q0), .second, .val (.long q1), .second, .val (.long q2), .second, .val (.long q3), .second, .val (.int q4), .val (.int q5), .val (.long x0), .second, .val (.long x1), .second, .val (.long x2), .second, .val (.long x3), .second, .val (.long y0), .second, .val (.long y2), .second, .val (.long y1), .second, .val (.long y3), .second, .val (.long z1), .second, .val (.long z2), .second, .val (.ref ra), .val (.int k), .val (.int le), .unset, .unset, .unset, .unset] [(.int (2 : Int32)), (.ref ra)])) rfl (hb hby at_166) t₀ k₀) ?_
          show GoOn p e below _ (T72.setTop (mkF m 169 #[.val (.long q0), .second, .val (.long q1), .second, .val (.long q2), .second, .val (.long q3), .second, .val (.int q4), .val (.int q5), .val (.long x0), .second, .val (.long x1), .second, .val (.long x2), .second, .val (.long x3), .second, .val (.long y0), .second, .val (.long y2), .second, .val (.long y1), .second, .val (.long y3), .second, .val (.long z1), .second, .val (.long z2), .second, .val (.ref ra), .val (.int k), .val (.int le), .unset, .unset, .unset, .unset] [(.long (-9223372036854775808 : Int64)), (.int (2 : Int32)), (.ref ra)]))
          obtain ⟨T74, h74, X74, e74, W74, st74⟩ := kStJ X72 hx hZ e72 J_ra (j := (2 : Int32)) ⟨by decide, by decide⟩ (g := (mkF m 169 #[.val (.long q0), .second, .val (.long q1), .second, .val (.long q2), .second, .val (.long q3), .second, .val (.int q4), .val (.int q5), .val (.long x0), .second, .val (.long x1), .second, .val (.long x2), .second, .val (.long x3), .second, .val (.long y0), .second, .val (.long y2), .second, .val (.long y1), .second, .val (.long y3), .second, .val (.long z1), .second, .val (.long z2), .second, .val (.ref ra), .val (.int k), .val (.int le), .unset, .unset, .unset, .unset] [(.long (-9223372036854775808 : Int64)), (.int (2 : Int32)), (.ref ra)])) rfl rfl (hb hby at_169)
          replace N0 := Fr.snoc X74 N0 le_ra
          replace J_ra := J_ra.set W74
          replace Z0 := Nat.le_trans Z0 (Nat.le_of_eq W74.size.symm)
          refine GoOn.step st74 ?_
          show GoOn p e below _ (T74.setTop (mkF m 170 #[.val (.long q0), .second, .val (.long q1), .second, .val (.long q2), .second, .val (.long q3), .second, .val (.int q4), .val (.int q5), .val (.long x0), .second, .val (.long x1), .second, .val (.long x2), .second, .val (.long x3), .second, .val (.long y0), .second, .val (.long y2), .second, .val (.long y1), .second, .val (.long y3), .second, .val (.long z1), .second, .val (.long z2), .second, .val (.ref ra), .val (.int k), .val (.int le), .unset, .unset, .unset, .unset] []))
          replace J_ra : Jar Z h74 ra .long 4 (fun i => .long (R4 (-9223372036854775808 : Int64) (-9223372036854775808 : Int64) (-9223372036854775808 : Int64) y3 i)) := J_ra.congr (fun i hi => match i, hi with | 0, _ => rfl | 1, _ => rfl | 2, _ => rfl | 3, _ => rfl | k + 4, q => absurd q (by omega))
          refine GoOn.step (fun t₀ k₀ => XS.iload X74.here hx rfl (hb hby at_170) rfl k₀) ?_
          show GoOn p e below _ (T74.setTop (mkF m 172 #[.val (.long q0), .second, .val (.long q1), .second, .val (.long q2), .second, .val (.long q3), .second, .val (.int q4), .val (.int q5), .val (.long x0), .second, .val (.long x1), .second, .val (.long x2), .second, .val (.long x3), .second, .val (.long y0), .second, .val (.long y2), .second, .val (.long y1), .second, .val (.long y3), .second, .val (.long z1), .second, .val (.long z2), .second, .val (.ref ra), .val (.int k), .val (.int le), .unset, .unset, .unset, .unset] [(.int le)]))
          refine GoOn.step (fun t₀ k₀ => XS.iconst X74.here hx rfl (hb hby at_172) k₀) ?_
          show GoOn p e below _ (T74.setTop (mkF m 173 #[.val (.long q0), .second, .val (.long q1), .second, .val (.long q2), .second, .val (.long q3), .second, .val (.int q4), .val (.int q5), .val (.long x0), .second, .val (.long x1), .second, .val (.long x2), .second, .val (.long x3), .second, .val (.long y0), .second, .val (.long y2), .second, .val (.long y1), .second, .val (.long y3), .second, .val (.long z1), .second, .val (.long z2), .second, .val (.ref ra), .val (.int k), .val (.int le), .unset, .unset, .unset, .unset] [(.int (3 : Int32)), (.int le)]))
          by_cases c3 : (3 : Int32) < le
          · refine GoOn.step (fun t₀ k₀ => XS.icmpNo X74.here hx rfl (hb hby at_173) rfl (tlt c3).2.2.2 k₀) ?_
            show GoOn p e below _ (T74.setTop (mkF m 176 #[.val (.long q0), .second, .val (.long q1), .second, .val (.long q2), .second, .val (.long q3), .second, .val (.int q4), .val (.int q5), .val (.long x0), .second, .val (.long x1), .second, .val (.long x2), .second, .val (.long x3), .second, .val (.long y0), .second, .val (.long y2), .second, .val (.long y1), .second, .val (.long y3), .second, .val (.long z1), .second, .val (.long z2), .second, .val (.ref ra), .val (.int k), .val (.int le), .unset, .unset, .unset, .unset] []))
            refine GoOn.step (fun t₀ k₀ => XS.aload X74.here hx rfl (hb hby at_176) rfl rfl k₀) ?_
            show GoOn p e below _ (T74.setTop (mkF m 178 #[.val (.long q0), .second, .val (.long q1), .second, .val (.long q2), .second, .val (.long q3), .second, .val (.int q4), .val (.int q5), .val (.long x0), .second, .val (.long x1), .second, .val (.long x2), .second, .val (.long x3), .second, .val (.long y0), .second, .val (.long y2), .second, .val (.long y1), .second, .val (.long y3), .second, .val (.long z1), .second, .val (.long z2), .second, .val (.ref ra), .val (.int k), .val (.int le), .unset, .unset, .unset, .unset] [(.ref ra)]))
            refine GoOn.step (fun t₀ k₀ => XS.iconst X74.here hx rfl (hb hby at_178) k₀) ?_
            show GoOn p e below _ (T74.setTop (mkF m 179 #[.val (.long q0), .second, .val (.long q1), .second, .val (.long q2), .second, .val (.long q3), .second, .val (.int q4), .val (.int q5), .val (.long x0), .second, .val (.long x1), .second, .val (.long x2), .second, .val (.long x3), .second, .val (.long y0), .second, .val (.long y2), .second, .val (.long y1), .second, .val (.long y3), .second, .val (.long z1), .second, .val (.long z2), .second, .val (.ref ra), .val (.int k), .val (.int le), .unset, .unset, .unset, .unset] [(.int (3 : Int32)), (.ref ra)]))
            refine GoOn.step (fun t₀ k₀ => X74.ldc2Long hx hown (mvT hZ (hw _ (List.mem_of_getElem? (i := 8) rfl))) (g := (mkF m 179 #[.val (.long q0), .second, .val (.long q1), .second, .val (.long q2), .second, .val (.long q3), .second, .val (.int q4), .val (.int q5), .val (.long x0), .second, .val (.long x1), .second, .val (.long x2), .second, .val (.long x3), .second, .val (.long y0), .second, .val (.long y2), .second, .val (.long y1), .second, .val (.long y3), .second, .val (.long z1), .second, .val (.long z2), .second, .val (.ref ra), .val (.int k), .val (.int le), .unset, .unset, .unset, .unset] [(.int (3 : Int32)), (.ref ra)])) rfl (hb hby at_179) t₀ k₀) ?_
            show GoOn p e below _ (T74.setTop (mkF m 182 #[.val (.long q0), .second, .val (.long q1), .second, .val (.long q2), .second, .val (.long q3), .second, .val (.int q4), .val (.int q5), .val (.long x0), .second, .val (.long x1), .second, .val (.long x2), .second, .val (.long x3), .second, .val (.long y0), .second, .val (.long y2), .second, .val (.long y1), .second, .val (.long y3), .second, .val (.long z1), .second, .val (.long z2), .second, .val (.ref ra), .val (.int k), .val (.int le), .unset, .unset, .unset, .unset] [(.long (-9223372036854775808 : Int64)), (.int (3 : Int32)), (.ref ra)]))
            obtain ⟨T75, h75, X75, e75, W75, st75⟩ := kStJ X74 hx hZ e74 J_ra (j := (3 : Int32)) ⟨by decide, by decide⟩ (g := (mkF m 182 #[.val (.long q0), .second, .val (.long q1), .second, .val (.long q2), .second, .val (.long q3), .second, .val (.int q4), .val (.int q5), .val (.long x0), .second, .val (.long x1), .second, .val (.long x2), .second, .val (.long x3), .second, .val (.long y0), .second, .val (.long y2), .second, .val (.long y1), .second, .val (.long y3), .second, .val (.long z1), .second, .val (.long z2), .second, .val (.ref ra), .val (.int k), .val (.int le), .unset, .unset, .unset, .unset] [(.long (-9223372036854775808 : Int64)), (.int (3 : Int32)), (.ref ra)])) rfl rfl (hb hby at_182)
            replace N0 := Fr.snoc X75 N0 le_ra
            replace J_ra := J_ra.set W75
            replace Z0 := Nat.le_trans Z0 (Nat.le_of_eq W75.size.symm)
            refine GoOn.step st75 ?_
            show GoOn p e below _ (T75.setTop (mkF m 183 #[.val (.long q0), .second, .val (.long q1), .second, .val (.long q2), .second, .val (.long q3), .second, .val (.int q4), .val (.int q5), .val (.long x0), .second, .val (.long x1), .second, .val (.long x2), .second, .val (.long x3), .second, .val (.long y0), .second, .val (.long y2), .second, .val (.long y1), .second, .val (.long y3), .second, .val (.long z1), .second, .val (.long z2), .second, .val (.ref ra), .val (.int k), .val (.int le), .unset, .unset, .unset, .unset] []))
            replace J_ra : Jar Z h75 ra .long 4 (fun i => .long (R4 (-9223372036854775808 : Int64) (-9223372036854775808 : Int64) (-9223372036854775808 : Int64) (-9223372036854775808 : Int64) i)) := J_ra.congr (fun i hi => match i, hi with | 0, _ => rfl | 1, _ => rfl | 2, _ => rfl | 3, _ => rfl | k + 4, q => absurd q (by omega))
            exact JR (-9223372036854775808 : Int64) (-9223372036854775808 : Int64) (-9223372036854775808 : Int64) (-9223372036854775808 : Int64) _ _ _ X75 e75 N0 Z0 J_ra ⟨by first | exact minL _ | exact o1 | exact o2 | exact o3 | omega, by first | exact minL _ | exact o1 | exact o2 | exact o3 | omega, by first | exact minL _ | exact o1 | exact o2 | exact o3 | omega⟩
          · refine GoOn.step (fun t₀ k₀ => XS.icmpYes X74.here hx rfl (pc0 := 173) (pc' := 183) rfl (hb hby at_173) rfl (flt c3).2.2.2 (by decide) (by decide) k₀) ?_
            show GoOn p e below _ (T74.setTop (mkF m 183 #[.val (.long q0), .second, .val (.long q1), .second, .val (.long q2), .second, .val (.long q3), .second, .val (.int q4), .val (.int q5), .val (.long x0), .second, .val (.long x1), .second, .val (.long x2), .second, .val (.long x3), .second, .val (.long y0), .second, .val (.long y2), .second, .val (.long y1), .second, .val (.long y3), .second, .val (.long z1), .second, .val (.long z2), .second, .val (.ref ra), .val (.int k), .val (.int le), .unset, .unset, .unset, .unset] []))
            exact JR (-9223372036854775808 : Int64) (-9223372036854775808 : Int64) (-9223372036854775808 : Int64) y3 _ _ _ X74 e74 N0 Z0 J_ra ⟨by first | exact minL _ | exact o1 | exact o2 | exact o3 | omega, by first | exact minL _ | exact o1 | exact o2 | exact o3 | omega, by first | exact minL _ | exact o1 | exact o2 | exact o3 | omega⟩
        · refine GoOn.step (fun t₀ k₀ => XS.icmpYes X72.here hx rfl (pc0 := 160) (pc' := 170) rfl (hb hby at_160) rfl (flt c2).2.2.2 (by decide) (by decide) k₀) ?_
          show GoOn p e below _ (T72.setTop (mkF m 170 #[.val (.long q0), .second, .val (.long q1), .second, .val (.long q2), .second, .val (.long q3), .second, .val (.int q4), .val (.int q5), .val (.long x0), .second, .val (.long x1), .second, .val (.long x2), .second, .val (.long x3), .second, .val (.long y0), .second, .val (.long y2), .second, .val (.long y1), .second, .val (.long y3), .second, .val (.long z1), .second, .val (.long z2), .second, .val (.ref ra), .val (.int k), .val (.int le), .unset, .unset, .unset, .unset] []))
          refine GoOn.step (fun t₀ k₀ => XS.iload X72.here hx rfl (hb hby at_170) rfl k₀) ?_
          show GoOn p e below _ (T72.setTop (mkF m 172 #[.val (.long q0), .second, .val (.long q1), .second, .val (.long q2), .second, .val (.long q3), .second, .val (.int q4), .val (.int q5), .val (.long x0), .second, .val (.long x1), .second, .val (.long x2), .second, .val (.long x3), .second, .val (.long y0), .second, .val (.long y2), .second, .val (.long y1), .second, .val (.long y3), .second, .val (.long z1), .second, .val (.long z2), .second, .val (.ref ra), .val (.int k), .val (.int le), .unset, .unset, .unset, .unset] [(.int le)]))
          refine GoOn.step (fun t₀ k₀ => XS.iconst X72.here hx rfl (hb hby at_172) k₀) ?_
          show GoOn p e below _ (T72.setTop (mkF m 173 #[.val (.long q0), .second, .val (.long q1), .second, .val (.long q2), .second, .val (.long q3), .second, .val (.int q4), .val (.int q5), .val (.long x0), .second, .val (.long x1), .second, .val (.long x2), .second, .val (.long x3), .second, .val (.long y0), .second, .val (.long y2), .second, .val (.long y1), .second, .val (.long y3), .second, .val (.long z1), .second, .val (.long z2), .second, .val (.ref ra), .val (.int k), .val (.int le), .unset, .unset, .unset, .unset] [(.int (3 : Int32)), (.int le)]))
          have hf73 : ¬ ((3 : Int32) < le) := (fun h => c2 (by simp only [Int32.lt_iff_toInt_lt, Int32.reduceToInt] at h ⊢; omega))
          refine GoOn.step (fun t₀ k₀ => XS.icmpYes X72.here hx rfl (pc0 := 173) (pc' := 183) rfl (hb hby at_173) rfl (flt hf73).2.2.2 (by decide) (by decide) k₀) ?_
          show GoOn p e below _ (T72.setTop (mkF m 183 #[.val (.long q0), .second, .val (.long q1), .second, .val (.long q2), .second, .val (.long q3), .second, .val (.int q4), .val (.int q5), .val (.long x0), .second, .val (.long x1), .second, .val (.long x2), .second, .val (.long x3), .second, .val (.long y0), .second, .val (.long y2), .second, .val (.long y1), .second, .val (.long y3), .second, .val (.long z1), .second, .val (.long z2), .second, .val (.ref ra), .val (.int k), .val (.int le), .unset, .unset, .unset, .unset] []))
          exact JR (-9223372036854775808 : Int64) (-9223372036854775808 : Int64) z2 y3 _ _ _ X72 e72 N0 Z0 J_ra ⟨by first | exact minL _ | exact o1 | exact o2 | exact o3 | omega, by first | exact minL _ | exact o1 | exact o2 | exact o3 | omega, by first | exact minL _ | exact o1 | exact o2 | exact o3 | omega⟩
      · refine GoOn.step (fun t₀ k₀ => XS.icmpYes X69.here hx rfl (pc0 := 147) (pc' := 157) rfl (hb hby at_147) rfl (flt c1).2.2.2 (by decide) (by decide) k₀) ?_
        show GoOn p e below _ (T69.setTop (mkF m 157 #[.val (.long q0), .second, .val (.long q1), .second, .val (.long q2), .second, .val (.long q3), .second, .val (.int q4), .val (.int q5), .val (.long x0), .second, .val (.long x1), .second, .val (.long x2), .second, .val (.long x3), .second, .val (.long y0), .second, .val (.long y2), .second, .val (.long y1), .second, .val (.long y3), .second, .val (.long z1), .second, .val (.long z2), .second, .val (.ref ra), .val (.int k), .val (.int le), .unset, .unset, .unset, .unset] []))
        refine GoOn.step (fun t₀ k₀ => XS.iload X69.here hx rfl (hb hby at_157) rfl k₀) ?_
        show GoOn p e below _ (T69.setTop (mkF m 159 #[.val (.long q0), .second, .val (.long q1), .second, .val (.long q2), .second, .val (.long q3), .second, .val (.int q4), .val (.int q5), .val (.long x0), .second, .val (.long x1), .second, .val (.long x2), .second, .val (.long x3), .second, .val (.long y0), .second, .val (.long y2), .second, .val (.long y1), .second, .val (.long y3), .second, .val (.long z1), .second, .val (.long z2), .second, .val (.ref ra), .val (.int k), .val (.int le), .unset, .unset, .unset, .unset] [(.int le)]))
        refine GoOn.step (fun t₀ k₀ => XS.iconst X69.here hx rfl (hb hby at_159) k₀) ?_
        show GoOn p e below _ (T69.setTop (mkF m 160 #[.val (.long q0), .second, .val (.long q1), .second, .val (.long q2), .second, .val (.long q3), .second, .val (.int q4), .val (.int q5), .val (.long x0), .second, .val (.long x1), .second, .val (.long x2), .second, .val (.long x3), .second, .val (.long y0), .second, .val (.long y2), .second, .val (.long y1), .second, .val (.long y3), .second, .val (.long z1), .second, .val (.long z2), .second, .val (.ref ra), .val (.int k), .val (.int le), .unset, .unset, .unset, .unset] [(.int (2 : Int32)), (.int le)]))
        have hf70 : ¬ ((2 : Int32) < le) := (fun h => c1 (by simp only [Int32.lt_iff_toInt_lt, Int32.reduceToInt] at h ⊢; omega))
        refine GoOn.step (fun t₀ k₀ => XS.icmpYes X69.here hx rfl (pc0 := 160) (pc' := 170) rfl (hb hby at_160) rfl (flt hf70).2.2.2 (by decide) (by decide) k₀) ?_
        show GoOn p e below _ (T69.setTop (mkF m 170 #[.val (.long q0), .second, .val (.long q1), .second, .val (.long q2), .second, .val (.long q3), .second, .val (.int q4), .val (.int q5), .val (.long x0), .second, .val (.long x1), .second, .val (.long x2), .second, .val (.long x3), .second, .val (.long y0), .second, .val (.long y2), .second, .val (.long y1), .second, .val (.long y3), .second, .val (.long z1), .second, .val (.long z2), .second, .val (.ref ra), .val (.int k), .val (.int le), .unset, .unset, .unset, .unset] []))
        refine GoOn.step (fun t₀ k₀ => XS.iload X69.here hx rfl (hb hby at_170) rfl k₀) ?_
        show GoOn p e below _ (T69.setTop (mkF m 172 #[.val (.long q0), .second, .val (.long q1), .second, .val (.long q2), .second, .val (.long q3), .second, .val (.int q4), .val (.int q5), .val (.long x0), .second, .val (.long x1), .second, .val (.long x2), .second, .val (.long x3), .second, .val (.long y0), .second, .val (.long y2), .second, .val (.long y1), .second, .val (.long y3), .second, .val (.long z1), .second, .val (.long z2), .second, .val (.ref ra), .val (.int k), .val (.int le), .unset, .unset, .unset, .unset] [(.int le)]))
        refine GoOn.step (fun t₀ k₀ => XS.iconst X69.here hx rfl (hb hby at_172) k₀) ?_
        show GoOn p e below _ (T69.setTop (mkF m 173 #[.val (.long q0), .second, .val (.long q1), .second, .val (.long q2), .second, .val (.long q3), .second, .val (.int q4), .val (.int q5), .val (.long x0), .second, .val (.long x1), .second, .val (.long x2), .second, .val (.long x3), .second, .val (.long y0), .second, .val (.long y2), .second, .val (.long y1), .second, .val (.long y3), .second, .val (.long z1), .second, .val (.long z2), .second, .val (.ref ra), .val (.int k), .val (.int le), .unset, .unset, .unset, .unset] [(.int (3 : Int32)), (.int le)]))
        have hf71 : ¬ ((3 : Int32) < le) := (fun h => c1 (by simp only [Int32.lt_iff_toInt_lt, Int32.reduceToInt] at h ⊢; omega))
        refine GoOn.step (fun t₀ k₀ => XS.icmpYes X69.here hx rfl (pc0 := 173) (pc' := 183) rfl (hb hby at_173) rfl (flt hf71).2.2.2 (by decide) (by decide) k₀) ?_
        show GoOn p e below _ (T69.setTop (mkF m 183 #[.val (.long q0), .second, .val (.long q1), .second, .val (.long q2), .second, .val (.long q3), .second, .val (.int q4), .val (.int q5), .val (.long x0), .second, .val (.long x1), .second, .val (.long x2), .second, .val (.long x3), .second, .val (.long y0), .second, .val (.long y2), .second, .val (.long y1), .second, .val (.long y3), .second, .val (.long z1), .second, .val (.long z2), .second, .val (.ref ra), .val (.int k), .val (.int le), .unset, .unset, .unset, .unset] []))
        exact JR (-9223372036854775808 : Int64) z1 z2 y3 _ _ _ X69 e69 N0 Z0 J_ra ⟨by first | exact minL _ | exact o1 | exact o2 | exact o3 | omega, by first | exact minL _ | exact o1 | exact o2 | exact o3 | omega, by first | exact minL _ | exact o1 | exact o2 | exact o3 | omega⟩
    · refine GoOn.step (fun t₀ k₀ => XS.ifYes X64.here hx rfl (pc0 := 134) (pc' := 144) rfl (hb hby at_134) rfl ((if0 _ _).trans (flt c0).2.2.2) (by decide) (by decide) k₀) ?_
      show GoOn p e below _ (T64.setTop (mkF m 144 #[.val (.long q0), .second, .val (.long q1), .second, .val (.long q2), .second, .val (.long q3), .second, .val (.int q4), .val (.int q5), .val (.long x0), .second, .val (.long x1), .second, .val (.long x2), .second, .val (.long x3), .second, .val (.long y0), .second, .val (.long y2), .second, .val (.long y1), .second, .val (.long y3), .second, .val (.long z1), .second, .val (.long z2), .second, .val (.ref ra), .val (.int k), .val (.int le), .unset, .unset, .unset, .unset] []))
      refine GoOn.step (fun t₀ k₀ => XS.iload X64.here hx rfl (hb hby at_144) rfl k₀) ?_
      show GoOn p e below _ (T64.setTop (mkF m 146 #[.val (.long q0), .second, .val (.long q1), .second, .val (.long q2), .second, .val (.long q3), .second, .val (.int q4), .val (.int q5), .val (.long x0), .second, .val (.long x1), .second, .val (.long x2), .second, .val (.long x3), .second, .val (.long y0), .second, .val (.long y2), .second, .val (.long y1), .second, .val (.long y3), .second, .val (.long z1), .second, .val (.long z2), .second, .val (.ref ra), .val (.int k), .val (.int le), .unset, .unset, .unset, .unset] [(.int le)]))
      refine GoOn.step (fun t₀ k₀ => XS.iconst X64.here hx rfl (hb hby at_146) k₀) ?_
      show GoOn p e below _ (T64.setTop (mkF m 147 #[.val (.long q0), .second, .val (.long q1), .second, .val (.long q2), .second, .val (.long q3), .second, .val (.int q4), .val (.int q5), .val (.long x0), .second, .val (.long x1), .second, .val (.long x2), .second, .val (.long x3), .second, .val (.long y0), .second, .val (.long y2), .second, .val (.long y1), .second, .val (.long y3), .second, .val (.long z1), .second, .val (.long z2), .second, .val (.ref ra), .val (.int k), .val (.int le), .unset, .unset, .unset, .unset] [(.int (1 : Int32)), (.int le)]))
      have hf66 : ¬ ((1 : Int32) < le) := (fun h => c0 (by simp only [Int32.lt_iff_toInt_lt, Int32.reduceToInt] at h ⊢; omega))
      refine GoOn.step (fun t₀ k₀ => XS.icmpYes X64.here hx rfl (pc0 := 147) (pc' := 157) rfl (hb hby at_147) rfl (flt hf66).2.2.2 (by decide) (by decide) k₀) ?_
      show GoOn p e below _ (T64.setTop (mkF m 157 #[.val (.long q0), .second, .val (.long q1), .second, .val (.long q2), .second, .val (.long q3), .second, .val (.int q4), .val (.int q5), .val (.long x0), .second, .val (.long x1), .second, .val (.long x2), .second, .val (.long x3), .second, .val (.long y0), .second, .val (.long y2), .second, .val (.long y1), .second, .val (.long y3), .second, .val (.long z1), .second, .val (.long z2), .second, .val (.ref ra), .val (.int k), .val (.int le), .unset, .unset, .unset, .unset] []))
      refine GoOn.step (fun t₀ k₀ => XS.iload X64.here hx rfl (hb hby at_157) rfl k₀) ?_
      show GoOn p e below _ (T64.setTop (mkF m 159 #[.val (.long q0), .second, .val (.long q1), .second, .val (.long q2), .second, .val (.long q3), .second, .val (.int q4), .val (.int q5), .val (.long x0), .second, .val (.long x1), .second, .val (.long x2), .second, .val (.long x3), .second, .val (.long y0), .second, .val (.long y2), .second, .val (.long y1), .second, .val (.long y3), .second, .val (.long z1), .second, .val (.long z2), .second, .val (.ref ra), .val (.int k), .val (.int le), .unset, .unset, .unset, .unset] [(.int le)]))
      refine GoOn.step (fun t₀ k₀ => XS.iconst X64.here hx rfl (hb hby at_159) k₀) ?_
      show GoOn p e below _ (T64.setTop (mkF m 160 #[.val (.long q0), .second, .val (.long q1), .second, .val (.long q2), .second, .val (.long q3), .second, .val (.int q4), .val (.int q5), .val (.long x0), .second, .val (.long x1), .second, .val (.long x2), .second, .val (.long x3), .second, .val (.long y0), .second, .val (.long y2), .second, .val (.long y1), .second, .val (.long y3), .second, .val (.long z1), .second, .val (.long z2), .second, .val (.ref ra), .val (.int k), .val (.int le), .unset, .unset, .unset, .unset] [(.int (2 : Int32)), (.int le)]))
      have hf67 : ¬ ((2 : Int32) < le) := (fun h => c0 (by simp only [Int32.lt_iff_toInt_lt, Int32.reduceToInt] at h ⊢; omega))
      refine GoOn.step (fun t₀ k₀ => XS.icmpYes X64.here hx rfl (pc0 := 160) (pc' := 170) rfl (hb hby at_160) rfl (flt hf67).2.2.2 (by decide) (by decide) k₀) ?_
      show GoOn p e below _ (T64.setTop (mkF m 170 #[.val (.long q0), .second, .val (.long q1), .second, .val (.long q2), .second, .val (.long q3), .second, .val (.int q4), .val (.int q5), .val (.long x0), .second, .val (.long x1), .second, .val (.long x2), .second, .val (.long x3), .second, .val (.long y0), .second, .val (.long y2), .second, .val (.long y1), .second, .val (.long y3), .second, .val (.long z1), .second, .val (.long z2), .second, .val (.ref ra), .val (.int k), .val (.int le), .unset, .unset, .unset, .unset] []))
      refine GoOn.step (fun t₀ k₀ => XS.iload X64.here hx rfl (hb hby at_170) rfl k₀) ?_
      show GoOn p e below _ (T64.setTop (mkF m 172 #[.val (.long q0), .second, .val (.long q1), .second, .val (.long q2), .second, .val (.long q3), .second, .val (.int q4), .val (.int q5), .val (.long x0), .second, .val (.long x1), .second, .val (.long x2), .second, .val (.long x3), .second, .val (.long y0), .second, .val (.long y2), .second, .val (.long y1), .second, .val (.long y3), .second, .val (.long z1), .second, .val (.long z2), .second, .val (.ref ra), .val (.int k), .val (.int le), .unset, .unset, .unset, .unset] [(.int le)]))
      refine GoOn.step (fun t₀ k₀ => XS.iconst X64.here hx rfl (hb hby at_172) k₀) ?_
      show GoOn p e below _ (T64.setTop (mkF m 173 #[.val (.long q0), .second, .val (.long q1), .second, .val (.long q2), .second, .val (.long q3), .second, .val (.int q4), .val (.int q5), .val (.long x0), .second, .val (.long x1), .second, .val (.long x2), .second, .val (.long x3), .second, .val (.long y0), .second, .val (.long y2), .second, .val (.long y1), .second, .val (.long y3), .second, .val (.long z1), .second, .val (.long z2), .second, .val (.ref ra), .val (.int k), .val (.int le), .unset, .unset, .unset, .unset] [(.int (3 : Int32)), (.int le)]))
      have hf68 : ¬ ((3 : Int32) < le) := (fun h => c0 (by simp only [Int32.lt_iff_toInt_lt, Int32.reduceToInt] at h ⊢; omega))
      refine GoOn.step (fun t₀ k₀ => XS.icmpYes X64.here hx rfl (pc0 := 173) (pc' := 183) rfl (hb hby at_173) rfl (flt hf68).2.2.2 (by decide) (by decide) k₀) ?_
      show GoOn p e below _ (T64.setTop (mkF m 183 #[.val (.long q0), .second, .val (.long q1), .second, .val (.long q2), .second, .val (.long q3), .second, .val (.int q4), .val (.int q5), .val (.long x0), .second, .val (.long x1), .second, .val (.long x2), .second, .val (.long x3), .second, .val (.long y0), .second, .val (.long y2), .second, .val (.long y1), .second, .val (.long y3), .second, .val (.long z1), .second, .val (.long z2), .second, .val (.ref ra), .val (.int k), .val (.int le), .unset, .unset, .unset, .unset] []))
      exact JR y0 z1 z2 y3 _ _ _ X64 e64 N0 Z0 J_ra ⟨by first | exact minL _ | exact o1 | exact o2 | exact o3 | omega, by first | exact minL _ | exact o1 | exact o2 | exact o3 | omega, by first | exact minL _ | exact o1 | exact o2 | exact o3 | omega⟩
  by_cases k5 : k < (5 : Int32)
  · refine GoOn.step (fun t₀ k₀ => XS.icmpNo X64.here hx rfl (hb hby at_121) rfl (tlt k5).2.1 k₀) ?_
    show GoOn p e below _ (T64.setTop (mkF m 124 #[.val (.long q0), .second, .val (.long q1), .second, .val (.long q2), .second, .val (.long q3), .second, .val (.int q4), .val (.int q5), .val (.long x0), .second, .val (.long x1), .second, .val (.long x2), .second, .val (.long x3), .second, .val (.long y0), .second, .val (.long y2), .second, .val (.long y1), .second, .val (.long y3), .second, .val (.long z1), .second, .val (.long z2), .second, .val (.ref ra), .val (.int k), .unset, .unset, .unset, .unset, .unset] []))
    refine GoOn.step (fun t₀ k₀ => XS.iload X64.here hx rfl (hb hby at_124) rfl k₀) ?_
    show GoOn p e below _ (T64.setTop (mkF m 126 #[.val (.long q0), .second, .val (.long q1), .second, .val (.long q2), .second, .val (.long q3), .second, .val (.int q4), .val (.int q5), .val (.long x0), .second, .val (.long x1), .second, .val (.long x2), .second, .val (.long x3), .second, .val (.long y0), .second, .val (.long y2), .second, .val (.long y1), .second, .val (.long y3), .second, .val (.long z1), .second, .val (.long z2), .second, .val (.ref ra), .val (.int k), .unset, .unset, .unset, .unset, .unset] [(.int k)]))
    refine GoOn.step (fun t₀ k₀ => XS.goto X64.here hx rfl (pc0 := 126) (pc' := 130) rfl (hb hby at_126) (by decide) (by decide) k₀) ?_
    show GoOn p e below _ (T64.setTop (mkF m 130 #[.val (.long q0), .second, .val (.long q1), .second, .val (.long q2), .second, .val (.long q3), .second, .val (.int q4), .val (.int q5), .val (.long x0), .second, .val (.long x1), .second, .val (.long x2), .second, .val (.long x3), .second, .val (.long y0), .second, .val (.long y2), .second, .val (.long y1), .second, .val (.long y3), .second, .val (.long z1), .second, .val (.long z2), .second, .val (.ref ra), .val (.int k), .unset, .unset, .unset, .unset, .unset] [(.int k)]))
    exact Jl _ (by rw [Int32.lt_iff_toInt_lt, show (5 : Int32).toInt = 5 from by decide] at k5; omega)
  · refine GoOn.step (fun t₀ k₀ => XS.icmpYes X64.here hx rfl (pc0 := 121) (pc' := 129) rfl (hb hby at_121) rfl (flt k5).2.1 (by decide) (by decide) k₀) ?_
    show GoOn p e below _ (T64.setTop (mkF m 129 #[.val (.long q0), .second, .val (.long q1), .second, .val (.long q2), .second, .val (.long q3), .second, .val (.int q4), .val (.int q5), .val (.long x0), .second, .val (.long x1), .second, .val (.long x2), .second, .val (.long x3), .second, .val (.long y0), .second, .val (.long y2), .second, .val (.long y1), .second, .val (.long y3), .second, .val (.long z1), .second, .val (.long z2), .second, .val (.ref ra), .val (.int k), .unset, .unset, .unset, .unset, .unset] []))
    refine GoOn.step (fun t₀ k₀ => XS.iconst X64.here hx rfl (hb hby at_129) k₀) ?_
    show GoOn p e below _ (T64.setTop (mkF m 130 #[.val (.long q0), .second, .val (.long q1), .second, .val (.long q2), .second, .val (.long q3), .second, .val (.int q4), .val (.int q5), .val (.long x0), .second, .val (.long x1), .second, .val (.long x2), .second, .val (.long x3), .second, .val (.long y0), .second, .val (.long y2), .second, .val (.long y1), .second, .val (.long y3), .second, .val (.long z1), .second, .val (.long z2), .second, .val (.ref ra), .val (.int k), .unset, .unset, .unset, .unset, .unset] [(.int (0 : Int32))]))
    exact Jl _ (by decide)
set_option maxRecDepth 65536 in
set_option maxHeartbeats 40000000 in
theorem comes_1 {Post : Tables → Env → Array Value → State → Outcome → State → Prop} (hpost : ∀ tb e args s v u, (limb_1_1.after args s (.returned v) u = true ∧ limb_1_2.after args s (.returned v) u = true ∧ True) → FrameEnd s (.returned v) u (Jvm.fieldLocs frame_1_writes args s ++ Jvm.arrayLocs frame_1_arrays args s ++ Jvm.staticLocs frame_1_statics s) 24 192 → Post tb e args s (.returned v) u) :
    ArmFor flags0 classFile x code maxLocals ret World_1 tables_1 room_1 Calls_1 rest_1 Pre_1 Post := by
  intro l hfl _ _ p e ha hc hk s m args below hf hA hF happ hP
  obtain ⟨hcalls, hrest, hpre⟩ := hP
  obtain ⟨-, -, -, hnamed, -, -, -, hat⟩ := (Spec.applies_iff hf).mp happ
  obtain ⟨hg, hn⟩ := and_e (Cond.before_iff.mp (show (Jvm.Cond.and given_1 narrow_1).before args s = true from hpre))
  obtain ⟨g0, r0⟩ := and_e hg
  obtain ⟨g1, r1⟩ := and_e r0
  obtain ⟨g2, r2⟩ := and_e r1
  obtain ⟨g3, r3⟩ := and_e r2
  obtain ⟨g4, r4⟩ := and_e r3
  obtain ⟨g5, r5⟩ := and_e r4
  obtain ⟨w0, w1, w2, w3, w4, w5, rfl⟩ : ∃ w0 w1 w2 w3 w4 w5 : Value, args = #[w0, w1, w2, w3, w4, w5] := by
    have hs : args.size = 6 := by simpa [Cond.value, given_1] using g0
    obtain ⟨L⟩ := args
    match L, hs with
    | [w0, w1, w2, w3, w4, w5], _ => exact ⟨w0, w1, w2, w3, w4, w5, rfl⟩
  have hw := fun d (hd : d ∈ tables_1) => atoms_spec (ws := Jvm.Cond.code x code maxLocals ret :: tables_1) hat d (List.mem_cons_of_mem _ hd)
  have hfit : Fit s := fun {y c} hc i hi => by
    obtain ⟨ha, rfl⟩ := Array.getElem?_eq_some_iff.mp hc
    have q := List.all_eq_true.mp ((Array.all_eq_true_iff_forall_mem.mp hF) _ (Array.getElem_mem ha)) i (List.mem_range.mpr hi)
    simpa [Array.getElem?_eq_getElem hi] using q
  obtain ⟨i0, ei0⟩ := isL_v g1
  obtain rfl : w0 = (.long i0) := Option.some.inj ei0
  obtain ⟨i1, ei1⟩ := isL_v g2
  obtain rfl : w1 = (.long i1) := Option.some.inj ei1
  obtain ⟨i2, ei2⟩ := isL_v g3
  obtain rfl : w2 = (.long i2) := Option.some.inj ei2
  obtain ⟨i3, ei3⟩ := isL_v g4
  obtain rfl : w3 = (.long i3) := Option.some.inj ei3
  obtain ⟨i4, ei4⟩ := is_v g5
  obtain rfl : w4 = (.int i4) := Option.some.inj ei4
  obtain ⟨i5, ei5⟩ := is_v r5
  obtain rfl : w5 = (.int i5) := Option.some.inj ei5
  obtain ⟨n, o, h1, h2, h3, _, L, rfl, ⟨rfl, N⟩, hq⟩ := law_ok l s _ hw i0 i1 i2 i3 i4 i5 s.heap s.heap.size (Nat.le_refl _) tables_1 p e ha hc hk s m _ below hf ((Spec.applies_iff_loose hf).mp happ).1 ⟨rfl, State.Warmed39.refl s, rfl⟩ trivial
  refine ⟨n, _, h1, h2, h3, hpost _ _ _ _ _ _ ⟨Cond.after_iff.mpr rfl, Cond.after_iff.mpr (eq_i res_at (Term.int_eval (1)) rfl), trivial⟩ ⟨hq.1, hq.2.1, (hq.2.2.sift fun y hy => Or.inr (N y hy)).mono (by decide) (by decide)⟩⟩
theorem main_1_1 : Claimed_1_1 := comes_1 fun _ _ _ _ _ _ h hF => ⟨h.1, hF⟩
theorem main_1_2 : Claimed_1_2 := comes_1 fun _ _ _ _ _ _ h hF => ⟨h.2.1, hF⟩
end Jvm.Pilot.@@N@@
namespace Jvm.Pilot.@@N@@
open Jvm Jvm.ClassFile Sem Op Lib Jvm.Free Jvm.Stand Jvm.Pilot.@@N@@.Jvm.D
/-! MADE BY PROGRAM (witnessworld.py) out of the Statement's table words and the real class files: 10 classes; the members and pool entries that the words name. The judged class is class 1, her method 1. -/
namespace start1
open Jvm.ClassFile
def u (s : String) : CpInfo := .utf8 (stringToUtf16 s)
/-- a pool by its gaps: so many unusable entries, then the entry; so many at the end -/
def gap : Nat → List CpInfo → List CpInfo
  | 0, r => r
  | n + 1, r => .unusable :: gap n r
def poolList (es : List (Nat × CpInfo)) (last : Nat) : List CpInfo := es.foldr (fun e r => gap e.1 (e.2 :: r)) (gap last [])
def pool (es : List (Nat × CpInfo)) (last : Nat) : Array CpInfo := ⟨poolList es last⟩
def fileOf (pool : Array CpInfo) (this : Nat) (attrs : Array Attribute := #[]) (ms : Array MethodInfo := #[]) (fl : Nat := 33) (sup : Nat := 0) (ifs : Array Nat := #[]) (fds : Array FieldInfo := #[]) : ClassFile where
  minorVersion := 0
  majorVersion := 65
  constantPool := pool
  accessFlags := fl
  thisClass := this
  superClass := sup
  interfaces := ifs
  fields := fds
  methods := ms
  attributes := attrs
def plain (name : String) (sup : Option ClassId) : Class where
  name := name
  kind := .ordinary
  loader := none
  accessFlags := 33
  super := sup
  interfaces := #[]
  cf := none
  fields := #[]
  methods := #[]
  instanceTypes := #[]
  staticTypes := #[]
  resolved := #[]
  callSites := []
  init := .initialized
  statics := none
  mirror := none

def pool0 : Array CpInfo := pool [(5, u "<init>"), (0, u "()V"), (1, .class_ 10), (1, u "java/lang/Object")] 113

def k0c0 : Code := { maxStack := 0, maxLocals := 1, code := object_method_1_code, exceptionTable := #[], attributes := #[] }
def k0m0 : Method := { name := "<init>", desc := "()V", sig := { parameters := [], returnType := none }, accessFlags := 1, code := some k0c0 }
/-- java/lang/Object -/
def k0 : Class := { plain "java/lang/Object" none with
  accessFlags := 33
  interfaces := #[]
  cf := some (fileOf pool0 8 #[] #[{ accessFlags := 1, nameIndex := 5, descriptorIndex := 6, attributes := #[] }] 33 0 #[] #[])
  fields := #[]
  methods := #[k0m0]
  instanceTypes := #[]
  staticTypes := #[]
  resolved := Array.replicate 124 none
  statics := none }

def pool1 : Array CpInfo := pool [(2, .class_ 4), (0, .nameAndType 5 6), (0, u "java/lang/Object"), (0, u "<init>"), (0, u "()V"), (0, .methodref 8 9), (0, .class_ 10), (0, .nameAndType 11 12), (0, u "java/lang/Math"), (0, u "min"), (0, u "(JJ)J"), (0, .methodref 8 14), (0, .nameAndType 15 12), (0, u "max"), (0, .class_ 17), (0, u "com/example/treesack/treesack/core/ValueSteps"), (0, .long 9223372036854775808), (1, .class_ 21), (0, u "com/example/treesack/treesack/core/ValueStepsExpandIntoPinLaw"), (0, .long 81985529216486895), (1, .methodref 16 3), (0, .methodref 16 26), (0, .nameAndType 27 28), (0, u "setSteps"), (0, u "([JI)V"), (0, .methodref 16 30), (0, .nameAndType 31 28), (0, u "expandInto"), (0, .methodref 20 33), (0, .nameAndType 34 35), (0, u "at"), (0, u "([JIII[J)Z"), (0, .methodref 8 37), (0, .nameAndType 11 38), (0, u "(II)I"), (0, u "SENT"), (0, u "J"), (3, u "law"), (0, u "(JJJJII)Z")] 5

def k1m0 : Method := { name := "<init>", desc := "()V", sig := { parameters := [], returnType := none }, accessFlags := 1, code := none }
def k1c1 : Code := { maxStack := 5, maxLocals := 37, code := code, exceptionTable := #[], attributes := #[] }
def k1m1 : Method := { name := "law", desc := "(JJJJII)Z", sig := { parameters := [.long, .long, .long, .long, .int, .int], returnType := some .boolean }, accessFlags := 9, code := some k1c1 }
def k1c2 : Code := { maxStack := 5, maxLocals := 5, code := method_3_code, exceptionTable := #[], attributes := #[] }
def k1m2 : Method := { name := "at", desc := "([JIII[J)Z", sig := { parameters := [(.array .long), .int, .int, .int, (.array .long)], returnType := some .boolean }, accessFlags := 10, code := some k1c2 }
/-- com/example/treesack/treesack/core/ValueStepsExpandIntoPinLaw -/
def k1 : Class := { plain "com/example/treesack/treesack/core/ValueStepsExpandIntoPinLaw" (some 0) with
  accessFlags := 49
  interfaces := #[]
  cf := some (fileOf pool1 20 #[] #[{ accessFlags := 1, nameIndex := 5, descriptorIndex := 6, attributes := #[] }, { accessFlags := 9, nameIndex := 44, descriptorIndex := 45, attributes := #[] }, { accessFlags := 10, nameIndex := 34, descriptorIndex := 35, attributes := #[] }] 49 2 #[] #[{ accessFlags := 26, nameIndex := 39, descriptorIndex := 40, attributes := #[] }])
  fields := #[{ name := "SENT", type := .long, accessFlags := 26, slot := 0, constantValue := 0 }]
  methods := #[k1m0, k1m1, k1m2]
  instanceTypes := #[]
  staticTypes := #[.long]
  resolved := Array.replicate 51 none
  statics := none }

def pool2 : Array CpInfo := pool [(1, .class_ 2), (0, u "java/lang/Math"), (1, .class_ 6), (1, u "java/lang/Object"), (0, u "<init>"), (0, u "()V"), (89, .class_ 100), (1, u "java/lang/Math$RandomNumberGeneratorHolder"), (20, u "(JJ)J"), (50, u "negativeZeroFloatBits"), (0, u "J"), (2, u "negativeZeroDoubleBits"), (21, u "max"), (2, u "min"), (43, u "$assertionsDisabled"), (0, u "Z"), (88, u "(II)I"), (2, u "twoToTheDoubleScaleDown"), (0, u "D"), (4, u "twoToTheDoubleScaleUp"), (9, u "E"), (3, u "PI"), (2, u "TAU"), (2, u "DEGREES_TO_RADIANS"), (0, u "RADIANS_TO_DEGREES")] 94

def k2m0 : Method := { name := "<init>", desc := "()V", sig := { parameters := [], returnType := none }, accessFlags := 2, code := none }
def k2c1 : Code := { maxStack := 4, maxLocals := 4, code := jdk_29_method_66_code, exceptionTable := #[], attributes := #[] }
def k2m1 : Method := { name := "max", desc := "(JJ)J", sig := { parameters := [.long, .long], returnType := some .long }, accessFlags := 9, code := some k2c1 }
def k2c2 : Code := { maxStack := 2, maxLocals := 2, code := jdk_29_method_69_code, exceptionTable := #[], attributes := #[] }
def k2m2 : Method := { name := "min", desc := "(II)I", sig := { parameters := [.int, .int], returnType := some .int }, accessFlags := 9, code := some k2c2 }
def k2c3 : Code := { maxStack := 4, maxLocals := 4, code := jdk_29_method_70_code, exceptionTable := #[], attributes := #[] }
def k2m3 : Method := { name := "min", desc := "(JJ)J", sig := { parameters := [.long, .long], returnType := some .long }, accessFlags := 9, code := some k2c3 }
/-- java/lang/Math -/
def k2 : Class := { plain "java/lang/Math" (some 0) with
  accessFlags := 49
  interfaces := #[]
  cf := some (fileOf pool2 1 #[.nestMembers #[98]] #[{ accessFlags := 2, nameIndex := 7, descriptorIndex := 8, attributes := #[] }, { accessFlags := 9, nameIndex := 198, descriptorIndex := 121, attributes := #[] }, { accessFlags := 9, nameIndex := 201, descriptorIndex := 335, attributes := #[] }, { accessFlags := 9, nameIndex := 201, descriptorIndex := 121, attributes := #[] }] 49 4 #[] #[{ accessFlags := 25, nameIndex := 354, descriptorIndex := 339, attributes := #[] }, { accessFlags := 25, nameIndex := 358, descriptorIndex := 339, attributes := #[] }, { accessFlags := 25, nameIndex := 361, descriptorIndex := 339, attributes := #[] }, { accessFlags := 26, nameIndex := 364, descriptorIndex := 339, attributes := #[] }, { accessFlags := 26, nameIndex := 365, descriptorIndex := 339, attributes := #[] }, { accessFlags := 26, nameIndex := 172, descriptorIndex := 173, attributes := #[] }, { accessFlags := 26, nameIndex := 176, descriptorIndex := 173, attributes := #[] }, { accessFlags := 8, nameIndex := 344, descriptorIndex := 339, attributes := #[] }, { accessFlags := 8, nameIndex := 338, descriptorIndex := 339, attributes := #[] }, { accessFlags := 4120, nameIndex := 245, descriptorIndex := 246, attributes := #[] }])
  fields := #[{ name := "E", type := .double, accessFlags := 25, slot := 0, constantValue := 0 }, { name := "PI", type := .double, accessFlags := 25, slot := 1, constantValue := 0 }, { name := "TAU", type := .double, accessFlags := 25, slot := 2, constantValue := 0 }, { name := "DEGREES_TO_RADIANS", type := .double, accessFlags := 26, slot := 3, constantValue := 0 }, { name := "RADIANS_TO_DEGREES", type := .double, accessFlags := 26, slot := 4, constantValue := 0 }, { name := "negativeZeroFloatBits", type := .long, accessFlags := 26, slot := 5, constantValue := 0 }, { name := "negativeZeroDoubleBits", type := .long, accessFlags := 26, slot := 6, constantValue := 0 }, { name := "twoToTheDoubleScaleUp", type := .double, accessFlags := 8, slot := 7, constantValue := 0 }, { name := "twoToTheDoubleScaleDown", type := .double, accessFlags := 8, slot := 8, constantValue := 0 }, { name := "$assertionsDisabled", type := .boolean, accessFlags := 4120, slot := 9, constantValue := 0 }]
  methods := #[k2m0, k2m1, k2m2, k2m3]
  instanceTypes := #[]
  staticTypes := #[.double, .double, .double, .double, .double, .long, .long, .double, .double, .boolean]
  resolved := Array.replicate 460 none
  statics := none }

def pool3 : Array CpInfo := pool [(3, .methodref 4 5), (0, .class_ 6), (0, .nameAndType 7 8), (0, u "java/lang/Object"), (0, u "<init>"), (0, u "()V"), (0, .fieldref 10 11), (0, .class_ 12), (0, .nameAndType 13 14), (0, u "com/example/treesack/treesack/core/ValueSteps"), (0, u "costs"), (0, u "[J"), (0, .fieldref 10 16), (0, .nameAndType 17 14), (0, u "values"), (0, .fieldref 10 19), (0, .nameAndType 20 14), (0, u "spareCosts"), (0, .fieldref 10 22), (0, .nameAndType 23 14), (0, u "spareValues"), (1, .fieldref 10 26), (0, .nameAndType 27 28), (0, u "count"), (0, u "I"), (0, .fieldref 10 30), (0, .nameAndType 31 14), (0, u "parts"), (10, .long 9223372036854775808), (1, .methodref 10 45), (0, .nameAndType 46 47), (0, u "reserveSpare"), (0, u "(J)V"), (2, .methodref 51 52), (0, .class_ 53), (0, .nameAndType 54 55), (0, u "java/lang/Math"), (0, u "min"), (0, u "(JJ)J"), (7, .methodref 51 64), (0, .nameAndType 65 55), (0, u "max"), (8, .methodref 10 75), (0, .nameAndType 76 77), (0, u "adoptSpare"), (0, u "(I)V"), (6, .long 2147483639), (30, .class_ 117), (1, u "com/example/treesack/treesack/core/ValueSteps$StepTest"), (22, .long 2), (1, u "NO_SET"), (0, u "J"), (1, u "TOTALS_PER_PAIR"), (23, u "setSteps"), (0, u "([JI)V"), (0, u "expandInto")] 7

def k3c0 : Code := { maxStack := 2, maxLocals := 1, code := prog_62_method_1_code, exceptionTable := #[], attributes := #[] }
def k3m0 : Method := { name := "<init>", desc := "()V", sig := { parameters := [], returnType := none }, accessFlags := 0, code := some k3c0 }
def k3c1 : Code := { maxStack := 5, maxLocals := 7, code := prog_62_method_14_code, exceptionTable := #[], attributes := #[] }
def k3m1 : Method := { name := "setSteps", desc := "([JI)V", sig := { parameters := [(.array .long), .int], returnType := none }, accessFlags := 0, code := some k3c1 }
def k3c2 : Code := { maxStack := 4, maxLocals := 5, code := prog_62_method_15_code, exceptionTable := #[], attributes := #[] }
def k3m2 : Method := { name := "expandInto", desc := "([JI)V", sig := { parameters := [(.array .long), .int], returnType := none }, accessFlags := 0, code := some k3c2 }
def k3c3 : Code := { maxStack := 2, maxLocals := 4, code := prog_62_method_23_code, exceptionTable := #[], attributes := #[] }
def k3m3 : Method := { name := "adoptSpare", desc := "(I)V", sig := { parameters := [.int], returnType := none }, accessFlags := 2, code := some k3c3 }
def k3c4 : Code := { maxStack := 6, maxLocals := 4, code := prog_62_method_24_code, exceptionTable := #[], attributes := #[] }
def k3m4 : Method := { name := "reserveSpare", desc := "(J)V", sig := { parameters := [.long], returnType := none }, accessFlags := 2, code := some k3c4 }
/-- com/example/treesack/treesack/core/ValueSteps -/
def k3 : Class := { plain "com/example/treesack/treesack/core/ValueSteps" (some 0) with
  accessFlags := 32
  interfaces := #[]
  cf := some (fileOf pool3 10 #[.nestMembers #[115]] #[{ accessFlags := 0, nameIndex := 7, descriptorIndex := 8, attributes := #[] }, { accessFlags := 0, nameIndex := 169, descriptorIndex := 170, attributes := #[] }, { accessFlags := 0, nameIndex := 171, descriptorIndex := 170, attributes := #[] }, { accessFlags := 2, nameIndex := 76, descriptorIndex := 77, attributes := #[] }, { accessFlags := 2, nameIndex := 46, descriptorIndex := 47, attributes := #[] }] 32 4 #[] #[{ accessFlags := 24, nameIndex := 142, descriptorIndex := 143, attributes := #[] }, { accessFlags := 26, nameIndex := 145, descriptorIndex := 28, attributes := #[] }, { accessFlags := 2, nameIndex := 13, descriptorIndex := 14, attributes := #[] }, { accessFlags := 2, nameIndex := 17, descriptorIndex := 14, attributes := #[] }, { accessFlags := 2, nameIndex := 27, descriptorIndex := 28, attributes := #[] }, { accessFlags := 2, nameIndex := 31, descriptorIndex := 14, attributes := #[] }, { accessFlags := 2, nameIndex := 20, descriptorIndex := 14, attributes := #[] }, { accessFlags := 2, nameIndex := 23, descriptorIndex := 14, attributes := #[] }])
  fields := #[{ name := "NO_SET", type := .long, accessFlags := 24, slot := 0, constantValue := 0 }, { name := "TOTALS_PER_PAIR", type := .int, accessFlags := 26, slot := 1, constantValue := 0 }, { name := "costs", type := (.array .long), accessFlags := 2, slot := 0, constantValue := 0 }, { name := "values", type := (.array .long), accessFlags := 2, slot := 1, constantValue := 0 }, { name := "count", type := .int, accessFlags := 2, slot := 2, constantValue := 0 }, { name := "parts", type := (.array .long), accessFlags := 2, slot := 3, constantValue := 0 }, { name := "spareCosts", type := (.array .long), accessFlags := 2, slot := 4, constantValue := 0 }, { name := "spareValues", type := (.array .long), accessFlags := 2, slot := 5, constantValue := 0 }]
  methods := #[k3m0, k3m1, k3m2, k3m3, k3m4]
  instanceTypes := #[(.array .long), (.array .long), .int, (.array .long), (.array .long), (.array .long)]
  staticTypes := #[.long, .int]
  resolved := Array.replicate 179 none
  statics := none }

def pool4 : Array CpInfo := pool [(1, u "java/lang/Cloneable"), (0, .class_ 1), (0, u "java/lang/Object"), (0, .class_ 3)] 3

/-- java/lang/Cloneable -/
def k4 : Class := { plain "java/lang/Cloneable" (some 0) with
  accessFlags := 1537
  interfaces := #[]
  cf := some (fileOf pool4 2 #[] #[] 1537 4 #[] #[])
  fields := #[]
  methods := #[]
  instanceTypes := #[]
  staticTypes := #[]
  resolved := Array.replicate 8 none
  statics := none }

def pool5 : Array CpInfo := pool [(1, u "java/io/Serializable"), (0, .class_ 1), (0, u "java/lang/Object"), (0, .class_ 3)] 3

/-- java/io/Serializable -/
def k5 : Class := { plain "java/io/Serializable" (some 0) with
  accessFlags := 1537
  interfaces := #[]
  cf := some (fileOf pool5 2 #[] #[] 1537 4 #[] #[])
  fields := #[]
  methods := #[]
  instanceTypes := #[]
  staticTypes := #[]
  resolved := Array.replicate 8 none
  statics := none }

/-- the primitive byte -/
def k6 : Class := { plain "byte" none with kind := .primitive 'B', accessFlags := 0x411 }
/-- [B -/
def k7 : Class := { plain "[B" (some 0) with kind := .array 6 .byte, interfaces := #[4, 5], accessFlags := 1041 }

/-- the primitive long -/
def k8 : Class := { plain "long" none with kind := .primitive 'J', accessFlags := 0x411 }
/-- [J -/
def k9 : Class := { plain "[J" (some 0) with kind := .array 8 .long, interfaces := #[4, 5], accessFlags := 1041 }

def heap : Heap := #[]
def classes : Array Class := #[k0, k1, k2, k3, k4, k5, k6, k7, k8, k9]
def interned : List (Array UInt16 × Addr) := []
def slotsUsed : Nat := 0
def theMethod : MethodId := ⟨1, 1⟩
def args0 : Array Value := #[.long 50, .long 7, .long 2, .long 3, .int 26, .int 5]
def aboutOver (below : List Frame) : State where
  vm := { classes := classes, interned := interned.toArray }
  heap := heap
  slotsUsed := slotsUsed
  threads := #[{ frames := .invoking theMethod args0 :: below }]
def below0 : List Frame := [.native { method := ⟨0, 0⟩, args := #[] }]
def about1 : State := aboutOver below0
def p0 : Program := .bare "" "" ""
def e0 : Env := launch0.env 0 0 0
theorem w_frames : about1.frames = Frame.invoking theMethod args0 :: below0 := rfl
set_option maxRecDepth 65536 in
theorem w_args : argsFit about1.vm theMethod args0 = true := by decide +kernel
set_option maxRecDepth 65536 in
theorem w_heap : heapFits about1 = true := by decide +kernel
set_option maxRecDepth 65536 in
theorem w_runnable : about1.curStatus? = some .runnable := by decide +kernel
set_option maxRecDepth 65536 in
theorem w_alone : about1.alone = true := by decide +kernel
set_option maxRecDepth 65536 in
theorem w_named : about1.methodNamed? x = some theMethod := by decide +kernel
set_option maxRecDepth 65536 in
theorem w_hears : about1.hears theMethod below0 = true := by decide +kernel
set_option maxRecDepth 65536 in
theorem w_ripe : about1.ripe theMethod args0 below0 = true := by decide +kernel
theorem w_running : about1.status = .running := rfl
set_option maxRecDepth 65536 in
theorem w_room : about1.hasRoom e0.platform room_1 = true :=
  launch0.hasRoom_least _ room_1 (by decide +kernel) (by decide +kernel) (by decide +kernel) (by decide +kernel) (by decide +kernel) (by decide +kernel)
theorem allAtoms_all (ts : List Jvm.Cond) (a : Array Jvm.Value) (st : Jvm.State) : (allAtoms ts).before a st = ts.all (fun c => c.before a st) := by
  induction ts with
  | nil => rfl
  | cons c t ih =>
    show (Jvm.Cond.and c (allAtoms t)).before a st = _
    rw [Jvm.Cond.before_and, ih, List.all_cons]
def words1 : List Jvm.Cond := Jvm.Cond.code x code maxLocals ret :: tables_1
/-- a 'code' word, met by the world's own term for the bytes: nothing is compared byte by byte -/
theorem code_word {y : MethodName} {bytes : ByteArray} {mx : Nat} {rt : Option FieldType} {a : Array Value} {s : State} {m : MethodId} {meth : Method} {c : Code} (h1 : s.methodNamed? y = some m) (h2 : s.vm.method? m = some meth) (h3 : meth.code = some c) (h4 : c.code = bytes)
    (h5 : (c.maxLocals == mx && c.exceptionTable.isEmpty && decide (c.maxStack ≤ mostOperands) && decide (meth.sig.returnType = rt) && !meth.locks && decide (parseMethodDescriptor y.desc = some meth.sig)) = true) : (Jvm.Cond.code y bytes mx rt).before a s = true := by
  simp only [Bool.and_eq_true, beq_iff_eq, Bool.not_eq_true', decide_eq_true_eq] at h5
  obtain ⟨⟨⟨⟨⟨g1, g2⟩, g3⟩, g4⟩, g5⟩, g6⟩ := h5
  simp [Cond.before, Cond.holds, Cond.value, h1, h2, h3, h4, g1, g2, g3, g4, g5, g6]
def isCode : Jvm.Cond → Bool
  | .code _ _ _ _ => true
  | _ => false
theorem all_split {L : List Jvm.Cond} {P : Jvm.Cond → Bool} (h1 : L.all (fun c => isCode c || P c) = true) (h2 : ∀ c ∈ L.filter isCode, P c = true) : L.all P = true := by
  refine List.all_eq_true.mpr fun c hc => ?_
  have h := List.all_eq_true.mp h1 c hc
  rcases Bool.eq_false_or_eq_true (isCode c) with hi | hi
  · exact h2 c (List.mem_filter.mpr ⟨hc, hi⟩)
  · simpa [hi] using h
set_option maxRecDepth 65536 in
theorem w_c0 : (Jvm.Cond.code x code maxLocals ret).before args0 about1 = true := code_word (m := ⟨1, 1⟩) (meth := k1m1) (c := k1c1) (by decide +kernel) rfl rfl rfl (by decide +kernel)
set_option maxRecDepth 65536 in
theorem w_c1 : (Jvm.Cond.code ({ cls := "java/lang/Math", name := "min", desc := "(JJ)J" } : Jvm.MethodName) jdk_29_method_70_code (4 : Nat) (Option.some Jvm.ClassFile.FieldType.long)).before args0 about1 = true := code_word (m := ⟨2, 3⟩) (meth := k2m3) (c := k2c3) (by decide +kernel) rfl rfl rfl (by decide +kernel)
set_option maxRecDepth 65536 in
theorem w_c2 : (Jvm.Cond.code ({ cls := "java/lang/Math", name := "max", desc := "(JJ)J" } : Jvm.MethodName) jdk_29_method_66_code (4 : Nat) (Option.some Jvm.ClassFile.FieldType.long)).before args0 about1 = true := code_word (m := ⟨2, 1⟩) (meth := k2m1) (c := k2c1) (by decide +kernel) rfl rfl rfl (by decide +kernel)
set_option maxRecDepth 65536 in
theorem w_c3 : (Jvm.Cond.code ({ cls := "com/example/treesack/treesack/core/ValueSteps", name := "<init>", desc := "()V" } : Jvm.MethodName) prog_62_method_1_code (1 : Nat) (Option.none : Option Jvm.ClassFile.FieldType)).before args0 about1 = true := code_word (m := ⟨3, 0⟩) (meth := k3m0) (c := k3c0) (by decide +kernel) rfl rfl rfl (by decide +kernel)
set_option maxRecDepth 65536 in
theorem w_c4 : (Jvm.Cond.code ({ cls := "java/lang/Object", name := "<init>", desc := "()V" } : Jvm.MethodName) object_method_1_code (1 : Nat) (Option.none : Option Jvm.ClassFile.FieldType)).before args0 about1 = true := code_word (m := ⟨0, 0⟩) (meth := k0m0) (c := k0c0) (by decide +kernel) rfl rfl rfl (by decide +kernel)
set_option maxRecDepth 65536 in
theorem w_c5 : (Jvm.Cond.code ({ cls := "com/example/treesack/treesack/core/ValueSteps", name := "setSteps", desc := "([JI)V" } : Jvm.MethodName) prog_62_method_14_code (7 : Nat) (Option.none : Option Jvm.ClassFile.FieldType)).before args0 about1 = true := code_word (m := ⟨3, 1⟩) (meth := k3m1) (c := k3c1) (by decide +kernel) rfl rfl rfl (by decide +kernel)
set_option maxRecDepth 65536 in
theorem w_c6 : (Jvm.Cond.code ({ cls := "com/example/treesack/treesack/core/ValueSteps", name := "reserveSpare", desc := "(J)V" } : Jvm.MethodName) prog_62_method_24_code (4 : Nat) (Option.none : Option Jvm.ClassFile.FieldType)).before args0 about1 = true := code_word (m := ⟨3, 4⟩) (meth := k3m4) (c := k3c4) (by decide +kernel) rfl rfl rfl (by decide +kernel)
set_option maxRecDepth 65536 in
theorem w_c7 : (Jvm.Cond.code ({ cls := "com/example/treesack/treesack/core/ValueSteps", name := "adoptSpare", desc := "(I)V" } : Jvm.MethodName) prog_62_method_23_code (4 : Nat) (Option.none : Option Jvm.ClassFile.FieldType)).before args0 about1 = true := code_word (m := ⟨3, 3⟩) (meth := k3m3) (c := k3c3) (by decide +kernel) rfl rfl rfl (by decide +kernel)
set_option maxRecDepth 65536 in
theorem w_c8 : (Jvm.Cond.code ({ cls := "com/example/treesack/treesack/core/ValueSteps", name := "expandInto", desc := "([JI)V" } : Jvm.MethodName) prog_62_method_15_code (5 : Nat) (Option.none : Option Jvm.ClassFile.FieldType)).before args0 about1 = true := code_word (m := ⟨3, 2⟩) (meth := k3m2) (c := k3c2) (by decide +kernel) rfl rfl rfl (by decide +kernel)
set_option maxRecDepth 65536 in
theorem w_c9 : (Jvm.Cond.code ({ cls := "com/example/treesack/treesack/core/ValueStepsExpandIntoPinLaw", name := "at", desc := "([JIII[J)Z" } : Jvm.MethodName) method_3_code (5 : Nat) (Option.some Jvm.ClassFile.FieldType.boolean)).before args0 about1 = true := code_word (m := ⟨1, 2⟩) (meth := k1m2) (c := k1c2) (by decide +kernel) rfl rfl rfl (by decide +kernel)
set_option maxRecDepth 65536 in
theorem w_c10 : (Jvm.Cond.code ({ cls := "java/lang/Math", name := "min", desc := "(II)I" } : Jvm.MethodName) jdk_29_method_69_code (2 : Nat) (Option.some Jvm.ClassFile.FieldType.int)).before args0 about1 = true := code_word (m := ⟨2, 2⟩) (meth := k2m2) (c := k2c2) (by decide +kernel) rfl rfl rfl (by decide +kernel)
def codes1 : List Jvm.Cond := [Jvm.Cond.code x code maxLocals ret, Jvm.Cond.code ({ cls := "java/lang/Math", name := "min", desc := "(JJ)J" } : Jvm.MethodName) jdk_29_method_70_code (4 : Nat) (Option.some Jvm.ClassFile.FieldType.long), Jvm.Cond.code ({ cls := "java/lang/Math", name := "max", desc := "(JJ)J" } : Jvm.MethodName) jdk_29_method_66_code (4 : Nat) (Option.some Jvm.ClassFile.FieldType.long), Jvm.Cond.code ({ cls := "com/example/treesack/treesack/core/ValueSteps", name := "<init>", desc := "()V" } : Jvm.MethodName) prog_62_method_1_code (1 : Nat) (Option.none : Option Jvm.ClassFile.FieldType), Jvm.Cond.code ({ cls := "java/lang/Object", name := "<init>", desc := "()V" } : Jvm.MethodName) object_method_1_code (1 : Nat) (Option.none : Option Jvm.ClassFile.FieldType), Jvm.Cond.code ({ cls := "com/example/treesack/treesack/core/ValueSteps", name := "setSteps", desc := "([JI)V" } : Jvm.MethodName) prog_62_method_14_code (7 : Nat) (Option.none : Option Jvm.ClassFile.FieldType), Jvm.Cond.code ({ cls := "com/example/treesack/treesack/core/ValueSteps", name := "reserveSpare", desc := "(J)V" } : Jvm.MethodName) prog_62_method_24_code (4 : Nat) (Option.none : Option Jvm.ClassFile.FieldType), Jvm.Cond.code ({ cls := "com/example/treesack/treesack/core/ValueSteps", name := "adoptSpare", desc := "(I)V" } : Jvm.MethodName) prog_62_method_23_code (4 : Nat) (Option.none : Option Jvm.ClassFile.FieldType), Jvm.Cond.code ({ cls := "com/example/treesack/treesack/core/ValueSteps", name := "expandInto", desc := "([JI)V" } : Jvm.MethodName) prog_62_method_15_code (5 : Nat) (Option.none : Option Jvm.ClassFile.FieldType), Jvm.Cond.code ({ cls := "com/example/treesack/treesack/core/ValueStepsExpandIntoPinLaw", name := "at", desc := "([JIII[J)Z" } : Jvm.MethodName) method_3_code (5 : Nat) (Option.some Jvm.ClassFile.FieldType.boolean), Jvm.Cond.code ({ cls := "java/lang/Math", name := "min", desc := "(II)I" } : Jvm.MethodName) jdk_29_method_69_code (2 : Nat) (Option.some Jvm.ClassFile.FieldType.int)]
set_option maxRecDepth 65536 in
theorem codes_eq : words1.filter isCode = codes1 := rfl
theorem w_codes : ∀ c ∈ words1.filter isCode, c.before args0 about1 = true := by
  rw [codes_eq]
  intro c hc
  simp only [codes1, List.mem_cons, List.not_mem_nil, or_false] at hc
  rcases hc with rfl | rfl | rfl | rfl | rfl | rfl | rfl | rfl | rfl | rfl | rfl
  · exact w_c0
  · exact w_c1
  · exact w_c2
  · exact w_c3
  · exact w_c4
  · exact w_c5
  · exact w_c6
  · exact w_c7
  · exact w_c8
  · exact w_c9
  · exact w_c10
set_option maxRecDepth 65536 in
theorem w_t1 : (words1.take 24).all (fun c => isCode c || c.before args0 about1) = true := by decide +kernel
set_option maxRecDepth 65536 in
theorem w_t2 : ((words1.drop 24).take 24).all (fun c => isCode c || c.before args0 about1) = true := by decide +kernel
set_option maxRecDepth 65536 in
theorem w_t3 : ((words1.drop 24).drop 24).all (fun c => isCode c || c.before args0 about1) = true := by decide +kernel
theorem w_tables : (allAtoms (Jvm.Cond.code x code maxLocals ret :: tables_1)).before args0 about1 = true := by
  rw [allAtoms_all]
  show words1.all (fun c => c.before args0 about1) = true
  refine all_split ?_ w_codes
  rw [← List.take_append_drop 24 words1, List.all_append, w_t1, ← List.take_append_drop 24 (words1.drop 24), List.all_append, w_t2, w_t3]
  rfl
set_option maxRecDepth 65536 in
theorem w_case : (Jvm.Cond.and given_1 narrow_1).before args0 about1 = true := by decide +kernel
theorem w_applies : (headSpec (Jvm.Cond.code x code maxLocals ret :: tables_1) room_1).applies x e0.platform about1 = true :=
  (Spec.applies_iff w_frames).mpr ⟨w_running, w_runnable, w_alone, w_named, w_hears, w_ripe, w_room, w_tables⟩
theorem atStart : AtStart classFile x code maxLocals ret World_1 tables_1 room_1 Calls_1 rest_1 Pre_1 launch0 p0 e0 about1 theMethod args0 below0 :=
  ⟨lists_1, trivial, launch0.admits_env _ _ _, launch0.least_env, fairChoices_fair.cas, fairChoices_fair.clock, w_frames, w_args, w_heap, w_applies, trivial, trivial, w_case⟩
end start1
theorem witness_1 : WitnessClaimed_1 := ⟨start1.p0, start1.e0, start1.about1, start1.theMethod, start1.args0, start1.below0, start1.atStart⟩
end Jvm.Pilot.@@N@@
