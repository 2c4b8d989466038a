import JvmDerived
import JvmDerived.Pilot.@@N@@Statement
import JvmDerived.Pilot.@@N@@Code
set_option linter.unusedVariables false
set_option linter.unusedSimpArgs false
namespace Jvm.Pilot.@@N@@
open Jvm Jvm.ClassFile Sem Op Lib Jvm.Free Jvm.Stand Jvm.LawKit Jvm.RoadKit Bundle Jvm.Pilot.@@N@@.Jvm.D
/-! ## own kit: a walk in continuation style over the library's steps -/
section OwnKit
variable {p : Program} {l : Launch} {e : Env} {R : Room} {s : State} {m : MethodId} {args : Array Value} {below : List Frame} {meth : Method} {c : Code} {T : State} {locs : List Loc} {cells slots : Nat} {Z : State} {a0 : Array Value} {h h' : Heap}
/-- from U the run ends, and then E holds -/
def GoOn (p : Program) (e : Env) (below : List Frame) (E : State → Outcome → Prop) (U : State) : Prop :=
  ∃ t o, Steps p.tables e below U t ∧ t.status = .running ∧ Ended t below o ∧ E t o
theorem GoOn.step {E : State → Outcome → Prop} {U U' : State} (hs : ∀ t, Steps p.tables e below U' t → Steps p.tables e below U t) (g : GoOn p e below E U') : GoOn p e below E U := by
  obtain ⟨t, o, h1, h2⟩ := g
  exact ⟨t, o, hs _ h1, h2⟩
/-- how a body ends: what it returns, its heap, the places that it wrote -/
abbrev EndQ (s : State) (rm : Room) (Q : Option Value → Heap → List Loc → Prop) : State → Outcome → Prop :=
  fun U o => ∃ v L, o = .returned v ∧ Q v U.heap L ∧ FrameEnd s o U L rm.cells rm.slots
/-- a body's contract at one array of arguments and one heap -/
def Con (l : Launch) (Z : State) (y : MethodName) (bytes : ByteArray) (mx : Nat) (rt : Option FieldType) (rm : Room) (as : Array Value) (h : Heap) (Q : Option Value → Heap → List Loc → Prop) : Prop :=
  ∀ ws : List Jvm.Cond, MetFree l y (head1 (Jvm.Cond.code y bytes mx rt :: ws) rm) (fun a U => a = as ∧ Z.Warmed39 U.vm ∧ U.heap = h) (fun _ _ _ _ _ => True) (fun _ U o U' => ∃ v L, o = .returned v ∧ Q v U'.heap L ∧ FrameEnd U o U' L rm.cells rm.slots)
theorem Con.intro {y : MethodName} {bytes : ByteArray} {mx : Nat} {rt : Option FieldType} {rm : Room} {as : Array Value} {Q : Option Value → Heap → List Loc → Prop} (hp : plainFor y = true)
    (body : ∀ (p : Program) (e : Env) (s : State) (m : MethodId) (below : List Frame) (meth : Method) (c : Code) (s₁ : State), p.tables.exec = Jvm.exec → c.code = bytes → c.maxLocals = mx → meth.sig.returnType = rt → meth.locks = false → Z.Warmed39 s.vm → s.vm.findClass y.cls = some m.cls → meth.name = y.name →
      Stand p l e rm s m as below meth c s₁ [] 0 0 → s₁.heap = h → GoOn p e below (EndQ s rm Q) (s₁.setTop (entryFrame m as mx))) : Con l Z y bytes mx rt rm as h Q := fun ws => by
  refine MetFree.of_bodySF hp hisR ?_
  intro p e s m args below meth c s₁ Bd hml0 hP hK
  obtain ⟨rfl, hZ, hh⟩ := hP
  have X0 : Stand p l e rm s m args below meth c s₁ [] 0 0 := Stand.of_body Bd
  obtain ⟨t, o, h1, h2, h3, h4⟩ := body p e s m below meth c s₁ Bd.exec Bd.bytes hml0 Bd.returns Bd.notSynchronized hZ (findClass_of_methodNamed Bd.named) (name_of_methodNamed Bd.named Bd.method).1 X0 (by rw [← hh, Bd.state]; rfl)
  exact ⟨t, o, h1, h2, h3, h4⟩
theorem GoOn.cast {E : State → Outcome → Prop} {g g' : JFrame} (q : g = g') (k : GoOn p e below E (T.setTop g')) : GoOn p e below E (T.setTop g) := q ▸ k
theorem GoOn.retI (X : Stand p l e R s m args below meth c T locs cells slots) (hx : p.tables.exec = Jvm.exec) (hrt : meth.sig.returnType = some .int) (hlk : meth.locks = false) {rm : Room} {Q : Option Value → Heap → List Loc → Prop} {pc : Nat} {Ls : Array Slot} {z : Int32} {rest : List Value}
    (hd : decode c.code pc = .ok (.ireturn, 1)) (hc : cells ≤ rm.cells) (hs : slots ≤ rm.slots) (hQ : Q (some (.int z)) T.heap locs) : GoOn p e below (EndQ s rm Q) (T.setTop (mkF m pc Ls (.int z :: rest))) := by
  obtain ⟨fs, hr, hrun, hended, hW, hsame⟩ := X.leave (v := some (.int z)) (fun h => by rw [hrt] at h; cases h) hlk
  exact ⟨_, _, Jvm.RoadKit.retOut X hx hrt rfl (Or.inl ⟨rfl, Or.inl rfl, _, rfl⟩) hd hr, hrun, hended, _, _, rfl, hQ, ⟨_, rfl⟩, hW, hsame.mono hc hs⟩
theorem GoOn.retN (X : Stand p l e R s m args below meth c T locs cells slots) (hx : p.tables.exec = Jvm.exec) {t : FieldType} (hrt : meth.sig.returnType = some t) (hlk : meth.locks = false) {rm : Room} {Q : Option Value → Heap → List Loc → Prop} {pc : Nat} {Ls : Array Slot} {z : Int32} {rest : List Value} (ht : t = .boolean ∨ t = .byte ∨ t = .char ∨ t = .short)
    (hd : decode c.code pc = .ok (.ireturn, 1)) (hc : cells ≤ rm.cells) (hs : slots ≤ rm.slots) (hQ : Q (some (.int (nar t z))) T.heap locs) : GoOn p e below (EndQ s rm Q) (T.setTop (mkF m pc Ls (.int z :: rest))) := by
  obtain ⟨fs, hr, hrun, hended, hW, hsame⟩ := X.leave (v := some (.int (nar t z))) (fun h => by rw [hrt] at h; cases h) hlk
  exact ⟨_, _, Jvm.RoadKit.retN X hx hrt ht hd hr, hrun, hended, _, _, rfl, hQ, ⟨_, rfl⟩, hW, hsame.mono hc hs⟩
theorem GoOn.retJ (X : Stand p l e R s m args below meth c T locs cells slots) (hx : p.tables.exec = Jvm.exec) (hrt : meth.sig.returnType = some .long) (hlk : meth.locks = false) {rm : Room} {Q : Option Value → Heap → List Loc → Prop} {pc : Nat} {Ls : Array Slot} {z : Int64} {rest : List Value}
    (hd : decode c.code pc = .ok (.lreturn, 1)) (hc : cells ≤ rm.cells) (hs : slots ≤ rm.slots) (hQ : Q (some (.long z)) T.heap locs) : GoOn p e below (EndQ s rm Q) (T.setTop (mkF m pc Ls (.long z :: rest))) := by
  obtain ⟨fs, hr, hrun, hended, hW, hsame⟩ := X.leave (v := some (.long z)) (fun h => by rw [hrt] at h; cases h) hlk
  exact ⟨_, _, Jvm.RoadKit.retOut X hx hrt rfl (Or.inr (Or.inl ⟨rfl, rfl, _, rfl⟩)) hd hr, hrun, hended, _, _, rfl, hQ, ⟨_, rfl⟩, hW, hsame.mono hc hs⟩
theorem GoOn.retR (X : Stand p l e R s m args below meth c T locs cells slots) (hx : p.tables.exec = Jvm.exec) {t : FieldType} (hrt : meth.sig.returnType = some t) (htr : t.isReference = true) (hlk : meth.locks = false) {rm : Room} {Q : Option Value → Heap → List Loc → Prop} {pc : Nat} {Ls : Array Slot} {z : Value} (hz : z.isRef = true) {rest : List Value}
    (hd : decode c.code pc = .ok (.areturn, 1)) (hc : cells ≤ rm.cells) (hs : slots ≤ rm.slots) (hQ : Q (some z) T.heap locs) : GoOn p e below (EndQ s rm Q) (T.setTop (mkF m pc Ls (z :: rest))) := by
  obtain ⟨fs, hr, hrun, hended, hW, hsame⟩ := X.leave (v := some z) (fun h => by rw [hrt] at h; cases h) hlk
  refine ⟨_, _, Jvm.RoadKit.retOut X hx hrt ?_ (Or.inr (Or.inr (Or.inr (Or.inr ⟨rfl, htr, hz⟩)))) hd hr, hrun, hended, _, _, rfl, hQ, ⟨_, rfl⟩, hW, hsame.mono hc hs⟩
  cases z <;> first | (cases t <;> rfl) | (simp [Value.isRef] at hz)
theorem GoOn.ret0 (X : Stand p l e R s m args below meth c T locs cells slots) (hx : p.tables.exec = Jvm.exec) (hrt : meth.sig.returnType = none) (hlk : meth.locks = false) {rm : Room} {Q : Option Value → Heap → List Loc → Prop} {pc : Nat} {Ls : Array Slot}
    (hd : decode c.code pc = .ok (.return_, 1)) (hc : cells ≤ rm.cells) (hs : slots ≤ rm.slots) (hQ : Q none T.heap locs) : GoOn p e below (EndQ s rm Q) (T.setTop (mkF m pc Ls [])) := by
  obtain ⟨fs, hr, hrun, hended, hW, hsame⟩ := X.leave (v := none) (fun _ => rfl) hlk
  exact ⟨_, _, X.returnOut hx hrt hd hr, hrun, hended, _, _, rfl, hQ, ⟨_, rfl⟩, hW, hsame.mono hc hs⟩
/-- a static call by its contract -/
theorem kCallS (X : Stand p l e R s m args below meth c T locs cells slots) (hx : p.tables.exec = Jvm.exec) (hZ : Z.Warmed39 s.vm) {own : String} {index : Nat} {y : MethodName} {bytes : ByteArray} {mx : Nat} {rt : Option FieldType} {rm : Room} {Q : Option Value → Heap → List Loc → Prop} {argsL rest : List Value}
    (K : Con l Z y bytes mx rt rm argsL.toArray h Q) (hown : s.vm.findClass own = some m.cls) (w1 : (Jvm.Cond.methodLink own index y).before a0 Z = true) (w2 : (Jvm.Cond.static y).before a0 Z = true) (w3 : (Jvm.Cond.initialized y.cls).before a0 Z = true) (w4 : (Jvm.Cond.code y bytes mx rt).before a0 Z = true)
    (hy : y.cls ≠ "java/lang/invoke/MethodHandle" ∧ y.cls ≠ "java/lang/invoke/VarHandle") (eT : T.heap = h) {g : JFrame} (hg : g.method = m) (hsize : g.locals.size = c.maxLocals) (hlen : ∀ sig, parseMethodDescriptor y.desc = some sig → argsL.length = sig.parameters.length) (hstack : g.stack = argsL.reverse ++ rest)
    {W : Nat} (hW : 2 * g.monitorRoom + (rest.map fun v => v.category).sum ≤ W) (hd : decode c.code g.pc = .ok (.invokestatic index, 3)) (hf : rm.frames + 1 ≤ R.frames) (hl : W + (mx + 11) + rm.locals ≤ R.locals) (hc : cells + rm.cells ≤ R.cells) (hs : slots + rm.slots ≤ R.slots) :
    ∃ v T' L, Stand p l e R s m args below meth c T' (locs ++ L) (cells + rm.cells) (slots + rm.slots) ∧ Q v T'.heap L ∧ ∀ target, Steps p.tables e below (T'.setTop { g with pc := g.pc + 3, stack := v.toList ++ rest }) target → Steps p.tables e below (T.setTop g) target := by
  obtain ⟨v, _, ⟨T', L', k', n'⟩, -, X', ⟨L, hQ, l1, l2, l3⟩, st⟩ := Jvm.LawKit.callS X hx (y := y) hown (mvT hZ w1) (mvT hZ w2) (mvT hZ w3) (mvT hZ w4) hy (backOf (W := W) (K []) hZ w4 w3 hf hl) hg hsize hlen hstack hW hd (fun _ _ => ⟨rfl, eT, hc, hs⟩)
  dsimp only [Pt.U, Pt.locs, Pt.cells, Pt.slots] at X' l1 l2 l3 hQ st
  subst l1 l2 l3
  exact ⟨v, T', L, X', hQ, fun t k => st _ k⟩
/-- a constructor by its contract -/
theorem kCallI (X : Stand p l e R s m args below meth c T locs cells slots) (hx : p.tables.exec = Jvm.exec) (hZ : Z.Warmed39 s.vm) {own : String} {index : Nat} {y : MethodName} {bytes : ByteArray} {mx : Nat} {rm : Room} {Q : Option Value → Heap → List Loc → Prop} {a : Addr} {argsL rest : List Value}
    (K : Con l Z y bytes mx none rm (.ref a :: argsL).toArray h Q) (hy1 : y.name = "<init>") (hown : s.vm.findClass own = some m.cls) (w1 : (Jvm.Cond.methodLink own index y).before a0 Z = true) (w2 : (Jvm.Cond.instanceMethod y).before a0 Z = true) (w3 : (Jvm.Cond.initialized y.cls).before a0 Z = true) (w4 : (Jvm.Cond.code y bytes mx none).before a0 Z = true)
    (hy : y.cls ≠ "java/lang/invoke/MethodHandle" ∧ y.cls ≠ "java/lang/invoke/VarHandle") (eT : T.heap = h) {g : JFrame} (hg : g.method = m) (hsize : g.locals.size = c.maxLocals) (hlen : ∀ sig, parseMethodDescriptor y.desc = some sig → argsL.length = sig.parameters.length) (hstack : g.stack = argsL.reverse ++ .ref a :: rest)
    {W : Nat} (hW : 2 * g.monitorRoom + (rest.map fun v => v.category).sum ≤ W) (hd : decode c.code g.pc = .ok (.invokespecial index, 3)) (hf : rm.frames + 1 ≤ R.frames) (hl : W + (mx + 11) + rm.locals ≤ R.locals) (hc : cells + rm.cells ≤ R.cells) (hs : slots + rm.slots ≤ R.slots) :
    ∃ v T' L, Stand p l e R s m args below meth c T' (locs ++ L) (cells + rm.cells) (slots + rm.slots) ∧ Q v T'.heap L ∧ ∀ target, Steps p.tables e below (T'.setTop { g with pc := g.pc + 3, stack := v.toList ++ rest }) target → Steps p.tables e below (T.setTop g) target := by
  obtain ⟨v, _, ⟨T', L', k', n'⟩, -, X', ⟨L, hQ, l1, l2, l3⟩, st⟩ := X.specialBack hx (y := y) hy1 hown (mvT hZ w1) (mvT hZ w2) (mvT hZ w4) hy (backOf (W := W) (K []) hZ w4 w3 hf hl) hg hsize (Steps.refl _) (a := a) hlen hstack hW hd (fun _ _ => ⟨rfl, eT, hc, hs⟩)
  dsimp only [Pt.U, Pt.locs, Pt.cells, Pt.slots] at X' l1 l2 l3 hQ st
  subst l1 l2 l3
  exact ⟨v, T', L, X', hQ, fun t k => st.trans k⟩
/-- an instance method by its contract, on an object of that very class -/
theorem kCallV (X : Stand p l e R s m args below meth c T locs cells slots) (hx : p.tables.exec = Jvm.exec) (hZ : Z.Warmed39 s.vm) {own C : String} {index : Nat} {y z : MethodName} {bytes : ByteArray} {mx : Nat} {rt : Option FieldType} {rm : Room} {Q : Option Value → Heap → List Loc → Prop} {a : Addr} {argsL rest : List Value}
    (K : Con l Z z bytes mx rt rm (.ref a :: argsL).toArray h Q) (hown : s.vm.findClass own = some m.cls) (w1 : (Jvm.Cond.methodLink own index y).before a0 Z = true) (wd : (Jvm.Cond.declares y).before a0 Z = true) (hnf : NotFace s y) (ws : (Jvm.Cond.selects C y z).before a0 Z = true) (w2 : (Jvm.Cond.instanceMethod z).before a0 Z = true) (w3 : (Jvm.Cond.initialized z.cls).before a0 Z = true) (w4 : (Jvm.Cond.code z bytes mx rt).before a0 Z = true)
    (hy : y.cls ≠ "java/lang/invoke/MethodHandle" ∧ y.cls ≠ "java/lang/invoke/VarHandle") (eT : T.heap = h) (E : Exa Z h a C) {g : JFrame} (hg : g.method = m) (hsize : g.locals.size = c.maxLocals) (hlen : ∀ sig, parseMethodDescriptor y.desc = some sig → argsL.length = sig.parameters.length) (hstack : g.stack = argsL.reverse ++ .ref a :: rest)
    {W : Nat} (hW : 2 * g.monitorRoom + (rest.map fun v => v.category).sum ≤ W) (hd : decode c.code g.pc = .ok (.invokevirtual index, 3)) (hf : rm.frames + 1 ≤ R.frames) (hl : W + (mx + 11) + rm.locals ≤ R.locals) (hc : cells + rm.cells ≤ R.cells) (hs : slots + rm.slots ≤ R.slots) :
    ∃ v T' L, Stand p l e R s m args below meth c T' (locs ++ L) (cells + rm.cells) (slots + rm.slots) ∧ Q v T'.heap L ∧ ∀ target, Steps p.tables e below (T'.setTop { g with pc := g.pc + 3, stack := v.toList ++ rest }) target → Steps p.tables e below (T.setTop g) target := by
  obtain ⟨cB, kB, q1, q2, q3⟩ := isOf hZ eT E
  obtain ⟨v, _, ⟨T', L', k', n'⟩, -, X', ⟨L, hQ, l1, l2, l3⟩, st⟩ := X.virtualBack hx (y := y) (z := z) hown (mvT hZ w1) (mvT hZ wd) hnf (mvT hZ ws) (mvT hZ w2) hy (backOf (W := W) (K []) hZ w4 w3 hf hl) q1 q3 hg hsize (Steps.refl _) hlen hstack hW hd (fun _ _ => ⟨rfl, eT, hc, hs⟩)
  dsimp only [Pt.U, Pt.locs, Pt.cells, Pt.slots] at X' l1 l2 l3 hQ st
  subst l1 l2 l3
  exact ⟨v, T', L, X', hQ, fun t k => st.trans k⟩
/-- a private method by its contract ('invokevirtual'); y2: a method of the same class of which is known that its class is no interface -/
theorem kCallP (X : Stand p l e R s m args below meth c T locs cells slots) (hx : p.tables.exec = Jvm.exec) (hZ : Z.Warmed39 s.vm) {own C : String} {index : Nat} {y y2 : MethodName} {bytes : ByteArray} {mx : Nat} {rt : Option FieldType} {rm : Room} {Q : Option Value → Heap → List Loc → Prop} {a : Addr} {argsL rest : List Value}
    (K : Con l Z y bytes mx rt rm (.ref a :: argsL).toArray h Q) (hown : s.vm.findClass own = some m.cls) (w1 : (Jvm.Cond.methodLink own index y).before a0 Z = true) (w2 : (Jvm.Cond.instanceMethod y).before a0 Z = true) (wp : (Jvm.Cond.privateMethod y).before a0 Z = true) (w3 : (Jvm.Cond.initialized y.cls).before a0 Z = true) (w4 : (Jvm.Cond.code y bytes mx rt).before a0 Z = true)
    (hnf : NotFace s y2) (hcl : y2.cls = y.cls) (w5 : (Jvm.Cond.instanceMethod y2).before a0 Z = true)
    (hy : y.cls ≠ "java/lang/invoke/MethodHandle" ∧ y.cls ≠ "java/lang/invoke/VarHandle") (eT : T.heap = h) (E : Exa Z h a C) {g : JFrame} (hg : g.method = m) (hsize : g.locals.size = c.maxLocals) (hlen : ∀ sig, parseMethodDescriptor y.desc = some sig → argsL.length = sig.parameters.length) (hstack : g.stack = argsL.reverse ++ .ref a :: rest)
    {W : Nat} (hW : 2 * g.monitorRoom + (rest.map fun v => v.category).sum ≤ W) (hd : decode c.code g.pc = .ok (.invokevirtual index, 3)) (hf : rm.frames + 1 ≤ R.frames) (hl : W + (mx + 11) + rm.locals ≤ R.locals) (hc : cells + rm.cells ≤ R.cells) (hs : slots + rm.slots ≤ R.slots) :
    ∃ v T' L, Stand p l e R s m args below meth c T' (locs ++ L) (cells + rm.cells) (slots + rm.slots) ∧ Q v T'.heap L ∧ ∀ target, Steps p.tables e below (T'.setTop { g with pc := g.pc + 3, stack := v.toList ++ rest }) target → Steps p.tables e below (T.setTop g) target := by
  obtain ⟨cB, kB, q1, q2, cell, q3, q4, q5⟩ := isOf hZ eT E
  obtain ⟨mk, methM, hnamed, hmethM, hstM, habM⟩ := Cond.instanceMethod_spec (mvT (args := args) hZ w2)
  obtain ⟨methM', cM, hmethM', -, -, -, -, -, -, hsigM⟩ := Cond.code_spec hnamed (mvT (args := args) hZ w4)
  cases hmethM.symm.trans hmethM'
  obtain ⟨mk2, methM2, hnamed2, -⟩ := Cond.instanceMethod_spec (mvT (args := args) hZ w5)
  obtain ⟨kP, hkP, hkPi⟩ := hnf mk2 hnamed2
  have hcc : mk2.cls = mk.cls := by
    have u1 := findClass_of_methodNamed hnamed2
    rw [hcl] at u1
    exact Option.some.inj (u1.symm.trans (findClass_of_methodNamed hnamed))
  rw [hcc] at hkP
  have hpriv : s.PrivateAt y := Cond.privateMethod_at (mvP hZ wp (args := args))
  obtain ⟨vm₁, X₁, hstep₁⟩ := X.invokevirtual hx hown (mvT hZ w1) hnamed hmethM hstM hkP hkPi hy (a := a) (cell := cell) q3 (fun q z => by rw [z] at q5; cases q5) (selectMethod_private hmethM (hpriv mk methM hnamed hmethM)) hmethM habM hkP hkPi (g := g) hg (argsL := argsL) (rest := rest) (hlen _ hsigM) hstack hd
  obtain ⟨v, ⟨T', L', k', n'⟩, X', ⟨L, hQ, l1, l2, l3⟩, st⟩ := (backOf (W := W) (K []) hZ w4 w3 hf hl) m meth c ⟨T.setVm vm₁, locs, cells, slots⟩ { g with stack := rest } (.invokevirtual index) mk (.ref a :: argsL).toArray X₁ hg hsize hd hW (X₁.named hnamed) ⟨rfl, eT, hc, hs⟩
  dsimp only [Pt.U, Pt.locs, Pt.cells, Pt.slots] at X' l1 l2 l3 hQ st
  subst l1 l2 l3
  exact ⟨v, T', L, X', hQ, fun t k => (hstep₁ _ fun acts => by rw [doInvoke_state]; exact Steps.refl _).trans (st.trans k)⟩
/-- an array: its kind, its length, what each place holds -/
def Jar (Z : State) (h : Heap) (a : Addr) (ty : FieldType) (n : Nat) (f : Nat → Value) : Prop := ∃ cl : Cell, Arr Z h a cl ty ∧ cl.slots.size = n ∧ ∀ i, i < n → cl.slots[i]? = some (f i)
section JarS
variable {a b : Addr} {ty : FieldType} {n : Nat} {f g : Nat → Value} {v : Value} {sl : Nat} {ws : List Addr}
theorem Jar.lt (F : Jar Z h a ty n f) : a < h.size := by obtain ⟨cl, A, -⟩ := F; exact A.lt
theorem Jar.ext (F : Jar Z h a ty n f) (E : Ext h h') : Jar Z h' a ty n f := by obtain ⟨cl, A, r⟩ := F; exact ⟨cl, A.ext E, r⟩
theorem Jar.other (F : Jar Z h b ty n f) (W : Wr h h' a sl v) (q : b ≠ a) : Jar Z h' b ty n f := by obtain ⟨cl, A, r⟩ := F; exact ⟨cl, A.other W q, r⟩
theorem Jar.keep (F : Jar Z h a ty n f) (K : Keep h h' ws) (q : a ∉ ws) : Jar Z h' a ty n f := by obtain ⟨cl, A, r⟩ := F; exact ⟨cl, ⟨K.2.1 a cl A.1 q, A.2⟩, r⟩
theorem Jar.congr (F : Jar Z h a ty n f) (q : ∀ i, i < n → f i = g i) : Jar Z h a ty n g := by obtain ⟨cl, A, s1, s2⟩ := F; exact ⟨cl, A, s1, fun i hi => by rw [s2 i hi, q i hi]⟩
theorem Jar.new {k : ClassId} {z : Int32} (A : Arr Z h a (newA k ty z) ty) (hz : z.toNatClampNeg = n) : Jar Z h a ty n (fun _ => defaultValue ty) := ⟨_, A, (sz_new _ _ _).trans hz, fun i hi => by simp [newA, hz, hi]⟩
theorem Jar.set (F : Jar Z h a ty n f) (W : Wr h h' a sl v) : Jar Z h' a ty n (fun i => if i = sl then v else f i) := by
  obtain ⟨cl, A, s1, s2⟩ := F
  obtain ⟨c2, q1, -, q3, -⟩ := id W
  cases A.1.symm.trans q1
  refine ⟨_, Arr.same W A, by simp [Cell.setSlot, s1], fun i hi => ?_⟩
  by_cases q : i = sl
  · subst q; simp [Cell.setSlot, q3]
  · show (cl.slots.setIfInBounds sl v)[i]? = some (if i = sl then v else f i)
    rw [if_neg q, ← s2 i hi, Array.getElem?_setIfInBounds_ne (Ne.symm q)]
theorem Jar.ints (F : Jar Z h a ty n f) (H : ∀ i, ∃ x, f i = .int x) : ∃ g : Nat → Int32, Jar Z h a ty n (fun i => .int (g i)) := ⟨fun i => Classical.choose (H i), F.congr fun i _ => Classical.choose_spec (H i)⟩
theorem Jar.longs (F : Jar Z h a ty n f) (H : ∀ i, ∃ x, f i = .long x) : ∃ g : Nat → Int64, Jar Z h a ty n (fun i => .long (g i)) := ⟨fun i => Classical.choose (H i), F.congr fun i _ => Classical.choose_spec (H i)⟩
theorem inJ {cl : Cell} {j : Int32} (s1 : cl.slots.size = n) (hj : 0 ≤ j.toInt ∧ j.toInt < n) : ¬ (j < 0 ∨ cl.slots.size ≤ j.toNatClampNeg) := by
  rw [s1, Int32.lt_iff_toInt_lt]
  have e1 : (0 : Int32).toInt = 0 := rfl
  have e2 : j.toNatClampNeg = j.toInt.toNat := rfl
  omega
theorem natJ {j : Int32} (hj : 0 ≤ j.toInt ∧ j.toInt < n) : j.toNatClampNeg < n := by
  have e2 : j.toNatClampNeg = j.toInt.toNat := rfl
  omega
end JarS
theorem kLdI (X : Stand p l e R s m args below meth c T locs cells slots) (hx : p.tables.exec = Jvm.exec) (hZ : Z.Warmed39 s.vm) (eT : T.heap = h) {a : Addr} {n : Nat} {f : Nat → Value} (F : Jar Z h a .int n f) {j : Int32} {v : Value} (hj : 0 ≤ j.toInt ∧ j.toInt < n) (hv : f j.toNatClampNeg = v) {g : JFrame} (hg : g.method = m) {rest : List Value} (hs : g.stack = .int j :: .ref a :: rest) (hd : decode c.code g.pc = .ok (.iaload, 1)) :
    ∀ t, Steps p.tables e below (T.setTop { g with pc := g.pc + 1, stack := v :: rest }) t → Steps p.tables e below (T.setTop g) t := by
  obtain ⟨cl, A, s1, s2⟩ := F
  exact X.iaload hx (j := j) (v := v) (by rw [eT]; exact A.1) (State.isArrayOf_alike hZ.alike A.2.1) A.2.2 (inJ s1 hj) (by rw [s2 _ (natJ hj), hv]) hg hs hd
theorem kLdJ (X : Stand p l e R s m args below meth c T locs cells slots) (hx : p.tables.exec = Jvm.exec) (hZ : Z.Warmed39 s.vm) (eT : T.heap = h) {a : Addr} {n : Nat} {f : Nat → Value} (F : Jar Z h a .long n f) {j : Int32} {v : Value} (hj : 0 ≤ j.toInt ∧ j.toInt < n) (hv : f j.toNatClampNeg = v) {g : JFrame} (hg : g.method = m) {rest : List Value} (hs : g.stack = .int j :: .ref a :: rest) (hd : decode c.code g.pc = .ok (.laload, 1)) :
    ∀ t, Steps p.tables e below (T.setTop { g with pc := g.pc + 1, stack := v :: rest }) t → Steps p.tables e below (T.setTop g) t := by
  obtain ⟨cl, A, s1, s2⟩ := F
  exact X.laload hx (j := j) (v := v) (by rw [eT]; exact A.1) (State.isArrayOf_alike hZ.alike A.2.1) A.2.2 (inJ s1 hj) (by rw [s2 _ (natJ hj), hv]) hg hs hd
theorem kLdB (X : Stand p l e R s m args below meth c T locs cells slots) (hx : p.tables.exec = Jvm.exec) (hZ : Z.Warmed39 s.vm) (eT : T.heap = h) {a : Addr} {n : Nat} {f : Nat → Value} (F : Jar Z h a .byte n f) {j : Int32} {v : Value} (hj : 0 ≤ j.toInt ∧ j.toInt < n) (hv : f j.toNatClampNeg = v) {g : JFrame} (hg : g.method = m) {rest : List Value} (hs : g.stack = .int j :: .ref a :: rest) (hd : decode c.code g.pc = .ok (.baload, 1)) :
    ∀ t, Steps p.tables e below (T.setTop { g with pc := g.pc + 1, stack := v :: rest }) t → Steps p.tables e below (T.setTop g) t := by
  obtain ⟨cl, A, s1, s2⟩ := F
  exact X.baloadBytes hx (j := j) (v := v) (by rw [eT]; exact A.1) (State.isArrayOf_alike hZ.alike A.2.1) A.2.2 (inJ s1 hj) (by rw [s2 _ (natJ hj), hv]) hg hs hd
theorem kLdA (X : Stand p l e R s m args below meth c T locs cells slots) (hx : p.tables.exec = Jvm.exec) (hZ : Z.Warmed39 s.vm) (eT : T.heap = h) {a : Addr} {ty : FieldType} {n : Nat} {f : Nat → Value} (F : Jar Z h a ty n f) (hty : ty.isReference = true) {j : Int32} {v : Value} (hj : 0 ≤ j.toInt ∧ j.toInt < n) (hv : f j.toNatClampNeg = v) {g : JFrame} (hg : g.method = m) {rest : List Value} (hs : g.stack = .int j :: .ref a :: rest) (hd : decode c.code g.pc = .ok (.aaload, 1)) :
    ∀ t, Steps p.tables e below (T.setTop { g with pc := g.pc + 1, stack := v :: rest }) t → Steps p.tables e below (T.setTop g) t := by
  obtain ⟨cl, A, s1, s2⟩ := F
  exact X.aaload hx (j := j) (v := v) (by rw [eT]; exact A.1) (State.isArrayOf_alike hZ.alike A.2.1) hty A.2.2 (inJ s1 hj) (by rw [s2 _ (natJ hj), hv]) hg hs hd
theorem kLen (X : Stand p l e R s m args below meth c T locs cells slots) (hx : p.tables.exec = Jvm.exec) (hZ : Z.Warmed39 s.vm) (eT : T.heap = h) {a : Addr} {ty : FieldType} {n : Nat} {f : Nat → Value} (F : Jar Z h a ty n f) {z : Int32} (hz : n.toInt32 = z) {g : JFrame} (hg : g.method = m) {rest : List Value} (hs : g.stack = .ref a :: rest) (hd : decode c.code g.pc = .ok (.arraylength, 1)) :
    ∀ t, Steps p.tables e below (T.setTop { g with pc := g.pc + 1, stack := .int z :: rest }) t → Steps p.tables e below (T.setTop g) t := by
  obtain ⟨cl, A, s1, s2⟩ := F
  subst hz s1
  exact X.arraylength hx (by rw [eT]; exact A.1) (State.isArrayOf_alike hZ.alike A.2.1) hg hs hd
/-- a store: what the three kinds say alike -/
theorem kStI (X : Stand p l e R s m args below meth c T locs cells slots) (hx : p.tables.exec = Jvm.exec) (hZ : Z.Warmed39 s.vm) (eT : T.heap = h) {a : Addr} {n : Nat} {f : Nat → Value} (F : Jar Z h a .int n f) {j x : Int32} (hj : 0 ≤ j.toInt ∧ j.toInt < n) {g : JFrame} (hg : g.method = m) {rest : List Value} (hs : g.stack = .int x :: .int j :: .ref a :: rest) (hd : decode c.code g.pc = .ok (.iastore, 1)) :
    ∃ T' h', Stand p l e R s m args below meth c T' (locs ++ [⟨a, j.toNatClampNeg⟩]) cells slots ∧ T'.heap = h' ∧ Wr h h' a j.toNatClampNeg (.int x) ∧ ∀ target, Steps p.tables e below (T'.setTop { g with pc := g.pc + 1, stack := rest }) target → Steps p.tables e below (T.setTop g) target := by
  obtain ⟨cl, A, s1, s2⟩ := F
  exact stI X hx hZ eT A (inJ s1 hj) hg hs hd
theorem kStJ (X : Stand p l e R s m args below meth c T locs cells slots) (hx : p.tables.exec = Jvm.exec) (hZ : Z.Warmed39 s.vm) (eT : T.heap = h) {a : Addr} {n : Nat} {f : Nat → Value} (F : Jar Z h a .long n f) {j : Int32} {x : Int64} (hj : 0 ≤ j.toInt ∧ j.toInt < n) {g : JFrame} (hg : g.method = m) {rest : List Value} (hs : g.stack = .long x :: .int j :: .ref a :: rest) (hd : decode c.code g.pc = .ok (.lastore, 1)) :
    ∃ T' h', Stand p l e R s m args below meth c T' (locs ++ [⟨a, j.toNatClampNeg⟩]) cells slots ∧ T'.heap = h' ∧ Wr h h' a j.toNatClampNeg (.long x) ∧ ∀ target, Steps p.tables e below (T'.setTop { g with pc := g.pc + 1, stack := rest }) target → Steps p.tables e below (T.setTop g) target := by
  obtain ⟨cl, A, s1, s2⟩ := F
  exact stJ X hx hZ eT A (inJ s1 hj) hg hs hd
theorem kStB (X : Stand p l e R s m args below meth c T locs cells slots) (hx : p.tables.exec = Jvm.exec) (hZ : Z.Warmed39 s.vm) (eT : T.heap = h) {a : Addr} {n : Nat} {f : Nat → Value} (F : Jar Z h a .byte n f) {j x : Int32} (hj : 0 ≤ j.toInt ∧ j.toInt < n) {g : JFrame} (hg : g.method = m) {rest : List Value} (hs : g.stack = .int x :: .int j :: .ref a :: rest) (hd : decode c.code g.pc = .ok (.bastore, 1)) :
    ∃ T' h', Stand p l e R s m args below meth c T' (locs ++ [⟨a, j.toNatClampNeg⟩]) cells slots ∧ T'.heap = h' ∧ Wr h h' a j.toNatClampNeg (.int (x.toInt8.toInt32)) ∧ ∀ target, Steps p.tables e below (T'.setTop { g with pc := g.pc + 1, stack := rest }) target → Steps p.tables e below (T.setTop g) target := by
  obtain ⟨cl, A, s1, s2⟩ := F
  exact stB X hx hZ eT A (inJ s1 hj) hg hs hd
theorem kClone (X : Stand p l e R s m args below meth c T locs cells slots) (hx : p.tables.exec = Jvm.exec) (hZ : Z.Warmed39 s.vm) {own ad : String} {index : Nat} (hown : s.vm.findClass own = some m.cls)
    (w1 : (Jvm.Cond.methodLink own index ⟨ad, "clone", "()Ljava/lang/Object;"⟩).before a0 Z = true) (w2 : (Jvm.Cond.sameMethod ad "java/lang/Object" "clone" "()Ljava/lang/Object;").before a0 Z = true) (w3 : (Jvm.Cond.native ⟨"java/lang/Object", "clone", "()Ljava/lang/Object;"⟩).before a0 Z = true)
    (w4 : (Jvm.Cond.instanceMethod ⟨"java/lang/Object", "clone", "()Ljava/lang/Object;"⟩).before a0 Z = true) (w5 : (Jvm.Cond.selects ad ⟨ad, "clone", "()Ljava/lang/Object;"⟩ ⟨"java/lang/Object", "clone", "()Ljava/lang/Object;"⟩).before a0 Z = true) (w6 : (Jvm.Cond.castable ad "java/lang/Cloneable").before a0 Z = true)
    (eT : T.heap = h) {a : Addr} {ty : FieldType} {n : Nat} {f : Nat → Value} (F : Jar Z h a ty n f) (E : Exa Z h a ad) (hft : ∀ i, i < n → fits ty (f i) = true) {g : JFrame} (hg : g.method = m) (hsize : g.locals.size = c.maxLocals) {rest : List Value} (hs : g.stack = .ref a :: rest) (hd : decode c.code g.pc = .ok (.invokevirtual index, 3))
    (hf : 1 ≤ R.frames) {W cap : Nat} (hW : 2 * g.monitorRoom + (rest.map fun v => v.category).sum ≤ W) (hl : W + 14 ≤ R.locals) (hcap : n ≤ cap) (hc : cells + 1 ≤ R.cells) (hsl : slots + cap ≤ R.slots) :
    ∃ T' h', Stand p l e R s m args below meth c T' locs (cells + 1) (slots + cap) ∧ T'.heap = h' ∧ Ext h h' ∧ Jar Z h' h.size ty n f ∧ Exa Z h' h.size ad ∧
      ∀ target, Steps p.tables e below (T'.setTop { g with pc := g.pc + 3, stack := .ref h.size :: rest }) target → Steps p.tables e below (T.setTop g) target := by
  obtain ⟨cl, A, s1, s2⟩ := F
  have FC : FitC Z cl := fitC_of A fun i hi v hv => by rw [s2 i (s1 ▸ hi)] at hv; cases hv; exact hft i (s1 ▸ hi)
  obtain ⟨T', h', X', e', ex, A', E', st⟩ := cloneA X hx hZ hown w1 w2 w3 w4 w5 w6 eT A E FC hg hsize hs hd hf hW hl (by rw [s1]; exact hcap) hc hsl
  exact ⟨T', h', X', e', ex, ⟨cloneOf cl, A', s1, s2⟩, E', st⟩
theorem catR {v : Value} (h : v.isRef = true) : v.category = 1 := by cases v <;> first | rfl | (simp [Value.isRef] at h)
theorem narO {C : String} (v : Value) : narrow (.object C) v = v := by cases v <;> rfl
theorem fitO {C : String} {v : Value} (h : v.isRef = true) : fits (.object C) v = true := by cases v <;> first | rfl | (simp [Value.isRef] at h)
theorem own_len {s : State} {args : Array Value} {t : Term} {n : Int32} {ca : Addr} {c : Cell} (ev : t.eval args s none [] s = some (.ref ca)) (ha : s.arrayAt? ca = some c) (w : (Jvm.Cond.eq (.length t) (.int n)).value args s none s [] = some true) : c.slots.size < 2 ^ 31 ∧ c.slots.size.toInt32 = n := by
  by_cases h : c.slots.size < 2 ^ 31
  · refine ⟨h, ?_⟩
    simpa [Cond.value, Term.eval, ev, ha, h] using w
  · simp [Cond.value, Term.eval, ev, ha, h] at w
theorem own_nat {k : Nat} {n : Int32} {K : Nat} (h : k < 2 ^ 31) (e : k.toInt32 = n) (hn : n.toInt = K) : k = K := by
  have := len_toInt h
  rw [e, hn] at this
  omega
theorem own_elem {s : State} {args : Array Value} {C D E : String} {K : String} {ca : Addr} {c : Cell} {i : Nat} (ev : (Term.static C D E).eval args s none [] s = some (.ref ca)) (hc : s.heap[ca]? = some c) (hi : i < 2 ^ 31) (w : (Jvm.Cond.exactly ((Term.static C D E).elem (.index 0)) K).value args s none s [i] = some true) :
    ∃ b, c.slots[i]? = some (.ref b) ∧ Exa s s.heap b K := by
  obtain ⟨b, eb⟩ := exa_v w
  have ev' : (Term.static C D E).eval args s none [i] s = some (.ref ca) := ev
  have ei : (Term.index 0).eval args s none [i] s = some (.int i.toInt32) := Term.index_eval _
  have q := (elem_in eb ev' ei hc).2
  have en : i.toInt32.toNatClampNeg = i := by
    have := len_toInt hi
    have e : i.toInt32.toNatClampNeg = i.toInt32.toInt.toNat := rfl
    omega
  rw [en] at q
  exact ⟨b, q, exa_at eb w⟩
theorem own_eqI {s : State} {args : Array Value} {t : Term} {n : Int32} (w : (Jvm.Cond.eq t (.int n)).value args s none s [] = some true) : t.eval args s none [] s = some (.int n) := by
  cases ht : t.eval args s none [] s with
  | none => simp [Cond.value, ht] at w
  | some x => cases x <;> simp [Cond.value, Term.eval, ht] at w ⊢; exact w
/-- what a body that writes nothing and makes nothing leaves -/
def PQ (r : Option Value) (h0 : Heap) : Option Value → Heap → List Loc → Prop := fun v h L => v = r ∧ L = [] ∧ h = h0
/-- what the law leaves -/
def LQ (n0 : Nat) : Option Value → Heap → List Loc → Prop := fun v _ L => v = some (.int 1) ∧ Fr n0 L
end OwnKit
theorem pn_0 : plainName "com/example/treesack/treesack/core/ChoiceBits" = true := by first | (simp [plainName, overriddenIn]; done) | decide +kernel
theorem d1_0 : decode prog_24_method_1_code 0 = .ok (.aload_n 0, 1) := by decide +kernel
theorem d1_1 : decode prog_24_method_1_code 1 = .ok (.invokespecial 1, 3) := by decide +kernel
theorem d1_4 : decode prog_24_method_1_code 4 = .ok (.aload_n 0, 1) := by decide +kernel
theorem d1_5 : decode prog_24_method_1_code 5 = .ok (.iload_n 1, 1) := by decide +kernel
theorem d1_6 : decode prog_24_method_1_code 6 = .ok (.anewarray 7, 3) := by decide +kernel
theorem d1_9 : decode prog_24_method_1_code 9 = .ok (.putfield 9, 3) := by decide +kernel
theorem d1_12 : decode prog_24_method_1_code 12 = .ok (.return_, 1) := by decide +kernel
theorem pn_1 : plainName "com/example/treesack/treesack/core/BitRows" = true := by first | (simp [plainName, overriddenIn]; done) | decide +kernel
theorem d6_0 : decode prog_20_method_3_code 0 = .ok (.iload_n 0, 1) := by decide +kernel
theorem d6_1 : decode prog_20_method_3_code 1 = .ok (.i2l, 1) := by decide +kernel
theorem d6_2 : decode prog_20_method_3_code 2 = .ok (.ldc2_w 7, 3) := by decide +kernel
theorem d6_5 : decode prog_20_method_3_code 5 = .ok (.ladd, 1) := by decide +kernel
theorem d6_6 : decode prog_20_method_3_code 6 = .ok (.bipush 6, 2) := by decide +kernel
theorem d6_8 : decode prog_20_method_3_code 8 = .ok (.lushr, 1) := by decide +kernel
theorem d6_9 : decode prog_20_method_3_code 9 = .ok (.l2i, 1) := by decide +kernel
theorem d6_10 : decode prog_20_method_3_code 10 = .ok (.ireturn, 1) := by decide +kernel
theorem d5_0 : decode prog_24_method_2_code 0 = .ok (.aload_n 0, 1) := by decide +kernel
theorem d5_1 : decode prog_24_method_2_code 1 = .ok (.getfield 9, 3) := by decide +kernel
theorem d5_4 : decode prog_24_method_2_code 4 = .ok (.iload_n 1, 1) := by decide +kernel
theorem d5_5 : decode prog_24_method_2_code 5 = .ok (.iload_n 2, 1) := by decide +kernel
theorem pd_0 : parseMethodDescriptor "(I)I" = some ⟨[.int], some .int⟩ := by decide +kernel
theorem d5_6 : decode prog_24_method_2_code 6 = .ok (.invokestatic 15, 3) := by decide +kernel
theorem d5_9 : decode prog_24_method_2_code 9 = .ok (.newarray .long, 2) := by decide +kernel
theorem d5_11 : decode prog_24_method_2_code 11 = .ok (.aastore, 1) := by decide +kernel
theorem d5_12 : decode prog_24_method_2_code 12 = .ok (.return_, 1) := by decide +kernel
theorem d7_0 : decode prog_24_method_4_code 0 = .ok (.aload_n 0, 1) := by decide +kernel
theorem d7_1 : decode prog_24_method_4_code 1 = .ok (.getfield 33, 3) := by decide +kernel
theorem d7_4 : decode prog_24_method_4_code 4 = .ok (.ifnonnull 15, 3) := by decide +kernel
theorem d7_7 : decode prog_24_method_4_code 7 = .ok (.aload_n 0, 1) := by decide +kernel
theorem d7_8 : decode prog_24_method_4_code 8 = .ok (.aload_n 0, 1) := by decide +kernel
theorem d7_9 : decode prog_24_method_4_code 9 = .ok (.getfield 9, 3) := by decide +kernel
theorem d7_12 : decode prog_24_method_4_code 12 = .ok (.arraylength, 1) := by decide +kernel
theorem d7_13 : decode prog_24_method_4_code 13 = .ok (.anewarray 7, 3) := by decide +kernel
theorem d7_16 : decode prog_24_method_4_code 16 = .ok (.putfield 33, 3) := by decide +kernel
theorem d7_19 : decode prog_24_method_4_code 19 = .ok (.aload_n 0, 1) := by decide +kernel
theorem d7_20 : decode prog_24_method_4_code 20 = .ok (.getfield 33, 3) := by decide +kernel
theorem d7_23 : decode prog_24_method_4_code 23 = .ok (.iload_n 1, 1) := by decide +kernel
theorem d7_24 : decode prog_24_method_4_code 24 = .ok (.iload_n 2, 1) := by decide +kernel
theorem d7_25 : decode prog_24_method_4_code 25 = .ok (.newarray .long, 2) := by decide +kernel
theorem d7_27 : decode prog_24_method_4_code 27 = .ok (.aastore, 1) := by decide +kernel
theorem d7_28 : decode prog_24_method_4_code 28 = .ok (.aload_n 0, 1) := by decide +kernel
theorem d7_29 : decode prog_24_method_4_code 29 = .ok (.getfield 33, 3) := by decide +kernel
theorem d7_32 : decode prog_24_method_4_code 32 = .ok (.iload_n 1, 1) := by decide +kernel
theorem d7_33 : decode prog_24_method_4_code 33 = .ok (.aaload, 1) := by decide +kernel
theorem d7_34 : decode prog_24_method_4_code 34 = .ok (.areturn, 1) := by decide +kernel
theorem d8_0 : decode prog_24_method_5_code 0 = .ok (.aload_n 0, 1) := by decide +kernel
theorem d8_1 : decode prog_24_method_5_code 1 = .ok (.getfield 36, 3) := by decide +kernel
theorem d8_4 : decode prog_24_method_5_code 4 = .ok (.ifnonnull 15, 3) := by decide +kernel
theorem d8_7 : decode prog_24_method_5_code 7 = .ok (.aload_n 0, 1) := by decide +kernel
theorem d8_8 : decode prog_24_method_5_code 8 = .ok (.aload_n 0, 1) := by decide +kernel
theorem d8_9 : decode prog_24_method_5_code 9 = .ok (.getfield 9, 3) := by decide +kernel
theorem d8_12 : decode prog_24_method_5_code 12 = .ok (.arraylength, 1) := by decide +kernel
theorem d8_13 : decode prog_24_method_5_code 13 = .ok (.anewarray 7, 3) := by decide +kernel
theorem d8_16 : decode prog_24_method_5_code 16 = .ok (.putfield 36, 3) := by decide +kernel
theorem d8_19 : decode prog_24_method_5_code 19 = .ok (.aload_n 0, 1) := by decide +kernel
theorem d8_20 : decode prog_24_method_5_code 20 = .ok (.getfield 36, 3) := by decide +kernel
theorem d8_23 : decode prog_24_method_5_code 23 = .ok (.iload_n 1, 1) := by decide +kernel
theorem d8_24 : decode prog_24_method_5_code 24 = .ok (.aload_n 2, 1) := by decide +kernel
theorem d8_25 : decode prog_24_method_5_code 25 = .ok (.aastore, 1) := by decide +kernel
theorem d8_26 : decode prog_24_method_5_code 26 = .ok (.return_, 1) := by decide +kernel
theorem pn_2 : plainName "com/example/treesack/treesack/core/ChoiceBitsHasRowPinLaw" = true := by first | (simp [plainName, overriddenIn]; done) | decide +kernel
theorem d3_0 : decode method_2_code 0 = .ok (.iload_n 2, 1) := by decide +kernel
theorem d3_1 : decode method_2_code 1 = .ok (.iconst 1, 1) := by decide +kernel
theorem d3_2 : decode method_2_code 2 = .ok (.if_icmp .ne 16, 3) := by decide +kernel
theorem d3_5 : decode method_2_code 5 = .ok (.aload_n 0, 1) := by decide +kernel
theorem d3_6 : decode method_2_code 6 = .ok (.iload_n 1, 1) := by decide +kernel
theorem d3_7 : decode method_2_code 7 = .ok (.iload_n 3, 1) := by decide +kernel
theorem d3_8 : decode method_2_code 8 = .ok (.sipush 1023, 3) := by decide +kernel
theorem d3_11 : decode method_2_code 11 = .ok (.iand, 1) := by decide +kernel
theorem pd_1 : parseMethodDescriptor "(II)V" = some ⟨[.int, .int], none⟩ := by decide +kernel
theorem d3_12 : decode method_2_code 12 = .ok (.invokevirtual 7, 3) := by decide +kernel
theorem d3_15 : decode method_2_code 15 = .ok (.goto 34, 3) := by decide +kernel
theorem d3_49 : decode method_2_code 49 = .ok (.return_, 1) := by decide +kernel
theorem d3_18 : decode method_2_code 18 = .ok (.iload_n 2, 1) := by decide +kernel
theorem d3_19 : decode method_2_code 19 = .ok (.iconst 2, 1) := by decide +kernel
theorem d3_20 : decode method_2_code 20 = .ok (.if_icmp .ne 17, 3) := by decide +kernel
theorem d3_23 : decode method_2_code 23 = .ok (.aload_n 0, 1) := by decide +kernel
theorem d3_24 : decode method_2_code 24 = .ok (.iload_n 1, 1) := by decide +kernel
theorem d3_25 : decode method_2_code 25 = .ok (.iload 4, 2) := by decide +kernel
theorem d3_27 : decode method_2_code 27 = .ok (.bipush 7, 2) := by decide +kernel
theorem d3_29 : decode method_2_code 29 = .ok (.iand, 1) := by decide +kernel
theorem pd_2 : parseMethodDescriptor "(II)[J" = some ⟨[.int, .int], some (.array .long)⟩ := by decide +kernel
theorem d3_30 : decode method_2_code 30 = .ok (.invokevirtual 13, 3) := by decide +kernel
theorem d3_33 : decode method_2_code 33 = .ok (.pop, 1) := by decide +kernel
theorem d3_34 : decode method_2_code 34 = .ok (.goto 15, 3) := by decide +kernel
theorem d3_37 : decode method_2_code 37 = .ok (.iload_n 2, 1) := by decide +kernel
theorem d3_38 : decode method_2_code 38 = .ok (.iconst 3, 1) := by decide +kernel
theorem d3_39 : decode method_2_code 39 = .ok (.if_icmp .ne 10, 3) := by decide +kernel
theorem d3_42 : decode method_2_code 42 = .ok (.aload_n 0, 1) := by decide +kernel
theorem d3_43 : decode method_2_code 43 = .ok (.iload_n 1, 1) := by decide +kernel
theorem d3_44 : decode method_2_code 44 = .ok (.aload 5, 2) := by decide +kernel
theorem pd_3 : parseMethodDescriptor "(I[J)V" = some ⟨[.int, (.array .long)], none⟩ := by decide +kernel
theorem d3_46 : decode method_2_code 46 = .ok (.invokevirtual 17, 3) := by decide +kernel
theorem d4_0 : decode prog_24_method_6_code 0 = .ok (.aload_n 0, 1) := by decide +kernel
theorem d4_1 : decode prog_24_method_6_code 1 = .ok (.getfield 9, 3) := by decide +kernel
theorem d4_4 : decode prog_24_method_6_code 4 = .ok (.iload_n 1, 1) := by decide +kernel
theorem d4_5 : decode prog_24_method_6_code 5 = .ok (.aaload, 1) := by decide +kernel
theorem d4_6 : decode prog_24_method_6_code 6 = .ok (.ifnonnull 35, 3) := by decide +kernel
theorem d4_41 : decode prog_24_method_6_code 41 = .ok (.iconst 1, 1) := by decide +kernel
theorem d4_42 : decode prog_24_method_6_code 42 = .ok (.goto 4, 3) := by decide +kernel
theorem d4_46 : decode prog_24_method_6_code 46 = .ok (.ireturn, 1) := by decide +kernel
theorem d4_9 : decode prog_24_method_6_code 9 = .ok (.aload_n 0, 1) := by decide +kernel
theorem d4_10 : decode prog_24_method_6_code 10 = .ok (.getfield 33, 3) := by decide +kernel
theorem d4_13 : decode prog_24_method_6_code 13 = .ok (.ifnull 12, 3) := by decide +kernel
theorem d4_25 : decode prog_24_method_6_code 25 = .ok (.aload_n 0, 1) := by decide +kernel
theorem d4_26 : decode prog_24_method_6_code 26 = .ok (.getfield 36, 3) := by decide +kernel
theorem d4_29 : decode prog_24_method_6_code 29 = .ok (.ifnull 16, 3) := by decide +kernel
theorem d4_45 : decode prog_24_method_6_code 45 = .ok (.iconst 0, 1) := by decide +kernel
theorem d4_32 : decode prog_24_method_6_code 32 = .ok (.aload_n 0, 1) := by decide +kernel
theorem d4_33 : decode prog_24_method_6_code 33 = .ok (.getfield 36, 3) := by decide +kernel
theorem d4_36 : decode prog_24_method_6_code 36 = .ok (.iload_n 1, 1) := by decide +kernel
theorem d4_37 : decode prog_24_method_6_code 37 = .ok (.aaload, 1) := by decide +kernel
theorem d4_38 : decode prog_24_method_6_code 38 = .ok (.ifnull 7, 3) := by decide +kernel
theorem d4_16 : decode prog_24_method_6_code 16 = .ok (.aload_n 0, 1) := by decide +kernel
theorem d4_17 : decode prog_24_method_6_code 17 = .ok (.getfield 33, 3) := by decide +kernel
theorem d4_20 : decode prog_24_method_6_code 20 = .ok (.iload_n 1, 1) := by decide +kernel
theorem d4_21 : decode prog_24_method_6_code 21 = .ok (.aaload, 1) := by decide +kernel
theorem d4_22 : decode prog_24_method_6_code 22 = .ok (.ifnonnull 19, 3) := by decide +kernel
theorem pd_4 : parseMethodDescriptor "(I)V" = some ⟨[.int], none⟩ := by decide +kernel
theorem pd_5 : parseMethodDescriptor "(Lcom/example/treesack/treesack/core/ChoiceBits;IIII[J)V" = some ⟨[(.object "com/example/treesack/treesack/core/ChoiceBits"), .int, .int, .int, .int, (.array .long)], none⟩ := by decide +kernel
theorem pd_6 : parseMethodDescriptor "(I)Z" = some ⟨[.int], some .boolean⟩ := by decide +kernel
section JrrS
variable {p : Program} {l : Launch} {e : Env} {R : Room} {s : State} {m : MethodId} {args : Array Value} {below : List Frame} {meth : Method} {c : Code} {T : State} {locs : List Loc} {cells slots : Nat} {Z : State} {a0 : Array Value} {h h' : Heap} {a b : Addr} {n : Nat} {f g : Nat → Value} {v : Value} {sl : Nat} {ws : List Addr}
/-- an array of long arrays -/
def Jrr (Z : State) (h : Heap) (a : Addr) (n : Nat) (f : Nat → Value) : Prop := ∃ (cl : Cell) (cA : ClassId), Arr Z h a cl (.array .long) ∧ cl.cls = cA ∧ OvrA Z cA .long "[J" ∧ cl.slots.size = n ∧ ∀ i, i < n → cl.slots[i]? = some (f i)
theorem Jrr.jar (F : Jrr Z h a n f) : Jar Z h a (.array .long) n f := by obtain ⟨cl, cA, A, q1, q2, q3, q4⟩ := F; exact ⟨cl, A, q3, q4⟩
theorem Jrr.lt (F : Jrr Z h a n f) : a < h.size := F.jar.lt
theorem Jrr.ext (F : Jrr Z h a n f) (E : Ext h h') : Jrr Z h' a n f := by obtain ⟨cl, cA, A, r⟩ := F; exact ⟨cl, cA, A.ext E, r⟩
theorem Jrr.other (F : Jrr Z h b n f) (W : Wr h h' a sl v) (q : b ≠ a) : Jrr Z h' b n f := by obtain ⟨cl, cA, A, r⟩ := F; exact ⟨cl, cA, A.other W q, r⟩
theorem Jrr.new {k : ClassId} {z : Int32} (A : Arr Z h a (newA k (.array .long) z) (.array .long)) (O : OvrA Z k .long "[J") (hz : z.toNatClampNeg = n) : Jrr Z h a n (fun _ => .null) := ⟨_, k, A, rfl, O, (sz_new _ _ _).trans hz, fun i hi => by simp [newA, hz, hi, defaultValue]⟩
theorem Jrr.set (F : Jrr Z h a n f) (W : Wr h h' a sl v) : Jrr Z h' a n (fun i => if i = sl then v else f i) := by
  obtain ⟨cl, cA, A, r1, r2, s1, s2⟩ := F
  obtain ⟨c2, q1, -, q3, -⟩ := id W
  cases A.1.symm.trans q1
  refine ⟨_, cA, Arr.same W A, r1, r2, by simp [Cell.setSlot, s1], fun i hi => ?_⟩
  by_cases q : i = sl
  · subst q; simp [Cell.setSlot, q3]
  · show (cl.slots.setIfInBounds sl v)[i]? = some (if i = sl then v else f i)
    rw [if_neg q, ← s2 i hi, Array.getElem?_setIfInBounds_ne (Ne.symm q)]
theorem kStR (X : Stand p l e R s m args below meth c T locs cells slots) (hx : p.tables.exec = Jvm.exec) (hZ : Z.Warmed39 s.vm) (eT : T.heap = h) (F : Jrr Z h a n f) {j : Int32} {y : Addr} (hj : 0 ≤ j.toInt ∧ j.toInt < n) (I : Ins Z h y "[J" true) {g : JFrame} (hg : g.method = m) {rest : List Value} (hs : g.stack = .ref y :: .int j :: .ref a :: rest) (hd : decode c.code g.pc = .ok (.aastore, 1)) :
    ∃ T' h', Stand p l e R s m args below meth c T' (locs ++ [⟨a, j.toNatClampNeg⟩]) cells slots ∧ T'.heap = h' ∧ Wr h h' a j.toNatClampNeg (.ref y) ∧ ∀ target, Steps p.tables e below (T'.setTop { g with pc := g.pc + 1, stack := rest }) target → Steps p.tables e below (T.setTop g) target := by
  obtain ⟨cl, cA, A, r1, r2, s1, s2⟩ := F
  exact stR X hx hZ eT A (inJ s1 hj) rfl (Sto.ofVA A r1 r2 I) hg hs hd
end JrrS
/-- cells below a stand as they stood -/
def Low (a : Addr) (h0 h : Heap) : Prop := h0.size ≤ h.size ∧ ∀ (x : Addr) (c : Cell), x < a → h0[x]? = some c → h[x]? = some c
theorem Low.of {a : Addr} {h0 h : Heap} {ws : List Addr} (K : Keep h0 h ws) (q : ∀ x ∈ ws, a ≤ x) : Low a h0 h := ⟨K.1, fun x c hx hc => K.2.1 x c hc fun z => absurd (q x z) (Nat.not_le.mpr hx)⟩
theorem Low.trans {a : Addr} {h0 h h' : Heap} (K : Low a h0 h) (K' : Low a h h') : Low a h0 h' := ⟨Nat.le_trans K.1 K'.1, fun x c hx hc => K'.2 x c hx (K.2 x c hx hc)⟩
theorem exa_low {Z : State} {a x : Addr} {h0 h : Heap} {C : String} (E : Exa Z h0 x C) (K : Low a h0 h) (q : x < a) : Exa Z h x C := by obtain ⟨c, k, h1, r⟩ := E; exact ⟨c, k, K.2 _ _ q h1, r⟩
/-- what a ChoiceBits holds: P: the rows that are there -/
def CBs (Z : State) (h : Heap) (a : Addr) (P : Nat → Prop) : Prop := ∃ (ra : Addr) (fr fl fu : Nat → Value) (lv uv : Value), Exa Z h a "com/example/treesack/treesack/core/ChoiceBits" ∧ Fld Z h a "com/example/treesack/treesack/core/ChoiceBits" "rows" "[[J" (.ref ra) ∧ Fld Z h a "com/example/treesack/treesack/core/ChoiceBits" "listedRows" "[[J" lv ∧ Fld Z h a "com/example/treesack/treesack/core/ChoiceBits" "runRows" "[[J" uv ∧
  Jrr Z h ra 3 fr ∧ (lv = .null ∨ ∃ la, lv = .ref la ∧ Jrr Z h la 3 fl ∧ a ≤ la ∧ ra ≠ la) ∧ (uv = .null ∨ ∃ ua, uv = .ref ua ∧ Jrr Z h ua 3 fu ∧ a ≤ ua ∧ ra ≠ ua ∧ lv ≠ .ref ua) ∧ a ≤ ra ∧ (∀ i, (fr i).isRef = true) ∧ (∀ i, (fl i).isRef = true) ∧ (∀ i, (fu i).isRef = true) ∧
  ∀ i, i < 3 → (P i ↔ (fr i ≠ .null ∨ (lv ≠ .null ∧ fl i ≠ .null) ∨ (uv ≠ .null ∧ fu i ≠ .null)))
theorem isr_set {f : Nat → Value} (H : ∀ i, (f i).isRef = true) {sl : Nat} {y : Addr} (i : Nat) : ((fun i => if i = sl then Value.ref y else f i) i).isRef = true := by
  dsimp only; split
  · rfl
  · exact H i
theorem has_r {P : Nat → Prop} {fr fl fu : Nat → Value} {lv uv : Value} (H : ∀ i, i < 3 → (P i ↔ (fr i ≠ .null ∨ (lv ≠ .null ∧ fl i ≠ .null) ∨ (uv ≠ .null ∧ fu i ≠ .null)))) (sl : Nat) (y : Addr) : ∀ i, i < 3 → ((P i ∨ i = sl) ↔ ((if i = sl then Value.ref y else fr i) ≠ .null ∨ (lv ≠ .null ∧ fl i ≠ .null) ∨ (uv ≠ .null ∧ fu i ≠ .null))) := fun i hi => by
  have := H i hi
  by_cases q : i = sl
  · simp [q]
  · simp only [q, or_false, if_false]; exact this
theorem has_l {P : Nat → Prop} {fr fl fu : Nat → Value} {lv uv : Value} {la : Addr} (H : ∀ i, i < 3 → (P i ↔ (fr i ≠ .null ∨ (lv ≠ .null ∧ fl i ≠ .null) ∨ (uv ≠ .null ∧ fu i ≠ .null)))) (hl : lv = .ref la) (sl : Nat) (y : Addr) : ∀ i, i < 3 → ((P i ∨ i = sl) ↔ (fr i ≠ .null ∨ (Value.ref la ≠ .null ∧ (if i = sl then Value.ref y else fl i) ≠ .null) ∨ (uv ≠ .null ∧ fu i ≠ .null))) := fun i hi => by
  have := H i hi
  subst hl
  by_cases q : i = sl
  · simp [q]
  · simp only [q, or_false, if_false]; exact this
theorem has_u {P : Nat → Prop} {fr fl fu : Nat → Value} {lv uv : Value} {ua : Addr} (H : ∀ i, i < 3 → (P i ↔ (fr i ≠ .null ∨ (lv ≠ .null ∧ fl i ≠ .null) ∨ (uv ≠ .null ∧ fu i ≠ .null)))) (hu : uv = .ref ua) (sl : Nat) (y : Addr) : ∀ i, i < 3 → ((P i ∨ i = sl) ↔ (fr i ≠ .null ∨ (lv ≠ .null ∧ fl i ≠ .null) ∨ (Value.ref ua ≠ .null ∧ (if i = sl then Value.ref y else fu i) ≠ .null))) := fun i hi => by
  have := H i hi
  subst hu
  by_cases q : i = sl
  · simp [q]
  · simp only [q, or_false, if_false]; exact this
theorem has_ln {P : Nat → Prop} {fr fl fu : Nat → Value} {uv : Value} (la : Addr) (H : ∀ i, i < 3 → (P i ↔ (fr i ≠ .null ∨ ((Value.null : Value) ≠ .null ∧ fl i ≠ .null) ∨ (uv ≠ .null ∧ fu i ≠ .null)))) : ∀ i, i < 3 → (P i ↔ (fr i ≠ .null ∨ (Value.ref la ≠ .null ∧ (fun _ => Value.null : Nat → Value) i ≠ .null) ∨ (uv ≠ .null ∧ fu i ≠ .null))) := fun i hi => by
  have := H i hi; simpa using this
theorem has_un {P : Nat → Prop} {fr fl fu : Nat → Value} {lv : Value} (ua : Addr) (H : ∀ i, i < 3 → (P i ↔ (fr i ≠ .null ∨ (lv ≠ .null ∧ fl i ≠ .null) ∨ ((Value.null : Value) ≠ .null ∧ fu i ≠ .null)))) : ∀ i, i < 3 → (P i ↔ (fr i ≠ .null ∨ (lv ≠ .null ∧ fl i ≠ .null) ∨ (Value.ref ua ≠ .null ∧ (fun _ => Value.null : Nat → Value) i ≠ .null))) := fun i hi => by
  have := H i hi; simpa using this
def MkQ (Z : State) (a : Addr) (P : Nat → Prop) (h0 : Heap) (n0 : Nat) (r : Option Value → Prop) : Option Value → Heap → List Loc → Prop := fun v h L => r v ∧ Fr n0 L ∧ Low a h0 h ∧ CBs Z h a P
theorem ef_c_ini (m : MethodId) (x0 : Addr) (x1 : Int32) : entryFrame m #[(.ref x0), (.int x1)] 2 = mkF m 0 #[.val (.ref x0), .val (.int x1)] [] := by first | (simp [entryFrame, mkF, argsToLocals, Value.category]; done) | rfl
set_option maxRecDepth 65536 in
set_option maxHeartbeats 40000000 in
theorem c_ini (l : Launch) (Z : State) (a0 : Array Value) (hw : ∀ d ∈ tables_1, d.before a0 Z = true) (a : Addr) (h0 : Heap) (n0 : Nat) (Z0 : n0 ≤ h0.size) (Ex : Exa Z h0 a "com/example/treesack/treesack/core/ChoiceBits") (Fr_ : Fld Z h0 a "com/example/treesack/treesack/core/ChoiceBits" "rows" "[[J" .null) (Fl_ : Fld Z h0 a "com/example/treesack/treesack/core/ChoiceBits" "listedRows" "[[J" .null) (Fu_ : Fld Z h0 a "com/example/treesack/treesack/core/ChoiceBits" "runRows" "[[J" .null) (ga : n0 ≤ a) (ha : a < h0.size) :
    Con l Z (⟨"com/example/treesack/treesack/core/ChoiceBits", "<init>", "(I)V"⟩ : MethodName) prog_24_method_1_code 2 none ({ frames := 1, cells := 1, slots := 3, locals := 12 } : Room) #[(.ref a), (.int (3 : Int32))] h0 (MkQ Z a (fun _ => False) h0 n0 (fun v => v = none)) := by
  refine Con.intro (plainFor_of_name pn_0) ?_
  intro p e s m below meth c s₁ hx hby hml hrt hlk hZ hown hnm X0 e0
  replace hown : s.vm.findClass "com/example/treesack/treesack/core/ChoiceBits" = some m.cls := hown
  have N0 := Fr.nil n0
  refine GoOn.cast (ef_c_ini m a (3 : Int32)) ?_
  show GoOn p e below _ (s₁.setTop (mkF m 0 #[.val (.ref a), .val (.int (3 : Int32))] []))
  have K0 : Keep h0 h0 [a] := Keep.refl _ _
  refine GoOn.step (fun t₀ k₀ => XS.aloadN X0.here hx rfl (hb hby d1_0) rfl rfl k₀) ?_
  show GoOn p e below _ (s₁.setTop (mkF m 1 #[.val (.ref a), .val (.int (3 : Int32))] [(.ref a)]))
  obtain ⟨T1, X1, e1, st1⟩ := initO X0 hx hZ hown (hw _ (List.mem_of_getElem? (i := 8) rfl)) (hw _ (List.mem_of_getElem? (i := 9) rfl)) (hw _ (List.mem_of_getElem? (i := 10) rfl)) e0 (g := (mkF m 1 #[.val (.ref a), .val (.int (3 : Int32))] [(.ref a)])) rfl (by rw [hml]; rfl) rfl (hb hby d1_1) (by decide) (W := 0) (by show 2 * 0 + _ ≤ _; exact Nat.le_of_eq rfl) (by decide)
  refine GoOn.step st1 ?_
  show GoOn p e below _ (T1.setTop (mkF m 4 #[.val (.ref a), .val (.int (3 : Int32))] []))
  refine GoOn.step (fun t₀ k₀ => XS.aloadN X1.here hx rfl (hb hby d1_4) rfl rfl k₀) ?_
  show GoOn p e below _ (T1.setTop (mkF m 5 #[.val (.ref a), .val (.int (3 : Int32))] [(.ref a)]))
  refine GoOn.step (fun t₀ k₀ => XS.iloadN X1.here hx rfl (hb hby d1_5) rfl k₀) ?_
  show GoOn p e below _ (T1.setTop (mkF m 6 #[.val (.ref a), .val (.int (3 : Int32))] [(.int (3 : Int32)), (.ref a)]))
  obtain ⟨T2, h2, k2, X2, e2, E2, A2, B2, O2, st2⟩ := newRA X1 hx hZ hown (ty := .long) (C := "[J") (by decide) (hw _ (List.mem_of_getElem? (i := 11) rfl)) (hw _ (List.mem_of_getElem? (i := 12) rfl)) e1 (g := (mkF m 6 #[.val (.ref a), .val (.int (3 : Int32))] [(.int (3 : Int32)), (.ref a)])) rfl (hb hby d1_6) rfl (by decide) (cap := 3) (by decide) (by decide) (by decide) (by decide) (ad := "[[J") (by decide)
  obtain ⟨ra, g2⟩ : ∃ z, z = h0.size := ⟨_, rfl⟩
  rw [← g2] at A2 st2
  have lt_a_ra : a < ra := by rw [g2]; exact Ex.lt
  have ne_a_ra : a ≠ ra := Nat.ne_of_lt lt_a_ra
  have le_ra : n0 ≤ ra := by rw [g2]; exact Z0
  have sz_ra : h0.size ≤ ra := by rw [g2]; exact K0.1
  replace Ex := Ex.ext E2
  replace Fr_ := Fr_.ext E2
  replace Fl_ := Fl_.ext E2
  replace Fu_ := Fu_.ext E2
  replace Z0 := Nat.le_trans Z0 E2.1
  replace K0 := K0.ext E2
  have J_ra : Jrr Z h2 ra 3 (fun _ => .null) := Jrr.new A2 O2 (by decide)
  refine GoOn.step st2 ?_
  show GoOn p e below _ (T2.setTop (mkF m 9 #[.val (.ref a), .val (.int (3 : Int32))] [(.ref ra), (.ref a)]))
  obtain ⟨T3, h3, X3, e3, W3, st3⟩ := putF X2 hx hZ hown (host := "") (Or.inl (hw _ (List.mem_of_getElem? (i := 13) rfl))) Via.refl e2 Fr_ Ex (Or.inr ⟨(hw _ (List.mem_of_getElem? (i := 14) rfl)), rfl, hnm⟩) (hw _ (List.mem_of_getElem? (i := 3) rfl)) (ty := (.array (.array .long))) (by decide) rfl rfl (g := (mkF m 9 #[.val (.ref a), .val (.int (3 : Int32))] [(.ref ra), (.ref a)])) rfl rfl (hb hby d1_9)
  replace N0 := Fr.snoc X3 N0 ga
  replace Ex := Ex.wr W3
  replace Fr_ := Fld.same W3 Fr_
  replace Fl_ := Fl_.other W3 (Or.inr (slot_ne (Or.inl (hw _ (List.mem_of_getElem? (i := 25) rfl))) (Or.inr (hw _ (List.mem_of_getElem? (i := 14) rfl))) (by decide) (t := (.array (.array .long))) (t' := (.array (.array .long))) (by decide) (by decide)))
  replace Fu_ := Fu_.other W3 (Or.inr (slot_ne (Or.inl (hw _ (List.mem_of_getElem? (i := 27) rfl))) (Or.inr (hw _ (List.mem_of_getElem? (i := 14) rfl))) (by decide) (t := (.array (.array .long))) (t' := (.array (.array .long))) (by decide) (by decide)))
  replace J_ra := J_ra.other W3 (Ne.symm ne_a_ra)
  replace Z0 := Nat.le_trans Z0 (Nat.le_of_eq W3.size.symm)
  replace K0 := K0.wr W3 (Or.inl (by simp))
  refine GoOn.step st3 ?_
  show GoOn p e below _ (T3.setTop (mkF m 12 #[.val (.ref a), .val (.int (3 : Int32))] []))
  have gr : a ≤ ra := Nat.le_of_lt (Nat.lt_of_lt_of_le ha sz_ra)
  exact GoOn.ret0 X3 hx hrt hlk (hb hby d1_12) (by decide) (by decide) (by first | exact ⟨rfl, N0, (Low.of K0 (allS (Nat.le_refl a) all0)), ra, _, fun _ => .null, fun _ => .null, _, _, Ex, Fr_, Fl_, Fu_, J_ra, Or.inl rfl, Or.inl rfl, gr, fun _ => rfl, fun _ => rfl, fun _ => rfl, fun i hi => by simp⟩ | (rw [e3]; exact ⟨rfl, N0, (Low.of K0 (allS (Nat.le_refl a) all0)), ra, _, fun _ => .null, fun _ => .null, _, _, Ex, Fr_, Fl_, Fu_, J_ra, Or.inl rfl, Or.inl rfl, gr, fun _ => rfl, fun _ => rfl, fun _ => rfl, fun i hi => by simp⟩))
theorem wc_ok (q : Int32) (h : 0 ≤ q.toInt ∧ q.toInt ≤ 1023) : 0 ≤ ((((q.toInt64 + (63 : Int64)).toUInt64 >>> ((6 : Int32) &&& 0x3f).toInt64.toUInt64).toInt64).toInt32).toInt ∧ ((((q.toInt64 + (63 : Int64)).toUInt64 >>> ((6 : Int32) &&& 0x3f).toInt64.toUInt64).toInt64).toInt32).toInt ≤ 16 := by
  have h1 := c_i2l q
  have k1 : (63 : Int64).toInt = 63 := by decide
  have h2 := c_ladd q.toInt64 63; have h3 := rng64 (q.toInt64 + 63)
  have h4 := c_lushr (q.toInt64 + 63) 6 6 (by decide) (by decide)
  rw [show (2 ^ 6 : Nat) = 64 from by decide] at h4
  have h5 := c_l2i (((q.toInt64 + (63 : Int64)).toUInt64 >>> ((6 : Int32) &&& 0x3f).toInt64.toUInt64).toInt64)
  have h6 := rng32 ((((q.toInt64 + (63 : Int64)).toUInt64 >>> ((6 : Int32) &&& 0x3f).toInt64.toUInt64).toInt64).toInt32)
  omega
def wcV (q : Int32) : Int32 := ((((q.toInt64 + (63 : Int64)).toUInt64 >>> ((6 : Int32) &&& 0x3f).toInt64.toUInt64).toInt64).toInt32)
theorem clamp_le {x : Int32} {k : Nat} (h : 0 ≤ x.toInt ∧ x.toInt ≤ k) : x.toNatClampNeg ≤ k := by have e : x.toNatClampNeg = x.toInt.toNat := rfl; omega
theorem not_neg {x : Int32} (h : 0 ≤ x.toInt) : ¬ x < 0 := by rw [Int32.lt_iff_toInt_lt, show (0 : Int32).toInt = 0 from by decide]; omega
theorem ef_c_wc (m : MethodId) (x0 : Int32) : entryFrame m #[(.int x0)] 1 = mkF m 0 #[.val (.int x0)] [] := by first | (simp [entryFrame, mkF, argsToLocals, Value.category]; done) | rfl
set_option maxRecDepth 65536 in
set_option maxHeartbeats 40000000 in
theorem c_wc (l : Launch) (Z : State) (a0 : Array Value) (hw : ∀ d ∈ tables_1, d.before a0 Z = true) (q : Int32) (h0 : Heap)  :
    Con l Z (⟨"com/example/treesack/treesack/core/BitRows", "wordCount", "(I)I"⟩ : MethodName) prog_20_method_3_code 1 (some .int) ({ frames := 0, cells := 0, slots := 0, locals := 0 } : Room) #[(.int q)] h0 (PQ (some (.int (wcV q))) h0) := by
  refine Con.intro (plainFor_of_name pn_1) ?_
  intro p e s m below meth c s₁ hx hby hml hrt hlk hZ hown hnm X0 e0
  replace hown : s.vm.findClass "com/example/treesack/treesack/core/BitRows" = some m.cls := hown
  refine GoOn.cast (ef_c_wc m q) ?_
  show GoOn p e below _ (s₁.setTop (mkF m 0 #[.val (.int q)] []))
  refine GoOn.step (fun t₀ k₀ => XS.iloadN X0.here hx rfl (hb hby d6_0) rfl k₀) ?_
  show GoOn p e below _ (s₁.setTop (mkF m 1 #[.val (.int q)] [(.int q)]))
  refine GoOn.step (fun t₀ k₀ => XS.i2l X0.here hx rfl (hb hby d6_1) rfl k₀) ?_
  show GoOn p e below _ (s₁.setTop (mkF m 2 #[.val (.int q)] [(.long (q.toInt64))]))
  refine GoOn.step (fun t₀ k₀ => X0.ldc2Long hx hown (mvT hZ (hw _ (List.mem_of_getElem? (i := 37) rfl))) (g := (mkF m 2 #[.val (.int q)] [(.long (q.toInt64))])) rfl (hb hby d6_2) t₀ k₀) ?_
  show GoOn p e below _ (s₁.setTop (mkF m 5 #[.val (.int q)] [(.long (63 : Int64)), (.long (q.toInt64))]))
  refine GoOn.step (fun t₀ k₀ => XS.ladd X0.here hx rfl (hb hby d6_5) rfl k₀) ?_
  show GoOn p e below _ (s₁.setTop (mkF m 6 #[.val (.int q)] [(.long ((q.toInt64) + (63 : Int64)))]))
  refine GoOn.step (fun t₀ k₀ => XS.bipush X0.here hx rfl (hb hby d6_6) k₀) ?_
  show GoOn p e below _ (s₁.setTop (mkF m 8 #[.val (.int q)] [(.int (6 : Int32)), (.long ((q.toInt64) + (63 : Int64)))]))
  refine GoOn.step (fun t₀ k₀ => XS.lushr X0.here hx rfl (hb hby d6_8) rfl k₀) ?_
  show GoOn p e below _ (s₁.setTop (mkF m 9 #[.val (.int q)] [(.long ((((q.toInt64) + (63 : Int64)).toUInt64 >>> ((6 : Int32) &&& 0x3f).toInt64.toUInt64).toInt64))]))
  refine GoOn.step (fun t₀ k₀ => XS.l2i X0.here hx rfl (hb hby d6_9) rfl k₀) ?_
  show GoOn p e below _ (s₁.setTop (mkF m 10 #[.val (.int q)] [(.int (((((q.toInt64) + (63 : Int64)).toUInt64 >>> ((6 : Int32) &&& 0x3f).toInt64.toUInt64).toInt64).toInt32))]))
  exact GoOn.retI X0 hx hrt hlk (hb hby d6_10) (by decide) (by decide) (by first | exact ⟨rfl, rfl, rfl⟩ | (rw [e0]; exact ⟨rfl, rfl, rfl⟩))
theorem ef_c_row (m : MethodId) (x0 : Addr) (x1 : Int32) (x2 : Int32) : entryFrame m #[(.ref x0), (.int x1), (.int x2)] 3 = mkF m 0 #[.val (.ref x0), .val (.int x1), .val (.int x2)] [] := by first | (simp [entryFrame, mkF, argsToLocals, Value.category]; done) | rfl
set_option maxRecDepth 65536 in
set_option maxHeartbeats 40000000 in
theorem c_row (l : Launch) (Z : State) (a0 : Array Value) (hw : ∀ d ∈ tables_1, d.before a0 Z = true) (a : Addr) (row q : Int32) (P : Nat → Prop) (h0 : Heap) (n0 : Nat) (Z0 : n0 ≤ h0.size) (CS : CBs Z h0 a P) (ga : n0 ≤ a) (hrow : 0 ≤ row.toInt ∧ row.toInt < (3 : Nat)) (hq : 0 ≤ q.toInt ∧ q.toInt ≤ 1023) :
    Con l Z (⟨"com/example/treesack/treesack/core/ChoiceBits", "newRow", "(II)V"⟩ : MethodName) prog_24_method_2_code 3 none ({ frames := 1, cells := 1, slots := 16, locals := 16 } : Room) #[(.ref a), (.int row), (.int q)] h0 (MkQ Z a (fun i => P i ∨ i = row.toNatClampNeg) h0 n0 (fun v => v = none)) := by
  refine Con.intro (plainFor_of_name pn_0) ?_
  intro p e s m below meth c s₁ hx hby hml hrt hlk hZ hown hnm X0 e0
  replace hown : s.vm.findClass "com/example/treesack/treesack/core/ChoiceBits" = some m.cls := hown
  have N0 := Fr.nil n0
  refine GoOn.cast (ef_c_row m a row q) ?_
  show GoOn p e below _ (s₁.setTop (mkF m 0 #[.val (.ref a), .val (.int row), .val (.int q)] []))
  obtain ⟨ra, fr, fl, fu, lv, uv, Ex, Fr_, Fl_, Fu_, Jr, OL, OU, gr, ir, il, iu, HP⟩ := CS
  have ne_a_ra : a ≠ ra := ne_arr Ex (hw _ (List.mem_of_getElem? (i := 3) rfl)) Jr.choose_spec.choose_spec.1
  rcases OL with hl | ⟨la, hl, Jl, gl, nl⟩
  · rcases OU with hu | ⟨ua, hu, Ju, gu, nu, nlu⟩
    · subst hl hu
      have K0 : Keep h0 h0 [a, ra] := Keep.refl _ _
      refine GoOn.step (fun t₀ k₀ => XS.aloadN X0.here hx rfl (hb hby d5_0) rfl rfl k₀) ?_
      show GoOn p e below _ (s₁.setTop (mkF m 1 #[.val (.ref a), .val (.int row), .val (.int q)] [(.ref a)]))
      obtain ⟨T4, X4, e4, st4⟩ := getF X0 hx hZ hown (host := "") (Or.inl (hw _ (List.mem_of_getElem? (i := 13) rfl))) Via.refl e0 Fr_ (g := (mkF m 1 #[.val (.ref a), .val (.int row), .val (.int q)] [(.ref a)])) rfl rfl (hb hby d5_1)
      refine GoOn.step st4 ?_
      show GoOn p e below _ (T4.setTop (mkF m 4 #[.val (.ref a), .val (.int row), .val (.int q)] [(.ref ra)]))
      refine GoOn.step (fun t₀ k₀ => XS.iloadN X4.here hx rfl (hb hby d5_4) rfl k₀) ?_
      show GoOn p e below _ (T4.setTop (mkF m 5 #[.val (.ref a), .val (.int row), .val (.int q)] [(.int row), (.ref ra)]))
      refine GoOn.step (fun t₀ k₀ => XS.iloadN X4.here hx rfl (hb hby d5_5) rfl k₀) ?_
      show GoOn p e below _ (T4.setTop (mkF m 6 #[.val (.ref a), .val (.int row), .val (.int q)] [(.int q), (.int row), (.ref ra)]))
      obtain ⟨_, T5, L5, X5, hQ5, st5⟩ := kCallS X4 hx hZ (argsL := [(.int q)]) (rest := [(.int row), (.ref ra)]) (c_wc l Z a0 hw q h0) hown (hw _ (List.mem_of_getElem? (i := 33) rfl)) (hw _ (List.mem_of_getElem? (i := 34) rfl)) (hw _ (List.mem_of_getElem? (i := 35) rfl)) (hw _ (List.mem_of_getElem? (i := 36) rfl)) (by decide) e4 (g := (mkF m 6 #[.val (.ref a), .val (.int row), .val (.int q)] [(.int q), (.int row), (.ref ra)])) rfl (by rw [hml]; rfl) (lenOf pd_0 rfl) rfl (W := 2) (by show 2 * 0 + _ ≤ _; exact Nat.le_of_eq rfl) (hb hby d5_6) (by decide) (by decide) (by decide) (by decide)
      obtain ⟨rfl, rfl, e5⟩ := hQ5
      rw [List.append_nil] at X5
      refine GoOn.step st5 ?_
      show GoOn p e below _ (T5.setTop (mkF m 9 #[.val (.ref a), .val (.int row), .val (.int q)] [(.int (wcV q)), (.int row), (.ref ra)]))
      have wq := wc_ok q hq
      obtain ⟨T6, h6, k6, X6, e6, E6, A6, B6, st6⟩ := newPE X5 hx hZ (hw _ (List.mem_of_getElem? (i := 0) rfl)) e5 (g := (mkF m 9 #[.val (.ref a), .val (.int row), .val (.int q)] [(.int (wcV q)), (.int row), (.ref ra)])) rfl (hb hby d5_9) rfl (not_neg wq.1) (cap := 16) (clamp_le wq) (by decide) (by decide) (by decide) (ad := "[J") (by decide)
      obtain ⟨b, g6⟩ : ∃ z, z = h0.size := ⟨_, rfl⟩
      rw [← g6] at A6 B6 st6
      have lt_a_b : a < b := by rw [g6]; exact Ex.lt
      have ne_a_b : a ≠ b := Nat.ne_of_lt lt_a_b
      have lt_ra_b : ra < b := by rw [g6]; exact Jr.lt
      have ne_ra_b : ra ≠ b := Nat.ne_of_lt lt_ra_b
      have le_b : n0 ≤ b := by rw [g6]; exact Z0
      have sz_b : h0.size ≤ b := by rw [g6]; exact K0.1
      replace Ex := Ex.ext E6
      replace Fr_ := Fr_.ext E6
      replace Fl_ := Fl_.ext E6
      replace Fu_ := Fu_.ext E6
      replace Jr := Jr.ext E6
      replace Z0 := Nat.le_trans Z0 E6.1
      replace K0 := K0.ext E6
      have J_b : Jar Z h6 b .long (wcV q).toNatClampNeg (fun _ => defaultValue .long) := Jar.new A6 rfl
      have Ex_b : Exa Z h6 b "[J" := B6
      refine GoOn.step st6 ?_
      show GoOn p e below _ (T6.setTop (mkF m 11 #[.val (.ref a), .val (.int row), .val (.int q)] [(.ref b), (.int row), (.ref ra)]))
      obtain ⟨T7, h7, X7, e7, W7, st7⟩ := kStR X6 hx hZ e6 Jr (j := row) hrow (Ins.self Ex_b) (g := (mkF m 11 #[.val (.ref a), .val (.int row), .val (.int q)] [(.ref b), (.int row), (.ref ra)])) rfl rfl (hb hby d5_11)
      replace N0 := Fr.snoc X7 N0 (Nat.le_trans ga gr)
      replace Ex := Ex.wr W7
      replace Fr_ := Fr_.other W7 (Or.inl ne_a_ra)
      replace Fl_ := Fl_.other W7 (Or.inl ne_a_ra)
      replace Fu_ := Fu_.other W7 (Or.inl ne_a_ra)
      replace Jr := Jr.set W7
      replace J_b := J_b.other W7 (Ne.symm ne_ra_b)
      replace Ex_b := Ex_b.wr W7
      replace Z0 := Nat.le_trans Z0 (Nat.le_of_eq W7.size.symm)
      replace K0 := K0.wr W7 (Or.inl (by simp))
      refine GoOn.step st7 ?_
      show GoOn p e below _ (T7.setTop (mkF m 12 #[.val (.ref a), .val (.int row), .val (.int q)] []))
      exact GoOn.ret0 X7 hx hrt hlk (hb hby d5_12) (by decide) (by decide) (by first | exact ⟨rfl, N0, (Low.of K0 (allS (Nat.le_refl a) (allS gr all0))), ra, _, _, _, _, _, Ex, Fr_, Fl_, Fu_, Jr, (Or.inl rfl), (Or.inl rfl), gr, (isr_set ir), il, iu, (has_r HP _ b)⟩ | (rw [e7]; exact ⟨rfl, N0, (Low.of K0 (allS (Nat.le_refl a) (allS gr all0))), ra, _, _, _, _, _, Ex, Fr_, Fl_, Fu_, Jr, (Or.inl rfl), (Or.inl rfl), gr, (isr_set ir), il, iu, (has_r HP _ b)⟩))
    · subst hl hu
      have ne_a_ua : a ≠ ua := ne_arr Ex (hw _ (List.mem_of_getElem? (i := 3) rfl)) Ju.choose_spec.choose_spec.1
      have K0 : Keep h0 h0 [a, ra, ua] := Keep.refl _ _
      refine GoOn.step (fun t₀ k₀ => XS.aloadN X0.here hx rfl (hb hby d5_0) rfl rfl k₀) ?_
      show GoOn p e below _ (s₁.setTop (mkF m 1 #[.val (.ref a), .val (.int row), .val (.int q)] [(.ref a)]))
      obtain ⟨T8, X8, e8, st8⟩ := getF X0 hx hZ hown (host := "") (Or.inl (hw _ (List.mem_of_getElem? (i := 13) rfl))) Via.refl e0 Fr_ (g := (mkF m 1 #[.val (.ref a), .val (.int row), .val (.int q)] [(.ref a)])) rfl rfl (hb hby d5_1)
      refine GoOn.step st8 ?_
      show GoOn p e below _ (T8.setTop (mkF m 4 #[.val (.ref a), .val (.int row), .val (.int q)] [(.ref ra)]))
      refine GoOn.step (fun t₀ k₀ => XS.iloadN X8.here hx rfl (hb hby d5_4) rfl k₀) ?_
      show GoOn p e below _ (T8.setTop (mkF m 5 #[.val (.ref a), .val (.int row), .val (.int q)] [(.int row), (.ref ra)]))
      refine GoOn.step (fun t₀ k₀ => XS.iloadN X8.here hx rfl (hb hby d5_5) rfl k₀) ?_
      show GoOn p e below _ (T8.setTop (mkF m 6 #[.val (.ref a), .val (.int row), .val (.int q)] [(.int q), (.int row), (.ref ra)]))
      obtain ⟨_, T9, L9, X9, hQ9, st9⟩ := kCallS X8 hx hZ (argsL := [(.int q)]) (rest := [(.int row), (.ref ra)]) (c_wc l Z a0 hw q h0) hown (hw _ (List.mem_of_getElem? (i := 33) rfl)) (hw _ (List.mem_of_getElem? (i := 34) rfl)) (hw _ (List.mem_of_getElem? (i := 35) rfl)) (hw _ (List.mem_of_getElem? (i := 36) rfl)) (by decide) e8 (g := (mkF m 6 #[.val (.ref a), .val (.int row), .val (.int q)] [(.int q), (.int row), (.ref ra)])) rfl (by rw [hml]; rfl) (lenOf pd_0 rfl) rfl (W := 2) (by show 2 * 0 + _ ≤ _; exact Nat.le_of_eq rfl) (hb hby d5_6) (by decide) (by decide) (by decide) (by decide)
      obtain ⟨rfl, rfl, e9⟩ := hQ9
      rw [List.append_nil] at X9
      refine GoOn.step st9 ?_
      show GoOn p e below _ (T9.setTop (mkF m 9 #[.val (.ref a), .val (.int row), .val (.int q)] [(.int (wcV q)), (.int row), (.ref ra)]))
      have wq := wc_ok q hq
      obtain ⟨T10, h10, k10, X10, e10, E10, A10, B10, st10⟩ := newPE X9 hx hZ (hw _ (List.mem_of_getElem? (i := 0) rfl)) e9 (g := (mkF m 9 #[.val (.ref a), .val (.int row), .val (.int q)] [(.int (wcV q)), (.int row), (.ref ra)])) rfl (hb hby d5_9) rfl (not_neg wq.1) (cap := 16) (clamp_le wq) (by decide) (by decide) (by decide) (ad := "[J") (by decide)
      obtain ⟨b, g10⟩ : ∃ z, z = h0.size := ⟨_, rfl⟩
      rw [← g10] at A10 B10 st10
      have lt_a_b : a < b := by rw [g10]; exact Ex.lt
      have ne_a_b : a ≠ b := Nat.ne_of_lt lt_a_b
      have lt_ra_b : ra < b := by rw [g10]; exact Jr.lt
      have ne_ra_b : ra ≠ b := Nat.ne_of_lt lt_ra_b
      have lt_ua_b : ua < b := by rw [g10]; exact Ju.lt
      have ne_ua_b : ua ≠ b := Nat.ne_of_lt lt_ua_b
      have le_b : n0 ≤ b := by rw [g10]; exact Z0
      have sz_b : h0.size ≤ b := by rw [g10]; exact K0.1
      replace Ex := Ex.ext E10
      replace Fr_ := Fr_.ext E10
      replace Fl_ := Fl_.ext E10
      replace Fu_ := Fu_.ext E10
      replace Jr := Jr.ext E10
      replace Ju := Ju.ext E10
      replace Z0 := Nat.le_trans Z0 E10.1
      replace K0 := K0.ext E10
      have J_b : Jar Z h10 b .long (wcV q).toNatClampNeg (fun _ => defaultValue .long) := Jar.new A10 rfl
      have Ex_b : Exa Z h10 b "[J" := B10
      refine GoOn.step st10 ?_
      show GoOn p e below _ (T10.setTop (mkF m 11 #[.val (.ref a), .val (.int row), .val (.int q)] [(.ref b), (.int row), (.ref ra)]))
      obtain ⟨T11, h11, X11, e11, W11, st11⟩ := kStR X10 hx hZ e10 Jr (j := row) hrow (Ins.self Ex_b) (g := (mkF m 11 #[.val (.ref a), .val (.int row), .val (.int q)] [(.ref b), (.int row), (.ref ra)])) rfl rfl (hb hby d5_11)
      replace N0 := Fr.snoc X11 N0 (Nat.le_trans ga gr)
      replace Ex := Ex.wr W11
      replace Fr_ := Fr_.other W11 (Or.inl ne_a_ra)
      replace Fl_ := Fl_.other W11 (Or.inl ne_a_ra)
      replace Fu_ := Fu_.other W11 (Or.inl ne_a_ra)
      replace Jr := Jr.set W11
      replace Ju := Ju.other W11 (Ne.symm nu)
      replace J_b := J_b.other W11 (Ne.symm ne_ra_b)
      replace Ex_b := Ex_b.wr W11
      replace Z0 := Nat.le_trans Z0 (Nat.le_of_eq W11.size.symm)
      replace K0 := K0.wr W11 (Or.inl (by simp))
      refine GoOn.step st11 ?_
      show GoOn p e below _ (T11.setTop (mkF m 12 #[.val (.ref a), .val (.int row), .val (.int q)] []))
      exact GoOn.ret0 X11 hx hrt hlk (hb hby d5_12) (by decide) (by decide) (by first | exact ⟨rfl, N0, (Low.of K0 (allS (Nat.le_refl a) (allS gr (allS gu all0)))), ra, _, _, _, _, _, Ex, Fr_, Fl_, Fu_, Jr, (Or.inl rfl), (Or.inr ⟨ua, rfl, Ju, gu, nu, (by simp)⟩), gr, (isr_set ir), il, iu, (has_r HP _ b)⟩ | (rw [e11]; exact ⟨rfl, N0, (Low.of K0 (allS (Nat.le_refl a) (allS gr (allS gu all0)))), ra, _, _, _, _, _, Ex, Fr_, Fl_, Fu_, Jr, (Or.inl rfl), (Or.inr ⟨ua, rfl, Ju, gu, nu, (by simp)⟩), gr, (isr_set ir), il, iu, (has_r HP _ b)⟩))
  · rcases OU with hu | ⟨ua, hu, Ju, gu, nu, nlu⟩
    · subst hl hu
      have ne_a_la : a ≠ la := ne_arr Ex (hw _ (List.mem_of_getElem? (i := 3) rfl)) Jl.choose_spec.choose_spec.1
      have K0 : Keep h0 h0 [a, ra, la] := Keep.refl _ _
      refine GoOn.step (fun t₀ k₀ => XS.aloadN X0.here hx rfl (hb hby d5_0) rfl rfl k₀) ?_
      show GoOn p e below _ (s₁.setTop (mkF m 1 #[.val (.ref a), .val (.int row), .val (.int q)] [(.ref a)]))
      obtain ⟨T12, X12, e12, st12⟩ := getF X0 hx hZ hown (host := "") (Or.inl (hw _ (List.mem_of_getElem? (i := 13) rfl))) Via.refl e0 Fr_ (g := (mkF m 1 #[.val (.ref a), .val (.int row), .val (.int q)] [(.ref a)])) rfl rfl (hb hby d5_1)
      refine GoOn.step st12 ?_
      show GoOn p e below _ (T12.setTop (mkF m 4 #[.val (.ref a), .val (.int row), .val (.int q)] [(.ref ra)]))
      refine GoOn.step (fun t₀ k₀ => XS.iloadN X12.here hx rfl (hb hby d5_4) rfl k₀) ?_
      show GoOn p e below _ (T12.setTop (mkF m 5 #[.val (.ref a), .val (.int row), .val (.int q)] [(.int row), (.ref ra)]))
      refine GoOn.step (fun t₀ k₀ => XS.iloadN X12.here hx rfl (hb hby d5_5) rfl k₀) ?_
      show GoOn p e below _ (T12.setTop (mkF m 6 #[.val (.ref a), .val (.int row), .val (.int q)] [(.int q), (.int row), (.ref ra)]))
      obtain ⟨_, T13, L13, X13, hQ13, st13⟩ := kCallS X12 hx hZ (argsL := [(.int q)]) (rest := [(.int row), (.ref ra)]) (c_wc l Z a0 hw q h0) hown (hw _ (List.mem_of_getElem? (i := 33) rfl)) (hw _ (List.mem_of_getElem? (i := 34) rfl)) (hw _ (List.mem_of_getElem? (i := 35) rfl)) (hw _ (List.mem_of_getElem? (i := 36) rfl)) (by decide) e12 (g := (mkF m 6 #[.val (.ref a), .val (.int row), .val (.int q)] [(.int q), (.int row), (.ref ra)])) rfl (by rw [hml]; rfl) (lenOf pd_0 rfl) rfl (W := 2) (by show 2 * 0 + _ ≤ _; exact Nat.le_of_eq rfl) (hb hby d5_6) (by decide) (by decide) (by decide) (by decide)
      obtain ⟨rfl, rfl, e13⟩ := hQ13
      rw [List.append_nil] at X13
      refine GoOn.step st13 ?_
      show GoOn p e below _ (T13.setTop (mkF m 9 #[.val (.ref a), .val (.int row), .val (.int q)] [(.int (wcV q)), (.int row), (.ref ra)]))
      have wq := wc_ok q hq
      obtain ⟨T14, h14, k14, X14, e14, E14, A14, B14, st14⟩ := newPE X13 hx hZ (hw _ (List.mem_of_getElem? (i := 0) rfl)) e13 (g := (mkF m 9 #[.val (.ref a), .val (.int row), .val (.int q)] [(.int (wcV q)), (.int row), (.ref ra)])) rfl (hb hby d5_9) rfl (not_neg wq.1) (cap := 16) (clamp_le wq) (by decide) (by decide) (by decide) (ad := "[J") (by decide)
      obtain ⟨b, g14⟩ : ∃ z, z = h0.size := ⟨_, rfl⟩
      rw [← g14] at A14 B14 st14
      have lt_a_b : a < b := by rw [g14]; exact Ex.lt
      have ne_a_b : a ≠ b := Nat.ne_of_lt lt_a_b
      have lt_ra_b : ra < b := by rw [g14]; exact Jr.lt
      have ne_ra_b : ra ≠ b := Nat.ne_of_lt lt_ra_b
      have lt_la_b : la < b := by rw [g14]; exact Jl.lt
      have ne_la_b : la ≠ b := Nat.ne_of_lt lt_la_b
      have le_b : n0 ≤ b := by rw [g14]; exact Z0
      have sz_b : h0.size ≤ b := by rw [g14]; exact K0.1
      replace Ex := Ex.ext E14
      replace Fr_ := Fr_.ext E14
      replace Fl_ := Fl_.ext E14
      replace Fu_ := Fu_.ext E14
      replace Jr := Jr.ext E14
      replace Jl := Jl.ext E14
      replace Z0 := Nat.le_trans Z0 E14.1
      replace K0 := K0.ext E14
      have J_b : Jar Z h14 b .long (wcV q).toNatClampNeg (fun _ => defaultValue .long) := Jar.new A14 rfl
      have Ex_b : Exa Z h14 b "[J" := B14
      refine GoOn.step st14 ?_
      show GoOn p e below _ (T14.setTop (mkF m 11 #[.val (.ref a), .val (.int row), .val (.int q)] [(.ref b), (.int row), (.ref ra)]))
      obtain ⟨T15, h15, X15, e15, W15, st15⟩ := kStR X14 hx hZ e14 Jr (j := row) hrow (Ins.self Ex_b) (g := (mkF m 11 #[.val (.ref a), .val (.int row), .val (.int q)] [(.ref b), (.int row), (.ref ra)])) rfl rfl (hb hby d5_11)
      replace N0 := Fr.snoc X15 N0 (Nat.le_trans ga gr)
      replace Ex := Ex.wr W15
      replace Fr_ := Fr_.other W15 (Or.inl ne_a_ra)
      replace Fl_ := Fl_.other W15 (Or.inl ne_a_ra)
      replace Fu_ := Fu_.other W15 (Or.inl ne_a_ra)
      replace Jr := Jr.set W15
      replace Jl := Jl.other W15 (Ne.symm nl)
      replace J_b := J_b.other W15 (Ne.symm ne_ra_b)
      replace Ex_b := Ex_b.wr W15
      replace Z0 := Nat.le_trans Z0 (Nat.le_of_eq W15.size.symm)
      replace K0 := K0.wr W15 (Or.inl (by simp))
      refine GoOn.step st15 ?_
      show GoOn p e below _ (T15.setTop (mkF m 12 #[.val (.ref a), .val (.int row), .val (.int q)] []))
      exact GoOn.ret0 X15 hx hrt hlk (hb hby d5_12) (by decide) (by decide) (by first | exact ⟨rfl, N0, (Low.of K0 (allS (Nat.le_refl a) (allS gr (allS gl all0)))), ra, _, _, _, _, _, Ex, Fr_, Fl_, Fu_, Jr, (Or.inr ⟨la, rfl, Jl, gl, nl⟩), (Or.inl rfl), gr, (isr_set ir), il, iu, (has_r HP _ b)⟩ | (rw [e15]; exact ⟨rfl, N0, (Low.of K0 (allS (Nat.le_refl a) (allS gr (allS gl all0)))), ra, _, _, _, _, _, Ex, Fr_, Fl_, Fu_, Jr, (Or.inr ⟨la, rfl, Jl, gl, nl⟩), (Or.inl rfl), gr, (isr_set ir), il, iu, (has_r HP _ b)⟩))
    · subst hl hu
      have ne_a_la : a ≠ la := ne_arr Ex (hw _ (List.mem_of_getElem? (i := 3) rfl)) Jl.choose_spec.choose_spec.1
      have ne_a_ua : a ≠ ua := ne_arr Ex (hw _ (List.mem_of_getElem? (i := 3) rfl)) Ju.choose_spec.choose_spec.1
      have ne_la_ua : la ≠ ua := fun q => nlu (congrArg Value.ref q)
      have K0 : Keep h0 h0 [a, ra, la, ua] := Keep.refl _ _
      refine GoOn.step (fun t₀ k₀ => XS.aloadN X0.here hx rfl (hb hby d5_0) rfl rfl k₀) ?_
      show GoOn p e below _ (s₁.setTop (mkF m 1 #[.val (.ref a), .val (.int row), .val (.int q)] [(.ref a)]))
      obtain ⟨T16, X16, e16, st16⟩ := getF X0 hx hZ hown (host := "") (Or.inl (hw _ (List.mem_of_getElem? (i := 13) rfl))) Via.refl e0 Fr_ (g := (mkF m 1 #[.val (.ref a), .val (.int row), .val (.int q)] [(.ref a)])) rfl rfl (hb hby d5_1)
      refine GoOn.step st16 ?_
      show GoOn p e below _ (T16.setTop (mkF m 4 #[.val (.ref a), .val (.int row), .val (.int q)] [(.ref ra)]))
      refine GoOn.step (fun t₀ k₀ => XS.iloadN X16.here hx rfl (hb hby d5_4) rfl k₀) ?_
      show GoOn p e below _ (T16.setTop (mkF m 5 #[.val (.ref a), .val (.int row), .val (.int q)] [(.int row), (.ref ra)]))
      refine GoOn.step (fun t₀ k₀ => XS.iloadN X16.here hx rfl (hb hby d5_5) rfl k₀) ?_
      show GoOn p e below _ (T16.setTop (mkF m 6 #[.val (.ref a), .val (.int row), .val (.int q)] [(.int q), (.int row), (.ref ra)]))
      obtain ⟨_, T17, L17, X17, hQ17, st17⟩ := kCallS X16 hx hZ (argsL := [(.int q)]) (rest := [(.int row), (.ref ra)]) (c_wc l Z a0 hw q h0) hown (hw _ (List.mem_of_getElem? (i := 33) rfl)) (hw _ (List.mem_of_getElem? (i := 34) rfl)) (hw _ (List.mem_of_getElem? (i := 35) rfl)) (hw _ (List.mem_of_getElem? (i := 36) rfl)) (by decide) e16 (g := (mkF m 6 #[.val (.ref a), .val (.int row), .val (.int q)] [(.int q), (.int row), (.ref ra)])) rfl (by rw [hml]; rfl) (lenOf pd_0 rfl) rfl (W := 2) (by show 2 * 0 + _ ≤ _; exact Nat.le_of_eq rfl) (hb hby d5_6) (by decide) (by decide) (by decide) (by decide)
      obtain ⟨rfl, rfl, e17⟩ := hQ17
      rw [List.append_nil] at X17
      refine GoOn.step st17 ?_
      show GoOn p e below _ (T17.setTop (mkF m 9 #[.val (.ref a), .val (.int row), .val (.int q)] [(.int (wcV q)), (.int row), (.ref ra)]))
      have wq := wc_ok q hq
      obtain ⟨T18, h18, k18, X18, e18, E18, A18, B18, st18⟩ := newPE X17 hx hZ (hw _ (List.mem_of_getElem? (i := 0) rfl)) e17 (g := (mkF m 9 #[.val (.ref a), .val (.int row), .val (.int q)] [(.int (wcV q)), (.int row), (.ref ra)])) rfl (hb hby d5_9) rfl (not_neg wq.1) (cap := 16) (clamp_le wq) (by decide) (by decide) (by decide) (ad := "[J") (by decide)
      obtain ⟨b, g18⟩ : ∃ z, z = h0.size := ⟨_, rfl⟩
      rw [← g18] at A18 B18 st18
      have lt_a_b : a < b := by rw [g18]; exact Ex.lt
      have ne_a_b : a ≠ b := Nat.ne_of_lt lt_a_b
      have lt_ra_b : ra < b := by rw [g18]; exact Jr.lt
      have ne_ra_b : ra ≠ b := Nat.ne_of_lt lt_ra_b
      have lt_la_b : la < b := by rw [g18]; exact Jl.lt
      have ne_la_b : la ≠ b := Nat.ne_of_lt lt_la_b
      have lt_ua_b : ua < b := by rw [g18]; exact Ju.lt
      have ne_ua_b : ua ≠ b := Nat.ne_of_lt lt_ua_b
      have le_b : n0 ≤ b := by rw [g18]; exact Z0
      have sz_b : h0.size ≤ b := by rw [g18]; exact K0.1
      replace Ex := Ex.ext E18
      replace Fr_ := Fr_.ext E18
      replace Fl_ := Fl_.ext E18
      replace Fu_ := Fu_.ext E18
      replace Jr := Jr.ext E18
      replace Jl := Jl.ext E18
      replace Ju := Ju.ext E18
      replace Z0 := Nat.le_trans Z0 E18.1
      replace K0 := K0.ext E18
      have J_b : Jar Z h18 b .long (wcV q).toNatClampNeg (fun _ => defaultValue .long) := Jar.new A18 rfl
      have Ex_b : Exa Z h18 b "[J" := B18
      refine GoOn.step st18 ?_
      show GoOn p e below _ (T18.setTop (mkF m 11 #[.val (.ref a), .val (.int row), .val (.int q)] [(.ref b), (.int row), (.ref ra)]))
      obtain ⟨T19, h19, X19, e19, W19, st19⟩ := kStR X18 hx hZ e18 Jr (j := row) hrow (Ins.self Ex_b) (g := (mkF m 11 #[.val (.ref a), .val (.int row), .val (.int q)] [(.ref b), (.int row), (.ref ra)])) rfl rfl (hb hby d5_11)
      replace N0 := Fr.snoc X19 N0 (Nat.le_trans ga gr)
      replace Ex := Ex.wr W19
      replace Fr_ := Fr_.other W19 (Or.inl ne_a_ra)
      replace Fl_ := Fl_.other W19 (Or.inl ne_a_ra)
      replace Fu_ := Fu_.other W19 (Or.inl ne_a_ra)
      replace Jr := Jr.set W19
      replace Jl := Jl.other W19 (Ne.symm nl)
      replace Ju := Ju.other W19 (Ne.symm nu)
      replace J_b := J_b.other W19 (Ne.symm ne_ra_b)
      replace Ex_b := Ex_b.wr W19
      replace Z0 := Nat.le_trans Z0 (Nat.le_of_eq W19.size.symm)
      replace K0 := K0.wr W19 (Or.inl (by simp))
      refine GoOn.step st19 ?_
      show GoOn p e below _ (T19.setTop (mkF m 12 #[.val (.ref a), .val (.int row), .val (.int q)] []))
      exact GoOn.ret0 X19 hx hrt hlk (hb hby d5_12) (by decide) (by decide) (by first | exact ⟨rfl, N0, (Low.of K0 (allS (Nat.le_refl a) (allS gr (allS gl (allS gu all0))))), ra, _, _, _, _, _, Ex, Fr_, Fl_, Fu_, Jr, (Or.inr ⟨la, rfl, Jl, gl, nl⟩), (Or.inr ⟨ua, rfl, Ju, gu, nu, nlu⟩), gr, (isr_set ir), il, iu, (has_r HP _ b)⟩ | (rw [e19]; exact ⟨rfl, N0, (Low.of K0 (allS (Nat.le_refl a) (allS gr (allS gl (allS gu all0))))), ra, _, _, _, _, _, Ex, Fr_, Fl_, Fu_, Jr, (Or.inr ⟨la, rfl, Jl, gl, nl⟩), (Or.inr ⟨ua, rfl, Ju, gu, nu, nlu⟩), gr, (isr_set ir), il, iu, (has_r HP _ b)⟩))
theorem ef_c_list (m : MethodId) (x0 : Addr) (x1 : Int32) (x2 : Int32) : entryFrame m #[(.ref x0), (.int x1), (.int x2)] 3 = mkF m 0 #[.val (.ref x0), .val (.int x1), .val (.int x2)] [] := by first | (simp [entryFrame, mkF, argsToLocals, Value.category]; done) | rfl
set_option maxRecDepth 65536 in
set_option maxHeartbeats 40000000 in
theorem c_list (l : Launch) (Z : State) (a0 : Array Value) (hw : ∀ d ∈ tables_1, d.before a0 Z = true) (a : Addr) (row q : Int32) (P : Nat → Prop) (h0 : Heap) (n0 : Nat) (Z0 : n0 ≤ h0.size) (CS : CBs Z h0 a P) (ga : n0 ≤ a) (hrow : 0 ≤ row.toInt ∧ row.toInt < (3 : Nat)) (hq : 0 ≤ q.toInt ∧ q.toInt ≤ (8 : Nat)) :
    Con l Z (⟨"com/example/treesack/treesack/core/ChoiceBits", "newListedRow", "(II)[J"⟩ : MethodName) prog_24_method_4_code 3 (some (.array .long)) ({ frames := 0, cells := 2, slots := 11, locals := 0 } : Room) #[(.ref a), (.int row), (.int q)] h0 (MkQ Z a (fun i => P i ∨ i = row.toNatClampNeg) h0 n0 (fun v => ∃ y : Addr, v = some (.ref y))) := by
  refine Con.intro (plainFor_of_name pn_0) ?_
  intro p e s m below meth c s₁ hx hby hml hrt hlk hZ hown hnm X0 e0
  replace hown : s.vm.findClass "com/example/treesack/treesack/core/ChoiceBits" = some m.cls := hown
  have N0 := Fr.nil n0
  refine GoOn.cast (ef_c_list m a row q) ?_
  show GoOn p e below _ (s₁.setTop (mkF m 0 #[.val (.ref a), .val (.int row), .val (.int q)] []))
  have Ex0 : a < h0.size := by obtain ⟨_, _, _, _, _, _, E, -⟩ := CS; exact E.lt
  obtain ⟨ra, fr, fl, fu, lv, uv, Ex, Fr_, Fl_, Fu_, Jr, OL, OU, gr, ir, il, iu, HP⟩ := CS
  have ne_a_ra : a ≠ ra := ne_arr Ex (hw _ (List.mem_of_getElem? (i := 3) rfl)) Jr.choose_spec.choose_spec.1
  rcases OL with hl | ⟨la, hl, Jl, gl, nl⟩
  · rcases OU with hu | ⟨ua, hu, Ju, gu, nu, nlu⟩
    · subst hl hu
      have K0 : Keep h0 h0 [a, ra] := Keep.refl _ _
      refine GoOn.step (fun t₀ k₀ => XS.aloadN X0.here hx rfl (hb hby d7_0) rfl rfl k₀) ?_
      show GoOn p e below _ (s₁.setTop (mkF m 1 #[.val (.ref a), .val (.int row), .val (.int q)] [(.ref a)]))
      obtain ⟨T20, X20, e20, st20⟩ := getF X0 hx hZ hown (host := "") (Or.inl (hw _ (List.mem_of_getElem? (i := 24) rfl))) Via.refl e0 Fl_ (g := (mkF m 1 #[.val (.ref a), .val (.int row), .val (.int q)] [(.ref a)])) rfl rfl (hb hby d7_1)
      refine GoOn.step st20 ?_
      show GoOn p e below _ (T20.setTop (mkF m 4 #[.val (.ref a), .val (.int row), .val (.int q)] [.null]))
      refine GoOn.step (fun t₀ k₀ => XS.ifnonnullNo X20.here hx rfl (hb hby d7_4) rfl k₀) ?_
      show GoOn p e below _ (T20.setTop (mkF m 7 #[.val (.ref a), .val (.int row), .val (.int q)] []))
      refine GoOn.step (fun t₀ k₀ => XS.aloadN X20.here hx rfl (hb hby d7_7) rfl rfl k₀) ?_
      show GoOn p e below _ (T20.setTop (mkF m 8 #[.val (.ref a), .val (.int row), .val (.int q)] [(.ref a)]))
      refine GoOn.step (fun t₀ k₀ => XS.aloadN X20.here hx rfl (hb hby d7_8) rfl rfl k₀) ?_
      show GoOn p e below _ (T20.setTop (mkF m 9 #[.val (.ref a), .val (.int row), .val (.int q)] [(.ref a), (.ref a)]))
      obtain ⟨T21, X21, e21, st21⟩ := getF X20 hx hZ hown (host := "") (Or.inl (hw _ (List.mem_of_getElem? (i := 13) rfl))) Via.refl e20 Fr_ (g := (mkF m 9 #[.val (.ref a), .val (.int row), .val (.int q)] [(.ref a), (.ref a)])) rfl rfl (hb hby d7_9)
      refine GoOn.step st21 ?_
      show GoOn p e below _ (T21.setTop (mkF m 12 #[.val (.ref a), .val (.int row), .val (.int q)] [(.ref ra), (.ref a)]))
      refine GoOn.step (fun t₀ k₀ => kLen X21 hx hZ e21 Jr.jar (z := (3 : Int32)) rfl (g := (mkF m 12 #[.val (.ref a), .val (.int row), .val (.int q)] [(.ref ra), (.ref a)])) rfl rfl (hb hby d7_12) t₀ k₀) ?_
      show GoOn p e below _ (T21.setTop (mkF m 13 #[.val (.ref a), .val (.int row), .val (.int q)] [(.int (3 : Int32)), (.ref a)]))
      obtain ⟨T22, h22, k22, X22, e22, E22, A22, B22, O22, st22⟩ := newRA X21 hx hZ hown (ty := .long) (C := "[J") (by decide) (hw _ (List.mem_of_getElem? (i := 11) rfl)) (hw _ (List.mem_of_getElem? (i := 12) rfl)) e21 (g := (mkF m 13 #[.val (.ref a), .val (.int row), .val (.int q)] [(.int (3 : Int32)), (.ref a)])) rfl (hb hby d7_13) rfl (by decide) (cap := 3) (by decide) (by decide) (by decide) (by decide) (ad := "[[J") (by decide)
      obtain ⟨la, g22⟩ : ∃ z, z = h0.size := ⟨_, rfl⟩
      rw [← g22] at A22 st22
      have lt_a_la : a < la := by rw [g22]; exact Ex.lt
      have ne_a_la : a ≠ la := Nat.ne_of_lt lt_a_la
      have lt_ra_la : ra < la := by rw [g22]; exact Jr.lt
      have ne_ra_la : ra ≠ la := Nat.ne_of_lt lt_ra_la
      have le_la : n0 ≤ la := by rw [g22]; exact Z0
      have sz_la : h0.size ≤ la := by rw [g22]; exact K0.1
      replace Ex := Ex.ext E22
      replace Fr_ := Fr_.ext E22
      replace Fl_ := Fl_.ext E22
      replace Fu_ := Fu_.ext E22
      replace Jr := Jr.ext E22
      replace Z0 := Nat.le_trans Z0 E22.1
      replace K0 := K0.ext E22
      have J_la : Jrr Z h22 la 3 (fun _ => .null) := Jrr.new A22 O22 (by decide)
      refine GoOn.step st22 ?_
      show GoOn p e below _ (T22.setTop (mkF m 16 #[.val (.ref a), .val (.int row), .val (.int q)] [(.ref la), (.ref a)]))
      obtain ⟨T23, h23, X23, e23, W23, st23⟩ := putF X22 hx hZ hown (host := "") (Or.inl (hw _ (List.mem_of_getElem? (i := 24) rfl))) Via.refl e22 Fl_ Ex (Or.inl (hw _ (List.mem_of_getElem? (i := 25) rfl))) (hw _ (List.mem_of_getElem? (i := 3) rfl)) (ty := (.array (.array .long))) (by decide) rfl rfl (g := (mkF m 16 #[.val (.ref a), .val (.int row), .val (.int q)] [(.ref la), (.ref a)])) rfl rfl (hb hby d7_16)
      replace N0 := Fr.snoc X23 N0 ga
      replace Ex := Ex.wr W23
      replace Fr_ := Fr_.other W23 (Or.inr (slot_ne (Or.inr (hw _ (List.mem_of_getElem? (i := 14) rfl))) (Or.inl (hw _ (List.mem_of_getElem? (i := 25) rfl))) (by decide) (t := (.array (.array .long))) (t' := (.array (.array .long))) (by decide) (by decide)))
      replace Fl_ := Fld.same W23 Fl_
      replace Fu_ := Fu_.other W23 (Or.inr (slot_ne (Or.inl (hw _ (List.mem_of_getElem? (i := 27) rfl))) (Or.inl (hw _ (List.mem_of_getElem? (i := 25) rfl))) (by decide) (t := (.array (.array .long))) (t' := (.array (.array .long))) (by decide) (by decide)))
      replace Jr := Jr.other W23 (Ne.symm ne_a_ra)
      replace J_la := J_la.other W23 (Ne.symm ne_a_la)
      replace Z0 := Nat.le_trans Z0 (Nat.le_of_eq W23.size.symm)
      replace K0 := K0.wr W23 (Or.inl (by simp))
      refine GoOn.step st23 ?_
      show GoOn p e below _ (T23.setTop (mkF m 19 #[.val (.ref a), .val (.int row), .val (.int q)] []))
      have gl : a ≤ la := Nat.le_of_lt (Nat.lt_of_lt_of_le Ex0 sz_la)
      have il' : ∀ i : Nat, ((fun _ => Value.null : Nat → Value) i).isRef = true := fun _ => rfl
      refine GoOn.step (fun t₀ k₀ => XS.aloadN X23.here hx rfl (hb hby d7_19) rfl rfl k₀) ?_
      show GoOn p e below _ (T23.setTop (mkF m 20 #[.val (.ref a), .val (.int row), .val (.int q)] [(.ref a)]))
      obtain ⟨T24, X24, e24, st24⟩ := getF X23 hx hZ hown (host := "") (Or.inl (hw _ (List.mem_of_getElem? (i := 24) rfl))) Via.refl e23 Fl_ (g := (mkF m 20 #[.val (.ref a), .val (.int row), .val (.int q)] [(.ref a)])) rfl rfl (hb hby d7_20)
      refine GoOn.step st24 ?_
      show GoOn p e below _ (T24.setTop (mkF m 23 #[.val (.ref a), .val (.int row), .val (.int q)] [(.ref la)]))
      refine GoOn.step (fun t₀ k₀ => XS.iloadN X24.here hx rfl (hb hby d7_23) rfl k₀) ?_
      show GoOn p e below _ (T24.setTop (mkF m 24 #[.val (.ref a), .val (.int row), .val (.int q)] [(.int row), (.ref la)]))
      refine GoOn.step (fun t₀ k₀ => XS.iloadN X24.here hx rfl (hb hby d7_24) rfl k₀) ?_
      show GoOn p e below _ (T24.setTop (mkF m 25 #[.val (.ref a), .val (.int row), .val (.int q)] [(.int q), (.int row), (.ref la)]))
      obtain ⟨T25, h25, k25, X25, e25, E25, A25, B25, st25⟩ := newPE X24 hx hZ (hw _ (List.mem_of_getElem? (i := 0) rfl)) e24 (g := (mkF m 25 #[.val (.ref a), .val (.int row), .val (.int q)] [(.int q), (.int row), (.ref la)])) rfl (hb hby d7_25) rfl (not_neg hq.1) (cap := 8) (clamp_le hq) (by decide) (by decide) (by decide) (ad := "[J") (by decide)
      obtain ⟨b, g25⟩ : ∃ z, z = h23.size := ⟨_, rfl⟩
      rw [← g25] at A25 B25 st25
      have lt_a_b : a < b := by rw [g25]; exact Ex.lt
      have ne_a_b : a ≠ b := Nat.ne_of_lt lt_a_b
      have lt_ra_b : ra < b := by rw [g25]; exact Jr.lt
      have ne_ra_b : ra ≠ b := Nat.ne_of_lt lt_ra_b
      have lt_la_b : la < b := by rw [g25]; exact J_la.lt
      have ne_la_b : la ≠ b := Nat.ne_of_lt lt_la_b
      have le_b : n0 ≤ b := by rw [g25]; exact Z0
      have sz_b : h0.size ≤ b := by rw [g25]; exact K0.1
      replace Ex := Ex.ext E25
      replace Fr_ := Fr_.ext E25
      replace Fl_ := Fl_.ext E25
      replace Fu_ := Fu_.ext E25
      replace Jr := Jr.ext E25
      replace J_la := J_la.ext E25
      replace Z0 := Nat.le_trans Z0 E25.1
      replace K0 := K0.ext E25
      have J_b : Jar Z h25 b .long q.toNatClampNeg (fun _ => defaultValue .long) := Jar.new A25 rfl
      have Ex_b : Exa Z h25 b "[J" := B25
      refine GoOn.step st25 ?_
      show GoOn p e below _ (T25.setTop (mkF m 27 #[.val (.ref a), .val (.int row), .val (.int q)] [(.ref b), (.int row), (.ref la)]))
      obtain ⟨T26, h26, X26, e26, W26, st26⟩ := kStR X25 hx hZ e25 J_la (j := row) hrow (Ins.self Ex_b) (g := (mkF m 27 #[.val (.ref a), .val (.int row), .val (.int q)] [(.ref b), (.int row), (.ref la)])) rfl rfl (hb hby d7_27)
      replace N0 := Fr.snoc X26 N0 le_la
      replace Ex := Ex.wr W26
      replace Fr_ := Fr_.other W26 (Or.inl ne_a_la)
      replace Fl_ := Fl_.other W26 (Or.inl ne_a_la)
      replace Fu_ := Fu_.other W26 (Or.inl ne_a_la)
      replace Jr := Jr.other W26 ne_ra_la
      replace J_la := J_la.set W26
      replace J_b := J_b.other W26 (Ne.symm ne_la_b)
      replace Ex_b := Ex_b.wr W26
      replace Z0 := Nat.le_trans Z0 (Nat.le_of_eq W26.size.symm)
      replace K0 := K0.wr W26 (Or.inr sz_la)
      refine GoOn.step st26 ?_
      show GoOn p e below _ (T26.setTop (mkF m 28 #[.val (.ref a), .val (.int row), .val (.int q)] []))
      refine GoOn.step (fun t₀ k₀ => XS.aloadN X26.here hx rfl (hb hby d7_28) rfl rfl k₀) ?_
      show GoOn p e below _ (T26.setTop (mkF m 29 #[.val (.ref a), .val (.int row), .val (.int q)] [(.ref a)]))
      obtain ⟨T27, X27, e27, st27⟩ := getF X26 hx hZ hown (host := "") (Or.inl (hw _ (List.mem_of_getElem? (i := 24) rfl))) Via.refl e26 Fl_ (g := (mkF m 29 #[.val (.ref a), .val (.int row), .val (.int q)] [(.ref a)])) rfl rfl (hb hby d7_29)
      refine GoOn.step st27 ?_
      show GoOn p e below _ (T27.setTop (mkF m 32 #[.val (.ref a), .val (.int row), .val (.int q)] [(.ref la)]))
      refine GoOn.step (fun t₀ k₀ => XS.iloadN X27.here hx rfl (hb hby d7_32) rfl k₀) ?_
      show GoOn p e below _ (T27.setTop (mkF m 33 #[.val (.ref a), .val (.int row), .val (.int q)] [(.int row), (.ref la)]))
      refine GoOn.step (fun t₀ k₀ => kLdA X27 hx hZ e27 J_la.jar rfl (j := row) (v := (.ref b)) hrow (if_pos rfl) (g := (mkF m 33 #[.val (.ref a), .val (.int row), .val (.int q)] [(.int row), (.ref la)])) rfl rfl (hb hby d7_33) t₀ k₀) ?_
      show GoOn p e below _ (T27.setTop (mkF m 34 #[.val (.ref a), .val (.int row), .val (.int q)] [(.ref b)]))
      exact GoOn.retR X27 hx hrt rfl hlk rfl (hb hby d7_34) (by decide) (by decide) (by first | exact ⟨⟨_, rfl⟩, N0, (Low.of K0 (allS (Nat.le_refl a) (allS gr all0))), ra, _, _, _, _, _, Ex, Fr_, Fl_, Fu_, Jr, (Or.inr ⟨la, rfl, J_la, gl, ne_ra_la⟩), (Or.inl rfl), gr, ir, (isr_set il'), iu, (has_l (has_ln la HP) rfl _ b)⟩ | (rw [e27]; exact ⟨⟨_, rfl⟩, N0, (Low.of K0 (allS (Nat.le_refl a) (allS gr all0))), ra, _, _, _, _, _, Ex, Fr_, Fl_, Fu_, Jr, (Or.inr ⟨la, rfl, J_la, gl, ne_ra_la⟩), (Or.inl rfl), gr, ir, (isr_set il'), iu, (has_l (has_ln la HP) rfl _ b)⟩))
    · subst hl hu
      have ne_a_ua : a ≠ ua := ne_arr Ex (hw _ (List.mem_of_getElem? (i := 3) rfl)) Ju.choose_spec.choose_spec.1
      have K0 : Keep h0 h0 [a, ra, ua] := Keep.refl _ _
      refine GoOn.step (fun t₀ k₀ => XS.aloadN X0.here hx rfl (hb hby d7_0) rfl rfl k₀) ?_
      show GoOn p e below _ (s₁.setTop (mkF m 1 #[.val (.ref a), .val (.int row), .val (.int q)] [(.ref a)]))
      obtain ⟨T28, X28, e28, st28⟩ := getF X0 hx hZ hown (host := "") (Or.inl (hw _ (List.mem_of_getElem? (i := 24) rfl))) Via.refl e0 Fl_ (g := (mkF m 1 #[.val (.ref a), .val (.int row), .val (.int q)] [(.ref a)])) rfl rfl (hb hby d7_1)
      refine GoOn.step st28 ?_
      show GoOn p e below _ (T28.setTop (mkF m 4 #[.val (.ref a), .val (.int row), .val (.int q)] [.null]))
      refine GoOn.step (fun t₀ k₀ => XS.ifnonnullNo X28.here hx rfl (hb hby d7_4) rfl k₀) ?_
      show GoOn p e below _ (T28.setTop (mkF m 7 #[.val (.ref a), .val (.int row), .val (.int q)] []))
      refine GoOn.step (fun t₀ k₀ => XS.aloadN X28.here hx rfl (hb hby d7_7) rfl rfl k₀) ?_
      show GoOn p e below _ (T28.setTop (mkF m 8 #[.val (.ref a), .val (.int row), .val (.int q)] [(.ref a)]))
      refine GoOn.step (fun t₀ k₀ => XS.aloadN X28.here hx rfl (hb hby d7_8) rfl rfl k₀) ?_
      show GoOn p e below _ (T28.setTop (mkF m 9 #[.val (.ref a), .val (.int row), .val (.int q)] [(.ref a), (.ref a)]))
      obtain ⟨T29, X29, e29, st29⟩ := getF X28 hx hZ hown (host := "") (Or.inl (hw _ (List.mem_of_getElem? (i := 13) rfl))) Via.refl e28 Fr_ (g := (mkF m 9 #[.val (.ref a), .val (.int row), .val (.int q)] [(.ref a), (.ref a)])) rfl rfl (hb hby d7_9)
      refine GoOn.step st29 ?_
      show GoOn p e below _ (T29.setTop (mkF m 12 #[.val (.ref a), .val (.int row), .val (.int q)] [(.ref ra), (.ref a)]))
      refine GoOn.step (fun t₀ k₀ => kLen X29 hx hZ e29 Jr.jar (z := (3 : Int32)) rfl (g := (mkF m 12 #[.val (.ref a), .val (.int row), .val (.int q)] [(.ref ra), (.ref a)])) rfl rfl (hb hby d7_12) t₀ k₀) ?_
      show GoOn p e below _ (T29.setTop (mkF m 13 #[.val (.ref a), .val (.int row), .val (.int q)] [(.int (3 : Int32)), (.ref a)]))
      obtain ⟨T30, h30, k30, X30, e30, E30, A30, B30, O30, st30⟩ := newRA X29 hx hZ hown (ty := .long) (C := "[J") (by decide) (hw _ (List.mem_of_getElem? (i := 11) rfl)) (hw _ (List.mem_of_getElem? (i := 12) rfl)) e29 (g := (mkF m 13 #[.val (.ref a), .val (.int row), .val (.int q)] [(.int (3 : Int32)), (.ref a)])) rfl (hb hby d7_13) rfl (by decide) (cap := 3) (by decide) (by decide) (by decide) (by decide) (ad := "[[J") (by decide)
      obtain ⟨la, g30⟩ : ∃ z, z = h0.size := ⟨_, rfl⟩
      rw [← g30] at A30 st30
      have lt_a_la : a < la := by rw [g30]; exact Ex.lt
      have ne_a_la : a ≠ la := Nat.ne_of_lt lt_a_la
      have lt_ra_la : ra < la := by rw [g30]; exact Jr.lt
      have ne_ra_la : ra ≠ la := Nat.ne_of_lt lt_ra_la
      have lt_ua_la : ua < la := by rw [g30]; exact Ju.lt
      have ne_ua_la : ua ≠ la := Nat.ne_of_lt lt_ua_la
      have le_la : n0 ≤ la := by rw [g30]; exact Z0
      have sz_la : h0.size ≤ la := by rw [g30]; exact K0.1
      replace Ex := Ex.ext E30
      replace Fr_ := Fr_.ext E30
      replace Fl_ := Fl_.ext E30
      replace Fu_ := Fu_.ext E30
      replace Jr := Jr.ext E30
      replace Ju := Ju.ext E30
      replace Z0 := Nat.le_trans Z0 E30.1
      replace K0 := K0.ext E30
      have J_la : Jrr Z h30 la 3 (fun _ => .null) := Jrr.new A30 O30 (by decide)
      refine GoOn.step st30 ?_
      show GoOn p e below _ (T30.setTop (mkF m 16 #[.val (.ref a), .val (.int row), .val (.int q)] [(.ref la), (.ref a)]))
      obtain ⟨T31, h31, X31, e31, W31, st31⟩ := putF X30 hx hZ hown (host := "") (Or.inl (hw _ (List.mem_of_getElem? (i := 24) rfl))) Via.refl e30 Fl_ Ex (Or.inl (hw _ (List.mem_of_getElem? (i := 25) rfl))) (hw _ (List.mem_of_getElem? (i := 3) rfl)) (ty := (.array (.array .long))) (by decide) rfl rfl (g := (mkF m 16 #[.val (.ref a), .val (.int row), .val (.int q)] [(.ref la), (.ref a)])) rfl rfl (hb hby d7_16)
      replace N0 := Fr.snoc X31 N0 ga
      replace Ex := Ex.wr W31
      replace Fr_ := Fr_.other W31 (Or.inr (slot_ne (Or.inr (hw _ (List.mem_of_getElem? (i := 14) rfl))) (Or.inl (hw _ (List.mem_of_getElem? (i := 25) rfl))) (by decide) (t := (.array (.array .long))) (t' := (.array (.array .long))) (by decide) (by decide)))
      replace Fl_ := Fld.same W31 Fl_
      replace Fu_ := Fu_.other W31 (Or.inr (slot_ne (Or.inl (hw _ (List.mem_of_getElem? (i := 27) rfl))) (Or.inl (hw _ (List.mem_of_getElem? (i := 25) rfl))) (by decide) (t := (.array (.array .long))) (t' := (.array (.array .long))) (by decide) (by decide)))
      replace Jr := Jr.other W31 (Ne.symm ne_a_ra)
      replace Ju := Ju.other W31 (Ne.symm ne_a_ua)
      replace J_la := J_la.other W31 (Ne.symm ne_a_la)
      replace Z0 := Nat.le_trans Z0 (Nat.le_of_eq W31.size.symm)
      replace K0 := K0.wr W31 (Or.inl (by simp))
      refine GoOn.step st31 ?_
      show GoOn p e below _ (T31.setTop (mkF m 19 #[.val (.ref a), .val (.int row), .val (.int q)] []))
      have gl : a ≤ la := Nat.le_of_lt (Nat.lt_of_lt_of_le Ex0 sz_la)
      have il' : ∀ i : Nat, ((fun _ => Value.null : Nat → Value) i).isRef = true := fun _ => rfl
      refine GoOn.step (fun t₀ k₀ => XS.aloadN X31.here hx rfl (hb hby d7_19) rfl rfl k₀) ?_
      show GoOn p e below _ (T31.setTop (mkF m 20 #[.val (.ref a), .val (.int row), .val (.int q)] [(.ref a)]))
      obtain ⟨T32, X32, e32, st32⟩ := getF X31 hx hZ hown (host := "") (Or.inl (hw _ (List.mem_of_getElem? (i := 24) rfl))) Via.refl e31 Fl_ (g := (mkF m 20 #[.val (.ref a), .val (.int row), .val (.int q)] [(.ref a)])) rfl rfl (hb hby d7_20)
      refine GoOn.step st32 ?_
      show GoOn p e below _ (T32.setTop (mkF m 23 #[.val (.ref a), .val (.int row), .val (.int q)] [(.ref la)]))
      refine GoOn.step (fun t₀ k₀ => XS.iloadN X32.here hx rfl (hb hby d7_23) rfl k₀) ?_
      show GoOn p e below _ (T32.setTop (mkF m 24 #[.val (.ref a), .val (.int row), .val (.int q)] [(.int row), (.ref la)]))
      refine GoOn.step (fun t₀ k₀ => XS.iloadN X32.here hx rfl (hb hby d7_24) rfl k₀) ?_
      show GoOn p e below _ (T32.setTop (mkF m 25 #[.val (.ref a), .val (.int row), .val (.int q)] [(.int q), (.int row), (.ref la)]))
      obtain ⟨T33, h33, k33, X33, e33, E33, A33, B33, st33⟩ := newPE X32 hx hZ (hw _ (List.mem_of_getElem? (i := 0) rfl)) e32 (g := (mkF m 25 #[.val (.ref a), .val (.int row), .val (.int q)] [(.int q), (.int row), (.ref la)])) rfl (hb hby d7_25) rfl (not_neg hq.1) (cap := 8) (clamp_le hq) (by decide) (by decide) (by decide) (ad := "[J") (by decide)
      obtain ⟨b, g33⟩ : ∃ z, z = h31.size := ⟨_, rfl⟩
      rw [← g33] at A33 B33 st33
      have lt_a_b : a < b := by rw [g33]; exact Ex.lt
      have ne_a_b : a ≠ b := Nat.ne_of_lt lt_a_b
      have lt_ra_b : ra < b := by rw [g33]; exact Jr.lt
      have ne_ra_b : ra ≠ b := Nat.ne_of_lt lt_ra_b
      have lt_ua_b : ua < b := by rw [g33]; exact Ju.lt
      have ne_ua_b : ua ≠ b := Nat.ne_of_lt lt_ua_b
      have lt_la_b : la < b := by rw [g33]; exact J_la.lt
      have ne_la_b : la ≠ b := Nat.ne_of_lt lt_la_b
      have le_b : n0 ≤ b := by rw [g33]; exact Z0
      have sz_b : h0.size ≤ b := by rw [g33]; exact K0.1
      replace Ex := Ex.ext E33
      replace Fr_ := Fr_.ext E33
      replace Fl_ := Fl_.ext E33
      replace Fu_ := Fu_.ext E33
      replace Jr := Jr.ext E33
      replace Ju := Ju.ext E33
      replace J_la := J_la.ext E33
      replace Z0 := Nat.le_trans Z0 E33.1
      replace K0 := K0.ext E33
      have J_b : Jar Z h33 b .long q.toNatClampNeg (fun _ => defaultValue .long) := Jar.new A33 rfl
      have Ex_b : Exa Z h33 b "[J" := B33
      refine GoOn.step st33 ?_
      show GoOn p e below _ (T33.setTop (mkF m 27 #[.val (.ref a), .val (.int row), .val (.int q)] [(.ref b), (.int row), (.ref la)]))
      obtain ⟨T34, h34, X34, e34, W34, st34⟩ := kStR X33 hx hZ e33 J_la (j := row) hrow (Ins.self Ex_b) (g := (mkF m 27 #[.val (.ref a), .val (.int row), .val (.int q)] [(.ref b), (.int row), (.ref la)])) rfl rfl (hb hby d7_27)
      replace N0 := Fr.snoc X34 N0 le_la
      replace Ex := Ex.wr W34
      replace Fr_ := Fr_.other W34 (Or.inl ne_a_la)
      replace Fl_ := Fl_.other W34 (Or.inl ne_a_la)
      replace Fu_ := Fu_.other W34 (Or.inl ne_a_la)
      replace Jr := Jr.other W34 ne_ra_la
      replace Ju := Ju.other W34 ne_ua_la
      replace J_la := J_la.set W34
      replace J_b := J_b.other W34 (Ne.symm ne_la_b)
      replace Ex_b := Ex_b.wr W34
      replace Z0 := Nat.le_trans Z0 (Nat.le_of_eq W34.size.symm)
      replace K0 := K0.wr W34 (Or.inr sz_la)
      refine GoOn.step st34 ?_
      show GoOn p e below _ (T34.setTop (mkF m 28 #[.val (.ref a), .val (.int row), .val (.int q)] []))
      refine GoOn.step (fun t₀ k₀ => XS.aloadN X34.here hx rfl (hb hby d7_28) rfl rfl k₀) ?_
      show GoOn p e below _ (T34.setTop (mkF m 29 #[.val (.ref a), .val (.int row), .val (.int q)] [(.ref a)]))
      obtain ⟨T35, X35, e35, st35⟩ := getF X34 hx hZ hown (host := "") (Or.inl (hw _ (List.mem_of_getElem? (i := 24) rfl))) Via.refl e34 Fl_ (g := (mkF m 29 #[.val (.ref a), .val (.int row), .val (.int q)] [(.ref a)])) rfl rfl (hb hby d7_29)
      refine GoOn.step st35 ?_
      show GoOn p e below _ (T35.setTop (mkF m 32 #[.val (.ref a), .val (.int row), .val (.int q)] [(.ref la)]))
      refine GoOn.step (fun t₀ k₀ => XS.iloadN X35.here hx rfl (hb hby d7_32) rfl k₀) ?_
      show GoOn p e below _ (T35.setTop (mkF m 33 #[.val (.ref a), .val (.int row), .val (.int q)] [(.int row), (.ref la)]))
      refine GoOn.step (fun t₀ k₀ => kLdA X35 hx hZ e35 J_la.jar rfl (j := row) (v := (.ref b)) hrow (if_pos rfl) (g := (mkF m 33 #[.val (.ref a), .val (.int row), .val (.int q)] [(.int row), (.ref la)])) rfl rfl (hb hby d7_33) t₀ k₀) ?_
      show GoOn p e below _ (T35.setTop (mkF m 34 #[.val (.ref a), .val (.int row), .val (.int q)] [(.ref b)]))
      exact GoOn.retR X35 hx hrt rfl hlk rfl (hb hby d7_34) (by decide) (by decide) (by first | exact ⟨⟨_, rfl⟩, N0, (Low.of K0 (allS (Nat.le_refl a) (allS gr (allS gu all0)))), ra, _, _, _, _, _, Ex, Fr_, Fl_, Fu_, Jr, (Or.inr ⟨la, rfl, J_la, gl, ne_ra_la⟩), (Or.inr ⟨ua, rfl, Ju, gu, nu, (fun q => (Ne.symm ne_ua_la) (Value.ref.inj q))⟩), gr, ir, (isr_set il'), iu, (has_l (has_ln la HP) rfl _ b)⟩ | (rw [e35]; exact ⟨⟨_, rfl⟩, N0, (Low.of K0 (allS (Nat.le_refl a) (allS gr (allS gu all0)))), ra, _, _, _, _, _, Ex, Fr_, Fl_, Fu_, Jr, (Or.inr ⟨la, rfl, J_la, gl, ne_ra_la⟩), (Or.inr ⟨ua, rfl, Ju, gu, nu, (fun q => (Ne.symm ne_ua_la) (Value.ref.inj q))⟩), gr, ir, (isr_set il'), iu, (has_l (has_ln la HP) rfl _ b)⟩))
  · rcases OU with hu | ⟨ua, hu, Ju, gu, nu, nlu⟩
    · subst hl hu
      have ne_a_la : a ≠ la := ne_arr Ex (hw _ (List.mem_of_getElem? (i := 3) rfl)) Jl.choose_spec.choose_spec.1
      have K0 : Keep h0 h0 [a, ra, la] := Keep.refl _ _
      refine GoOn.step (fun t₀ k₀ => XS.aloadN X0.here hx rfl (hb hby d7_0) rfl rfl k₀) ?_
      show GoOn p e below _ (s₁.setTop (mkF m 1 #[.val (.ref a), .val (.int row), .val (.int q)] [(.ref a)]))
      obtain ⟨T36, X36, e36, st36⟩ := getF X0 hx hZ hown (host := "") (Or.inl (hw _ (List.mem_of_getElem? (i := 24) rfl))) Via.refl e0 Fl_ (g := (mkF m 1 #[.val (.ref a), .val (.int row), .val (.int q)] [(.ref a)])) rfl rfl (hb hby d7_1)
      refine GoOn.step st36 ?_
      show GoOn p e below _ (T36.setTop (mkF m 4 #[.val (.ref a), .val (.int row), .val (.int q)] [(.ref la)]))
      refine GoOn.step (fun t₀ k₀ => XS.ifnonnullYes X36.here hx rfl (pc0 := 4) (pc' := 19) rfl (hb hby d7_4) rfl (by decide) (by decide) k₀) ?_
      show GoOn p e below _ (T36.setTop (mkF m 19 #[.val (.ref a), .val (.int row), .val (.int q)] []))
      refine GoOn.step (fun t₀ k₀ => XS.aloadN X36.here hx rfl (hb hby d7_19) rfl rfl k₀) ?_
      show GoOn p e below _ (T36.setTop (mkF m 20 #[.val (.ref a), .val (.int row), .val (.int q)] [(.ref a)]))
      obtain ⟨T37, X37, e37, st37⟩ := getF X36 hx hZ hown (host := "") (Or.inl (hw _ (List.mem_of_getElem? (i := 24) rfl))) Via.refl e36 Fl_ (g := (mkF m 20 #[.val (.ref a), .val (.int row), .val (.int q)] [(.ref a)])) rfl rfl (hb hby d7_20)
      refine GoOn.step st37 ?_
      show GoOn p e below _ (T37.setTop (mkF m 23 #[.val (.ref a), .val (.int row), .val (.int q)] [(.ref la)]))
      refine GoOn.step (fun t₀ k₀ => XS.iloadN X37.here hx rfl (hb hby d7_23) rfl k₀) ?_
      show GoOn p e below _ (T37.setTop (mkF m 24 #[.val (.ref a), .val (.int row), .val (.int q)] [(.int row), (.ref la)]))
      refine GoOn.step (fun t₀ k₀ => XS.iloadN X37.here hx rfl (hb hby d7_24) rfl k₀) ?_
      show GoOn p e below _ (T37.setTop (mkF m 25 #[.val (.ref a), .val (.int row), .val (.int q)] [(.int q), (.int row), (.ref la)]))
      obtain ⟨T38, h38, k38, X38, e38, E38, A38, B38, st38⟩ := newPE X37 hx hZ (hw _ (List.mem_of_getElem? (i := 0) rfl)) e37 (g := (mkF m 25 #[.val (.ref a), .val (.int row), .val (.int q)] [(.int q), (.int row), (.ref la)])) rfl (hb hby d7_25) rfl (not_neg hq.1) (cap := 8) (clamp_le hq) (by decide) (by decide) (by decide) (ad := "[J") (by decide)
      obtain ⟨b, g38⟩ : ∃ z, z = h0.size := ⟨_, rfl⟩
      rw [← g38] at A38 B38 st38
      have lt_a_b : a < b := by rw [g38]; exact Ex.lt
      have ne_a_b : a ≠ b := Nat.ne_of_lt lt_a_b
      have lt_ra_b : ra < b := by rw [g38]; exact Jr.lt
      have ne_ra_b : ra ≠ b := Nat.ne_of_lt lt_ra_b
      have lt_la_b : la < b := by rw [g38]; exact Jl.lt
      have ne_la_b : la ≠ b := Nat.ne_of_lt lt_la_b
      have le_b : n0 ≤ b := by rw [g38]; exact Z0
      have sz_b : h0.size ≤ b := by rw [g38]; exact K0.1
      replace Ex := Ex.ext E38
      replace Fr_ := Fr_.ext E38
      replace Fl_ := Fl_.ext E38
      replace Fu_ := Fu_.ext E38
      replace Jr := Jr.ext E38
      replace Jl := Jl.ext E38
      replace Z0 := Nat.le_trans Z0 E38.1
      replace K0 := K0.ext E38
      have J_b : Jar Z h38 b .long q.toNatClampNeg (fun _ => defaultValue .long) := Jar.new A38 rfl
      have Ex_b : Exa Z h38 b "[J" := B38
      refine GoOn.step st38 ?_
      show GoOn p e below _ (T38.setTop (mkF m 27 #[.val (.ref a), .val (.int row), .val (.int q)] [(.ref b), (.int row), (.ref la)]))
      obtain ⟨T39, h39, X39, e39, W39, st39⟩ := kStR X38 hx hZ e38 Jl (j := row) hrow (Ins.self Ex_b) (g := (mkF m 27 #[.val (.ref a), .val (.int row), .val (.int q)] [(.ref b), (.int row), (.ref la)])) rfl rfl (hb hby d7_27)
      replace N0 := Fr.snoc X39 N0 (Nat.le_trans ga gl)
      replace Ex := Ex.wr W39
      replace Fr_ := Fr_.other W39 (Or.inl ne_a_la)
      replace Fl_ := Fl_.other W39 (Or.inl ne_a_la)
      replace Fu_ := Fu_.other W39 (Or.inl ne_a_la)
      replace Jr := Jr.other W39 nl
      replace Jl := Jl.set W39
      replace J_b := J_b.other W39 (Ne.symm ne_la_b)
      replace Ex_b := Ex_b.wr W39
      replace Z0 := Nat.le_trans Z0 (Nat.le_of_eq W39.size.symm)
      replace K0 := K0.wr W39 (Or.inl (by simp))
      refine GoOn.step st39 ?_
      show GoOn p e below _ (T39.setTop (mkF m 28 #[.val (.ref a), .val (.int row), .val (.int q)] []))
      refine GoOn.step (fun t₀ k₀ => XS.aloadN X39.here hx rfl (hb hby d7_28) rfl rfl k₀) ?_
      show GoOn p e below _ (T39.setTop (mkF m 29 #[.val (.ref a), .val (.int row), .val (.int q)] [(.ref a)]))
      obtain ⟨T40, X40, e40, st40⟩ := getF X39 hx hZ hown (host := "") (Or.inl (hw _ (List.mem_of_getElem? (i := 24) rfl))) Via.refl e39 Fl_ (g := (mkF m 29 #[.val (.ref a), .val (.int row), .val (.int q)] [(.ref a)])) rfl rfl (hb hby d7_29)
      refine GoOn.step st40 ?_
      show GoOn p e below _ (T40.setTop (mkF m 32 #[.val (.ref a), .val (.int row), .val (.int q)] [(.ref la)]))
      refine GoOn.step (fun t₀ k₀ => XS.iloadN X40.here hx rfl (hb hby d7_32) rfl k₀) ?_
      show GoOn p e below _ (T40.setTop (mkF m 33 #[.val (.ref a), .val (.int row), .val (.int q)] [(.int row), (.ref la)]))
      refine GoOn.step (fun t₀ k₀ => kLdA X40 hx hZ e40 Jl.jar rfl (j := row) (v := (.ref b)) hrow (if_pos rfl) (g := (mkF m 33 #[.val (.ref a), .val (.int row), .val (.int q)] [(.int row), (.ref la)])) rfl rfl (hb hby d7_33) t₀ k₀) ?_
      show GoOn p e below _ (T40.setTop (mkF m 34 #[.val (.ref a), .val (.int row), .val (.int q)] [(.ref b)]))
      exact GoOn.retR X40 hx hrt rfl hlk rfl (hb hby d7_34) (by decide) (by decide) (by first | exact ⟨⟨_, rfl⟩, N0, (Low.of K0 (allS (Nat.le_refl a) (allS gr (allS gl all0)))), ra, _, _, _, _, _, Ex, Fr_, Fl_, Fu_, Jr, (Or.inr ⟨la, rfl, Jl, gl, nl⟩), (Or.inl rfl), gr, ir, (isr_set il), iu, (has_l HP rfl _ b)⟩ | (rw [e40]; exact ⟨⟨_, rfl⟩, N0, (Low.of K0 (allS (Nat.le_refl a) (allS gr (allS gl all0)))), ra, _, _, _, _, _, Ex, Fr_, Fl_, Fu_, Jr, (Or.inr ⟨la, rfl, Jl, gl, nl⟩), (Or.inl rfl), gr, ir, (isr_set il), iu, (has_l HP rfl _ b)⟩))
    · subst hl hu
      have ne_a_la : a ≠ la := ne_arr Ex (hw _ (List.mem_of_getElem? (i := 3) rfl)) Jl.choose_spec.choose_spec.1
      have ne_a_ua : a ≠ ua := ne_arr Ex (hw _ (List.mem_of_getElem? (i := 3) rfl)) Ju.choose_spec.choose_spec.1
      have ne_la_ua : la ≠ ua := fun q => nlu (congrArg Value.ref q)
      have K0 : Keep h0 h0 [a, ra, la, ua] := Keep.refl _ _
      refine GoOn.step (fun t₀ k₀ => XS.aloadN X0.here hx rfl (hb hby d7_0) rfl rfl k₀) ?_
      show GoOn p e below _ (s₁.setTop (mkF m 1 #[.val (.ref a), .val (.int row), .val (.int q)] [(.ref a)]))
      obtain ⟨T41, X41, e41, st41⟩ := getF X0 hx hZ hown (host := "") (Or.inl (hw _ (List.mem_of_getElem? (i := 24) rfl))) Via.refl e0 Fl_ (g := (mkF m 1 #[.val (.ref a), .val (.int row), .val (.int q)] [(.ref a)])) rfl rfl (hb hby d7_1)
      refine GoOn.step st41 ?_
      show GoOn p e below _ (T41.setTop (mkF m 4 #[.val (.ref a), .val (.int row), .val (.int q)] [(.ref la)]))
      refine GoOn.step (fun t₀ k₀ => XS.ifnonnullYes X41.here hx rfl (pc0 := 4) (pc' := 19) rfl (hb hby d7_4) rfl (by decide) (by decide) k₀) ?_
      show GoOn p e below _ (T41.setTop (mkF m 19 #[.val (.ref a), .val (.int row), .val (.int q)] []))
      refine GoOn.step (fun t₀ k₀ => XS.aloadN X41.here hx rfl (hb hby d7_19) rfl rfl k₀) ?_
      show GoOn p e below _ (T41.setTop (mkF m 20 #[.val (.ref a), .val (.int row), .val (.int q)] [(.ref a)]))
      obtain ⟨T42, X42, e42, st42⟩ := getF X41 hx hZ hown (host := "") (Or.inl (hw _ (List.mem_of_getElem? (i := 24) rfl))) Via.refl e41 Fl_ (g := (mkF m 20 #[.val (.ref a), .val (.int row), .val (.int q)] [(.ref a)])) rfl rfl (hb hby d7_20)
      refine GoOn.step st42 ?_
      show GoOn p e below _ (T42.setTop (mkF m 23 #[.val (.ref a), .val (.int row), .val (.int q)] [(.ref la)]))
      refine GoOn.step (fun t₀ k₀ => XS.iloadN X42.here hx rfl (hb hby d7_23) rfl k₀) ?_
      show GoOn p e below _ (T42.setTop (mkF m 24 #[.val (.ref a), .val (.int row), .val (.int q)] [(.int row), (.ref la)]))
      refine GoOn.step (fun t₀ k₀ => XS.iloadN X42.here hx rfl (hb hby d7_24) rfl k₀) ?_
      show GoOn p e below _ (T42.setTop (mkF m 25 #[.val (.ref a), .val (.int row), .val (.int q)] [(.int q), (.int row), (.ref la)]))
      obtain ⟨T43, h43, k43, X43, e43, E43, A43, B43, st43⟩ := newPE X42 hx hZ (hw _ (List.mem_of_getElem? (i := 0) rfl)) e42 (g := (mkF m 25 #[.val (.ref a), .val (.int row), .val (.int q)] [(.int q), (.int row), (.ref la)])) rfl (hb hby d7_25) rfl (not_neg hq.1) (cap := 8) (clamp_le hq) (by decide) (by decide) (by decide) (ad := "[J") (by decide)
      obtain ⟨b, g43⟩ : ∃ z, z = h0.size := ⟨_, rfl⟩
      rw [← g43] at A43 B43 st43
      have lt_a_b : a < b := by rw [g43]; exact Ex.lt
      have ne_a_b : a ≠ b := Nat.ne_of_lt lt_a_b
      have lt_ra_b : ra < b := by rw [g43]; exact Jr.lt
      have ne_ra_b : ra ≠ b := Nat.ne_of_lt lt_ra_b
      have lt_la_b : la < b := by rw [g43]; exact Jl.lt
      have ne_la_b : la ≠ b := Nat.ne_of_lt lt_la_b
      have lt_ua_b : ua < b := by rw [g43]; exact Ju.lt
      have ne_ua_b : ua ≠ b := Nat.ne_of_lt lt_ua_b
      have le_b : n0 ≤ b := by rw [g43]; exact Z0
      have sz_b : h0.size ≤ b := by rw [g43]; exact K0.1
      replace Ex := Ex.ext E43
      replace Fr_ := Fr_.ext E43
      replace Fl_ := Fl_.ext E43
      replace Fu_ := Fu_.ext E43
      replace Jr := Jr.ext E43
      replace Jl := Jl.ext E43
      replace Ju := Ju.ext E43
      replace Z0 := Nat.le_trans Z0 E43.1
      replace K0 := K0.ext E43
      have J_b : Jar Z h43 b .long q.toNatClampNeg (fun _ => defaultValue .long) := Jar.new A43 rfl
      have Ex_b : Exa Z h43 b "[J" := B43
      refine GoOn.step st43 ?_
      show GoOn p e below _ (T43.setTop (mkF m 27 #[.val (.ref a), .val (.int row), .val (.int q)] [(.ref b), (.int row), (.ref la)]))
      obtain ⟨T44, h44, X44, e44, W44, st44⟩ := kStR X43 hx hZ e43 Jl (j := row) hrow (Ins.self Ex_b) (g := (mkF m 27 #[.val (.ref a), .val (.int row), .val (.int q)] [(.ref b), (.int row), (.ref la)])) rfl rfl (hb hby d7_27)
      replace N0 := Fr.snoc X44 N0 (Nat.le_trans ga gl)
      replace Ex := Ex.wr W44
      replace Fr_ := Fr_.other W44 (Or.inl ne_a_la)
      replace Fl_ := Fl_.other W44 (Or.inl ne_a_la)
      replace Fu_ := Fu_.other W44 (Or.inl ne_a_la)
      replace Jr := Jr.other W44 nl
      replace Jl := Jl.set W44
      replace Ju := Ju.other W44 (Ne.symm ne_la_ua)
      replace J_b := J_b.other W44 (Ne.symm ne_la_b)
      replace Ex_b := Ex_b.wr W44
      replace Z0 := Nat.le_trans Z0 (Nat.le_of_eq W44.size.symm)
      replace K0 := K0.wr W44 (Or.inl (by simp))
      refine GoOn.step st44 ?_
      show GoOn p e below _ (T44.setTop (mkF m 28 #[.val (.ref a), .val (.int row), .val (.int q)] []))
      refine GoOn.step (fun t₀ k₀ => XS.aloadN X44.here hx rfl (hb hby d7_28) rfl rfl k₀) ?_
      show GoOn p e below _ (T44.setTop (mkF m 29 #[.val (.ref a), .val (.int row), .val (.int q)] [(.ref a)]))
      obtain ⟨T45, X45, e45, st45⟩ := getF X44 hx hZ hown (host := "") (Or.inl (hw _ (List.mem_of_getElem? (i := 24) rfl))) Via.refl e44 Fl_ (g := (mkF m 29 #[.val (.ref a), .val (.int row), .val (.int q)] [(.ref a)])) rfl rfl (hb hby d7_29)
      refine GoOn.step st45 ?_
      show GoOn p e below _ (T45.setTop (mkF m 32 #[.val (.ref a), .val (.int row), .val (.int q)] [(.ref la)]))
      refine GoOn.step (fun t₀ k₀ => XS.iloadN X45.here hx rfl (hb hby d7_32) rfl k₀) ?_
      show GoOn p e below _ (T45.setTop (mkF m 33 #[.val (.ref a), .val (.int row), .val (.int q)] [(.int row), (.ref la)]))
      refine GoOn.step (fun t₀ k₀ => kLdA X45 hx hZ e45 Jl.jar rfl (j := row) (v := (.ref b)) hrow (if_pos rfl) (g := (mkF m 33 #[.val (.ref a), .val (.int row), .val (.int q)] [(.int row), (.ref la)])) rfl rfl (hb hby d7_33) t₀ k₀) ?_
      show GoOn p e below _ (T45.setTop (mkF m 34 #[.val (.ref a), .val (.int row), .val (.int q)] [(.ref b)]))
      exact GoOn.retR X45 hx hrt rfl hlk rfl (hb hby d7_34) (by decide) (by decide) (by first | exact ⟨⟨_, rfl⟩, N0, (Low.of K0 (allS (Nat.le_refl a) (allS gr (allS gl (allS gu all0))))), ra, _, _, _, _, _, Ex, Fr_, Fl_, Fu_, Jr, (Or.inr ⟨la, rfl, Jl, gl, nl⟩), (Or.inr ⟨ua, rfl, Ju, gu, nu, nlu⟩), gr, ir, (isr_set il), iu, (has_l HP rfl _ b)⟩ | (rw [e45]; exact ⟨⟨_, rfl⟩, N0, (Low.of K0 (allS (Nat.le_refl a) (allS gr (allS gl (allS gu all0))))), ra, _, _, _, _, _, Ex, Fr_, Fl_, Fu_, Jr, (Or.inr ⟨la, rfl, Jl, gl, nl⟩), (Or.inr ⟨ua, rfl, Ju, gu, nu, nlu⟩), gr, ir, (isr_set il), iu, (has_l HP rfl _ b)⟩))
theorem ef_c_run (m : MethodId) (x0 : Addr) (x1 : Int32) (x2 : Addr) : entryFrame m #[(.ref x0), (.int x1), (.ref x2)] 3 = mkF m 0 #[.val (.ref x0), .val (.int x1), .val (.ref x2)] [] := by first | (simp [entryFrame, mkF, argsToLocals, Value.category]; done) | rfl
set_option maxRecDepth 65536 in
set_option maxHeartbeats 40000000 in
theorem c_run (l : Launch) (Z : State) (a0 : Array Value) (hw : ∀ d ∈ tables_1, d.before a0 Z = true) (a qa : Addr) (row : Int32) (P : Nat → Prop) (h0 : Heap) (n0 : Nat) (Z0 : n0 ≤ h0.size) (CS : CBs Z h0 a P) (ga : n0 ≤ a) (hrow : 0 ≤ row.toInt ∧ row.toInt < (3 : Nat)) (Eq : Exa Z h0 qa "[J") :
    Con l Z (⟨"com/example/treesack/treesack/core/ChoiceBits", "newRunRow", "(I[J)V"⟩ : MethodName) prog_24_method_5_code 3 none ({ frames := 0, cells := 1, slots := 3, locals := 0 } : Room) #[(.ref a), (.int row), (.ref qa)] h0 (MkQ Z a (fun i => P i ∨ i = row.toNatClampNeg) h0 n0 (fun v => v = none)) := by
  refine Con.intro (plainFor_of_name pn_0) ?_
  intro p e s m below meth c s₁ hx hby hml hrt hlk hZ hown hnm X0 e0
  replace hown : s.vm.findClass "com/example/treesack/treesack/core/ChoiceBits" = some m.cls := hown
  have N0 := Fr.nil n0
  refine GoOn.cast (ef_c_run m a row qa) ?_
  show GoOn p e below _ (s₁.setTop (mkF m 0 #[.val (.ref a), .val (.int row), .val (.ref qa)] []))
  have Ex0 : a < h0.size := by obtain ⟨_, _, _, _, _, _, E, -⟩ := CS; exact E.lt
  obtain ⟨ra, fr, fl, fu, lv, uv, Ex, Fr_, Fl_, Fu_, Jr, OL, OU, gr, ir, il, iu, HP⟩ := CS
  have ne_a_ra : a ≠ ra := ne_arr Ex (hw _ (List.mem_of_getElem? (i := 3) rfl)) Jr.choose_spec.choose_spec.1
  rcases OL with hl | ⟨la, hl, Jl, gl, nl⟩
  · rcases OU with hu | ⟨ua, hu, Ju, gu, nu, nlu⟩
    · subst hl hu
      have K0 : Keep h0 h0 [a, ra] := Keep.refl _ _
      refine GoOn.step (fun t₀ k₀ => XS.aloadN X0.here hx rfl (hb hby d8_0) rfl rfl k₀) ?_
      show GoOn p e below _ (s₁.setTop (mkF m 1 #[.val (.ref a), .val (.int row), .val (.ref qa)] [(.ref a)]))
      obtain ⟨T46, X46, e46, st46⟩ := getF X0 hx hZ hown (host := "") (Or.inl (hw _ (List.mem_of_getElem? (i := 26) rfl))) Via.refl e0 Fu_ (g := (mkF m 1 #[.val (.ref a), .val (.int row), .val (.ref qa)] [(.ref a)])) rfl rfl (hb hby d8_1)
      refine GoOn.step st46 ?_
      show GoOn p e below _ (T46.setTop (mkF m 4 #[.val (.ref a), .val (.int row), .val (.ref qa)] [.null]))
      refine GoOn.step (fun t₀ k₀ => XS.ifnonnullNo X46.here hx rfl (hb hby d8_4) rfl k₀) ?_
      show GoOn p e below _ (T46.setTop (mkF m 7 #[.val (.ref a), .val (.int row), .val (.ref qa)] []))
      refine GoOn.step (fun t₀ k₀ => XS.aloadN X46.here hx rfl (hb hby d8_7) rfl rfl k₀) ?_
      show GoOn p e below _ (T46.setTop (mkF m 8 #[.val (.ref a), .val (.int row), .val (.ref qa)] [(.ref a)]))
      refine GoOn.step (fun t₀ k₀ => XS.aloadN X46.here hx rfl (hb hby d8_8) rfl rfl k₀) ?_
      show GoOn p e below _ (T46.setTop (mkF m 9 #[.val (.ref a), .val (.int row), .val (.ref qa)] [(.ref a), (.ref a)]))
      obtain ⟨T47, X47, e47, st47⟩ := getF X46 hx hZ hown (host := "") (Or.inl (hw _ (List.mem_of_getElem? (i := 13) rfl))) Via.refl e46 Fr_ (g := (mkF m 9 #[.val (.ref a), .val (.int row), .val (.ref qa)] [(.ref a), (.ref a)])) rfl rfl (hb hby d8_9)
      refine GoOn.step st47 ?_
      show GoOn p e below _ (T47.setTop (mkF m 12 #[.val (.ref a), .val (.int row), .val (.ref qa)] [(.ref ra), (.ref a)]))
      refine GoOn.step (fun t₀ k₀ => kLen X47 hx hZ e47 Jr.jar (z := (3 : Int32)) rfl (g := (mkF m 12 #[.val (.ref a), .val (.int row), .val (.ref qa)] [(.ref ra), (.ref a)])) rfl rfl (hb hby d8_12) t₀ k₀) ?_
      show GoOn p e below _ (T47.setTop (mkF m 13 #[.val (.ref a), .val (.int row), .val (.ref qa)] [(.int (3 : Int32)), (.ref a)]))
      obtain ⟨T48, h48, k48, X48, e48, E48, A48, B48, O48, st48⟩ := newRA X47 hx hZ hown (ty := .long) (C := "[J") (by decide) (hw _ (List.mem_of_getElem? (i := 11) rfl)) (hw _ (List.mem_of_getElem? (i := 12) rfl)) e47 (g := (mkF m 13 #[.val (.ref a), .val (.int row), .val (.ref qa)] [(.int (3 : Int32)), (.ref a)])) rfl (hb hby d8_13) rfl (by decide) (cap := 3) (by decide) (by decide) (by decide) (by decide) (ad := "[[J") (by decide)
      obtain ⟨ua, g48⟩ : ∃ z, z = h0.size := ⟨_, rfl⟩
      rw [← g48] at A48 st48
      have lt_a_ua : a < ua := by rw [g48]; exact Ex.lt
      have ne_a_ua : a ≠ ua := Nat.ne_of_lt lt_a_ua
      have lt_ra_ua : ra < ua := by rw [g48]; exact Jr.lt
      have ne_ra_ua : ra ≠ ua := Nat.ne_of_lt lt_ra_ua
      have lt_qa_ua : qa < ua := by rw [g48]; exact Eq.lt
      have ne_qa_ua : qa ≠ ua := Nat.ne_of_lt lt_qa_ua
      have le_ua : n0 ≤ ua := by rw [g48]; exact Z0
      have sz_ua : h0.size ≤ ua := by rw [g48]; exact K0.1
      replace Ex := Ex.ext E48
      replace Fr_ := Fr_.ext E48
      replace Fl_ := Fl_.ext E48
      replace Fu_ := Fu_.ext E48
      replace Jr := Jr.ext E48
      replace Eq := Eq.ext E48
      replace Z0 := Nat.le_trans Z0 E48.1
      replace K0 := K0.ext E48
      have J_ua : Jrr Z h48 ua 3 (fun _ => .null) := Jrr.new A48 O48 (by decide)
      refine GoOn.step st48 ?_
      show GoOn p e below _ (T48.setTop (mkF m 16 #[.val (.ref a), .val (.int row), .val (.ref qa)] [(.ref ua), (.ref a)]))
      obtain ⟨T49, h49, X49, e49, W49, st49⟩ := putF X48 hx hZ hown (host := "") (Or.inl (hw _ (List.mem_of_getElem? (i := 26) rfl))) Via.refl e48 Fu_ Ex (Or.inl (hw _ (List.mem_of_getElem? (i := 27) rfl))) (hw _ (List.mem_of_getElem? (i := 3) rfl)) (ty := (.array (.array .long))) (by decide) rfl rfl (g := (mkF m 16 #[.val (.ref a), .val (.int row), .val (.ref qa)] [(.ref ua), (.ref a)])) rfl rfl (hb hby d8_16)
      replace N0 := Fr.snoc X49 N0 ga
      replace Ex := Ex.wr W49
      replace Fr_ := Fr_.other W49 (Or.inr (slot_ne (Or.inr (hw _ (List.mem_of_getElem? (i := 14) rfl))) (Or.inl (hw _ (List.mem_of_getElem? (i := 27) rfl))) (by decide) (t := (.array (.array .long))) (t' := (.array (.array .long))) (by decide) (by decide)))
      replace Fl_ := Fl_.other W49 (Or.inr (slot_ne (Or.inl (hw _ (List.mem_of_getElem? (i := 25) rfl))) (Or.inl (hw _ (List.mem_of_getElem? (i := 27) rfl))) (by decide) (t := (.array (.array .long))) (t' := (.array (.array .long))) (by decide) (by decide)))
      replace Fu_ := Fld.same W49 Fu_
      replace Jr := Jr.other W49 (Ne.symm ne_a_ra)
      replace Eq := Eq.wr W49
      replace J_ua := J_ua.other W49 (Ne.symm ne_a_ua)
      replace Z0 := Nat.le_trans Z0 (Nat.le_of_eq W49.size.symm)
      replace K0 := K0.wr W49 (Or.inl (by simp))
      refine GoOn.step st49 ?_
      show GoOn p e below _ (T49.setTop (mkF m 19 #[.val (.ref a), .val (.int row), .val (.ref qa)] []))
      have gu : a ≤ ua := Nat.le_of_lt (Nat.lt_of_lt_of_le Ex0 sz_ua)
      have iu' : ∀ i : Nat, ((fun _ => Value.null : Nat → Value) i).isRef = true := fun _ => rfl
      refine GoOn.step (fun t₀ k₀ => XS.aloadN X49.here hx rfl (hb hby d8_19) rfl rfl k₀) ?_
      show GoOn p e below _ (T49.setTop (mkF m 20 #[.val (.ref a), .val (.int row), .val (.ref qa)] [(.ref a)]))
      obtain ⟨T50, X50, e50, st50⟩ := getF X49 hx hZ hown (host := "") (Or.inl (hw _ (List.mem_of_getElem? (i := 26) rfl))) Via.refl e49 Fu_ (g := (mkF m 20 #[.val (.ref a), .val (.int row), .val (.ref qa)] [(.ref a)])) rfl rfl (hb hby d8_20)
      refine GoOn.step st50 ?_
      show GoOn p e below _ (T50.setTop (mkF m 23 #[.val (.ref a), .val (.int row), .val (.ref qa)] [(.ref ua)]))
      refine GoOn.step (fun t₀ k₀ => XS.iloadN X50.here hx rfl (hb hby d8_23) rfl k₀) ?_
      show GoOn p e below _ (T50.setTop (mkF m 24 #[.val (.ref a), .val (.int row), .val (.ref qa)] [(.int row), (.ref ua)]))
      refine GoOn.step (fun t₀ k₀ => XS.aloadN X50.here hx rfl (hb hby d8_24) rfl rfl k₀) ?_
      show GoOn p e below _ (T50.setTop (mkF m 25 #[.val (.ref a), .val (.int row), .val (.ref qa)] [(.ref qa), (.int row), (.ref ua)]))
      obtain ⟨T51, h51, X51, e51, W51, st51⟩ := kStR X50 hx hZ e50 J_ua (j := row) hrow (Ins.self Eq) (g := (mkF m 25 #[.val (.ref a), .val (.int row), .val (.ref qa)] [(.ref qa), (.int row), (.ref ua)])) rfl rfl (hb hby d8_25)
      replace N0 := Fr.snoc X51 N0 le_ua
      replace Ex := Ex.wr W51
      replace Fr_ := Fr_.other W51 (Or.inl ne_a_ua)
      replace Fl_ := Fl_.other W51 (Or.inl ne_a_ua)
      replace Fu_ := Fu_.other W51 (Or.inl ne_a_ua)
      replace Jr := Jr.other W51 ne_ra_ua
      replace Eq := Eq.wr W51
      replace J_ua := J_ua.set W51
      replace Z0 := Nat.le_trans Z0 (Nat.le_of_eq W51.size.symm)
      replace K0 := K0.wr W51 (Or.inr sz_ua)
      refine GoOn.step st51 ?_
      show GoOn p e below _ (T51.setTop (mkF m 26 #[.val (.ref a), .val (.int row), .val (.ref qa)] []))
      exact GoOn.ret0 X51 hx hrt hlk (hb hby d8_26) (by decide) (by decide) (by first | exact ⟨rfl, N0, (Low.of K0 (allS (Nat.le_refl a) (allS gr all0))), ra, _, _, _, _, _, Ex, Fr_, Fl_, Fu_, Jr, (Or.inl rfl), (Or.inr ⟨ua, rfl, J_ua, gu, ne_ra_ua, (by simp)⟩), gr, ir, il, (isr_set iu'), (has_u (has_un ua HP) rfl _ qa)⟩ | (rw [e51]; exact ⟨rfl, N0, (Low.of K0 (allS (Nat.le_refl a) (allS gr all0))), ra, _, _, _, _, _, Ex, Fr_, Fl_, Fu_, Jr, (Or.inl rfl), (Or.inr ⟨ua, rfl, J_ua, gu, ne_ra_ua, (by simp)⟩), gr, ir, il, (isr_set iu'), (has_u (has_un ua HP) rfl _ qa)⟩))
    · subst hl hu
      have ne_a_ua : a ≠ ua := ne_arr Ex (hw _ (List.mem_of_getElem? (i := 3) rfl)) Ju.choose_spec.choose_spec.1
      have K0 : Keep h0 h0 [a, ra, ua] := Keep.refl _ _
      refine GoOn.step (fun t₀ k₀ => XS.aloadN X0.here hx rfl (hb hby d8_0) rfl rfl k₀) ?_
      show GoOn p e below _ (s₁.setTop (mkF m 1 #[.val (.ref a), .val (.int row), .val (.ref qa)] [(.ref a)]))
      obtain ⟨T52, X52, e52, st52⟩ := getF X0 hx hZ hown (host := "") (Or.inl (hw _ (List.mem_of_getElem? (i := 26) rfl))) Via.refl e0 Fu_ (g := (mkF m 1 #[.val (.ref a), .val (.int row), .val (.ref qa)] [(.ref a)])) rfl rfl (hb hby d8_1)
      refine GoOn.step st52 ?_
      show GoOn p e below _ (T52.setTop (mkF m 4 #[.val (.ref a), .val (.int row), .val (.ref qa)] [(.ref ua)]))
      refine GoOn.step (fun t₀ k₀ => XS.ifnonnullYes X52.here hx rfl (pc0 := 4) (pc' := 19) rfl (hb hby d8_4) rfl (by decide) (by decide) k₀) ?_
      show GoOn p e below _ (T52.setTop (mkF m 19 #[.val (.ref a), .val (.int row), .val (.ref qa)] []))
      refine GoOn.step (fun t₀ k₀ => XS.aloadN X52.here hx rfl (hb hby d8_19) rfl rfl k₀) ?_
      show GoOn p e below _ (T52.setTop (mkF m 20 #[.val (.ref a), .val (.int row), .val (.ref qa)] [(.ref a)]))
      obtain ⟨T53, X53, e53, st53⟩ := getF X52 hx hZ hown (host := "") (Or.inl (hw _ (List.mem_of_getElem? (i := 26) rfl))) Via.refl e52 Fu_ (g := (mkF m 20 #[.val (.ref a), .val (.int row), .val (.ref qa)] [(.ref a)])) rfl rfl (hb hby d8_20)
      refine GoOn.step st53 ?_
      show GoOn p e below _ (T53.setTop (mkF m 23 #[.val (.ref a), .val (.int row), .val (.ref qa)] [(.ref ua)]))
      refine GoOn.step (fun t₀ k₀ => XS.iloadN X53.here hx rfl (hb hby d8_23) rfl k₀) ?_
      show GoOn p e below _ (T53.setTop (mkF m 24 #[.val (.ref a), .val (.int row), .val (.ref qa)] [(.int row), (.ref ua)]))
      refine GoOn.step (fun t₀ k₀ => XS.aloadN X53.here hx rfl (hb hby d8_24) rfl rfl k₀) ?_
      show GoOn p e below _ (T53.setTop (mkF m 25 #[.val (.ref a), .val (.int row), .val (.ref qa)] [(.ref qa), (.int row), (.ref ua)]))
      obtain ⟨T54, h54, X54, e54, W54, st54⟩ := kStR X53 hx hZ e53 Ju (j := row) hrow (Ins.self Eq) (g := (mkF m 25 #[.val (.ref a), .val (.int row), .val (.ref qa)] [(.ref qa), (.int row), (.ref ua)])) rfl rfl (hb hby d8_25)
      replace N0 := Fr.snoc X54 N0 (Nat.le_trans ga gu)
      replace Ex := Ex.wr W54
      replace Fr_ := Fr_.other W54 (Or.inl ne_a_ua)
      replace Fl_ := Fl_.other W54 (Or.inl ne_a_ua)
      replace Fu_ := Fu_.other W54 (Or.inl ne_a_ua)
      replace Jr := Jr.other W54 nu
      replace Ju := Ju.set W54
      replace Eq := Eq.wr W54
      replace Z0 := Nat.le_trans Z0 (Nat.le_of_eq W54.size.symm)
      replace K0 := K0.wr W54 (Or.inl (by simp))
      refine GoOn.step st54 ?_
      show GoOn p e below _ (T54.setTop (mkF m 26 #[.val (.ref a), .val (.int row), .val (.ref qa)] []))
      exact GoOn.ret0 X54 hx hrt hlk (hb hby d8_26) (by decide) (by decide) (by first | exact ⟨rfl, N0, (Low.of K0 (allS (Nat.le_refl a) (allS gr (allS gu all0)))), ra, _, _, _, _, _, Ex, Fr_, Fl_, Fu_, Jr, (Or.inl rfl), (Or.inr ⟨ua, rfl, Ju, gu, nu, (by simp)⟩), gr, ir, il, (isr_set iu), (has_u HP rfl _ qa)⟩ | (rw [e54]; exact ⟨rfl, N0, (Low.of K0 (allS (Nat.le_refl a) (allS gr (allS gu all0)))), ra, _, _, _, _, _, Ex, Fr_, Fl_, Fu_, Jr, (Or.inl rfl), (Or.inr ⟨ua, rfl, Ju, gu, nu, (by simp)⟩), gr, ir, il, (isr_set iu), (has_u HP rfl _ qa)⟩))
  · rcases OU with hu | ⟨ua, hu, Ju, gu, nu, nlu⟩
    · subst hl hu
      have ne_a_la : a ≠ la := ne_arr Ex (hw _ (List.mem_of_getElem? (i := 3) rfl)) Jl.choose_spec.choose_spec.1
      have K0 : Keep h0 h0 [a, ra, la] := Keep.refl _ _
      refine GoOn.step (fun t₀ k₀ => XS.aloadN X0.here hx rfl (hb hby d8_0) rfl rfl k₀) ?_
      show GoOn p e below _ (s₁.setTop (mkF m 1 #[.val (.ref a), .val (.int row), .val (.ref qa)] [(.ref a)]))
      obtain ⟨T55, X55, e55, st55⟩ := getF X0 hx hZ hown (host := "") (Or.inl (hw _ (List.mem_of_getElem? (i := 26) rfl))) Via.refl e0 Fu_ (g := (mkF m 1 #[.val (.ref a), .val (.int row), .val (.ref qa)] [(.ref a)])) rfl rfl (hb hby d8_1)
      refine GoOn.step st55 ?_
      show GoOn p e below _ (T55.setTop (mkF m 4 #[.val (.ref a), .val (.int row), .val (.ref qa)] [.null]))
      refine GoOn.step (fun t₀ k₀ => XS.ifnonnullNo X55.here hx rfl (hb hby d8_4) rfl k₀) ?_
      show GoOn p e below _ (T55.setTop (mkF m 7 #[.val (.ref a), .val (.int row), .val (.ref qa)] []))
      refine GoOn.step (fun t₀ k₀ => XS.aloadN X55.here hx rfl (hb hby d8_7) rfl rfl k₀) ?_
      show GoOn p e below _ (T55.setTop (mkF m 8 #[.val (.ref a), .val (.int row), .val (.ref qa)] [(.ref a)]))
      refine GoOn.step (fun t₀ k₀ => XS.aloadN X55.here hx rfl (hb hby d8_8) rfl rfl k₀) ?_
      show GoOn p e below _ (T55.setTop (mkF m 9 #[.val (.ref a), .val (.int row), .val (.ref qa)] [(.ref a), (.ref a)]))
      obtain ⟨T56, X56, e56, st56⟩ := getF X55 hx hZ hown (host := "") (Or.inl (hw _ (List.mem_of_getElem? (i := 13) rfl))) Via.refl e55 Fr_ (g := (mkF m 9 #[.val (.ref a), .val (.int row), .val (.ref qa)] [(.ref a), (.ref a)])) rfl rfl (hb hby d8_9)
      refine GoOn.step st56 ?_
      show GoOn p e below _ (T56.setTop (mkF m 12 #[.val (.ref a), .val (.int row), .val (.ref qa)] [(.ref ra), (.ref a)]))
      refine GoOn.step (fun t₀ k₀ => kLen X56 hx hZ e56 Jr.jar (z := (3 : Int32)) rfl (g := (mkF m 12 #[.val (.ref a), .val (.int row), .val (.ref qa)] [(.ref ra), (.ref a)])) rfl rfl (hb hby d8_12) t₀ k₀) ?_
      show GoOn p e below _ (T56.setTop (mkF m 13 #[.val (.ref a), .val (.int row), .val (.ref qa)] [(.int (3 : Int32)), (.ref a)]))
      obtain ⟨T57, h57, k57, X57, e57, E57, A57, B57, O57, st57⟩ := newRA X56 hx hZ hown (ty := .long) (C := "[J") (by decide) (hw _ (List.mem_of_getElem? (i := 11) rfl)) (hw _ (List.mem_of_getElem? (i := 12) rfl)) e56 (g := (mkF m 13 #[.val (.ref a), .val (.int row), .val (.ref qa)] [(.int (3 : Int32)), (.ref a)])) rfl (hb hby d8_13) rfl (by decide) (cap := 3) (by decide) (by decide) (by decide) (by decide) (ad := "[[J") (by decide)
      obtain ⟨ua, g57⟩ : ∃ z, z = h0.size := ⟨_, rfl⟩
      rw [← g57] at A57 st57
      have lt_a_ua : a < ua := by rw [g57]; exact Ex.lt
      have ne_a_ua : a ≠ ua := Nat.ne_of_lt lt_a_ua
      have lt_ra_ua : ra < ua := by rw [g57]; exact Jr.lt
      have ne_ra_ua : ra ≠ ua := Nat.ne_of_lt lt_ra_ua
      have lt_la_ua : la < ua := by rw [g57]; exact Jl.lt
      have ne_la_ua : la ≠ ua := Nat.ne_of_lt lt_la_ua
      have lt_qa_ua : qa < ua := by rw [g57]; exact Eq.lt
      have ne_qa_ua : qa ≠ ua := Nat.ne_of_lt lt_qa_ua
      have le_ua : n0 ≤ ua := by rw [g57]; exact Z0
      have sz_ua : h0.size ≤ ua := by rw [g57]; exact K0.1
      replace Ex := Ex.ext E57
      replace Fr_ := Fr_.ext E57
      replace Fl_ := Fl_.ext E57
      replace Fu_ := Fu_.ext E57
      replace Jr := Jr.ext E57
      replace Jl := Jl.ext E57
      replace Eq := Eq.ext E57
      replace Z0 := Nat.le_trans Z0 E57.1
      replace K0 := K0.ext E57
      have J_ua : Jrr Z h57 ua 3 (fun _ => .null) := Jrr.new A57 O57 (by decide)
      refine GoOn.step st57 ?_
      show GoOn p e below _ (T57.setTop (mkF m 16 #[.val (.ref a), .val (.int row), .val (.ref qa)] [(.ref ua), (.ref a)]))
      obtain ⟨T58, h58, X58, e58, W58, st58⟩ := putF X57 hx hZ hown (host := "") (Or.inl (hw _ (List.mem_of_getElem? (i := 26) rfl))) Via.refl e57 Fu_ Ex (Or.inl (hw _ (List.mem_of_getElem? (i := 27) rfl))) (hw _ (List.mem_of_getElem? (i := 3) rfl)) (ty := (.array (.array .long))) (by decide) rfl rfl (g := (mkF m 16 #[.val (.ref a), .val (.int row), .val (.ref qa)] [(.ref ua), (.ref a)])) rfl rfl (hb hby d8_16)
      replace N0 := Fr.snoc X58 N0 ga
      replace Ex := Ex.wr W58
      replace Fr_ := Fr_.other W58 (Or.inr (slot_ne (Or.inr (hw _ (List.mem_of_getElem? (i := 14) rfl))) (Or.inl (hw _ (List.mem_of_getElem? (i := 27) rfl))) (by decide) (t := (.array (.array .long))) (t' := (.array (.array .long))) (by decide) (by decide)))
      replace Fl_ := Fl_.other W58 (Or.inr (slot_ne (Or.inl (hw _ (List.mem_of_getElem? (i := 25) rfl))) (Or.inl (hw _ (List.mem_of_getElem? (i := 27) rfl))) (by decide) (t := (.array (.array .long))) (t' := (.array (.array .long))) (by decide) (by decide)))
      replace Fu_ := Fld.same W58 Fu_
      replace Jr := Jr.other W58 (Ne.symm ne_a_ra)
      replace Jl := Jl.other W58 (Ne.symm ne_a_la)
      replace Eq := Eq.wr W58
      replace J_ua := J_ua.other W58 (Ne.symm ne_a_ua)
      replace Z0 := Nat.le_trans Z0 (Nat.le_of_eq W58.size.symm)
      replace K0 := K0.wr W58 (Or.inl (by simp))
      refine GoOn.step st58 ?_
      show GoOn p e below _ (T58.setTop (mkF m 19 #[.val (.ref a), .val (.int row), .val (.ref qa)] []))
      have gu : a ≤ ua := Nat.le_of_lt (Nat.lt_of_lt_of_le Ex0 sz_ua)
      have iu' : ∀ i : Nat, ((fun _ => Value.null : Nat → Value) i).isRef = true := fun _ => rfl
      refine GoOn.step (fun t₀ k₀ => XS.aloadN X58.here hx rfl (hb hby d8_19) rfl rfl k₀) ?_
      show GoOn p e below _ (T58.setTop (mkF m 20 #[.val (.ref a), .val (.int row), .val (.ref qa)] [(.ref a)]))
      obtain ⟨T59, X59, e59, st59⟩ := getF X58 hx hZ hown (host := "") (Or.inl (hw _ (List.mem_of_getElem? (i := 26) rfl))) Via.refl e58 Fu_ (g := (mkF m 20 #[.val (.ref a), .val (.int row), .val (.ref qa)] [(.ref a)])) rfl rfl (hb hby d8_20)
      refine GoOn.step st59 ?_
      show GoOn p e below _ (T59.setTop (mkF m 23 #[.val (.ref a), .val (.int row), .val (.ref qa)] [(.ref ua)]))
      refine GoOn.step (fun t₀ k₀ => XS.iloadN X59.here hx rfl (hb hby d8_23) rfl k₀) ?_
      show GoOn p e below _ (T59.setTop (mkF m 24 #[.val (.ref a), .val (.int row), .val (.ref qa)] [(.int row), (.ref ua)]))
      refine GoOn.step (fun t₀ k₀ => XS.aloadN X59.here hx rfl (hb hby d8_24) rfl rfl k₀) ?_
      show GoOn p e below _ (T59.setTop (mkF m 25 #[.val (.ref a), .val (.int row), .val (.ref qa)] [(.ref qa), (.int row), (.ref ua)]))
      obtain ⟨T60, h60, X60, e60, W60, st60⟩ := kStR X59 hx hZ e59 J_ua (j := row) hrow (Ins.self Eq) (g := (mkF m 25 #[.val (.ref a), .val (.int row), .val (.ref qa)] [(.ref qa), (.int row), (.ref ua)])) rfl rfl (hb hby d8_25)
      replace N0 := Fr.snoc X60 N0 le_ua
      replace Ex := Ex.wr W60
      replace Fr_ := Fr_.other W60 (Or.inl ne_a_ua)
      replace Fl_ := Fl_.other W60 (Or.inl ne_a_ua)
      replace Fu_ := Fu_.other W60 (Or.inl ne_a_ua)
      replace Jr := Jr.other W60 ne_ra_ua
      replace Jl := Jl.other W60 ne_la_ua
      replace Eq := Eq.wr W60
      replace J_ua := J_ua.set W60
      replace Z0 := Nat.le_trans Z0 (Nat.le_of_eq W60.size.symm)
      replace K0 := K0.wr W60 (Or.inr sz_ua)
      refine GoOn.step st60 ?_
      show GoOn p e below _ (T60.setTop (mkF m 26 #[.val (.ref a), .val (.int row), .val (.ref qa)] []))
      exact GoOn.ret0 X60 hx hrt hlk (hb hby d8_26) (by decide) (by decide) (by first | exact ⟨rfl, N0, (Low.of K0 (allS (Nat.le_refl a) (allS gr (allS gl all0)))), ra, _, _, _, _, _, Ex, Fr_, Fl_, Fu_, Jr, (Or.inr ⟨la, rfl, Jl, gl, nl⟩), (Or.inr ⟨ua, rfl, J_ua, gu, ne_ra_ua, (fun q => ne_la_ua (Value.ref.inj q))⟩), gr, ir, il, (isr_set iu'), (has_u (has_un ua HP) rfl _ qa)⟩ | (rw [e60]; exact ⟨rfl, N0, (Low.of K0 (allS (Nat.le_refl a) (allS gr (allS gl all0)))), ra, _, _, _, _, _, Ex, Fr_, Fl_, Fu_, Jr, (Or.inr ⟨la, rfl, Jl, gl, nl⟩), (Or.inr ⟨ua, rfl, J_ua, gu, ne_ra_ua, (fun q => ne_la_ua (Value.ref.inj q))⟩), gr, ir, il, (isr_set iu'), (has_u (has_un ua HP) rfl _ qa)⟩))
    · subst hl hu
      have ne_a_la : a ≠ la := ne_arr Ex (hw _ (List.mem_of_getElem? (i := 3) rfl)) Jl.choose_spec.choose_spec.1
      have ne_a_ua : a ≠ ua := ne_arr Ex (hw _ (List.mem_of_getElem? (i := 3) rfl)) Ju.choose_spec.choose_spec.1
      have ne_la_ua : la ≠ ua := fun q => nlu (congrArg Value.ref q)
      have K0 : Keep h0 h0 [a, ra, la, ua] := Keep.refl _ _
      refine GoOn.step (fun t₀ k₀ => XS.aloadN X0.here hx rfl (hb hby d8_0) rfl rfl k₀) ?_
      show GoOn p e below _ (s₁.setTop (mkF m 1 #[.val (.ref a), .val (.int row), .val (.ref qa)] [(.ref a)]))
      obtain ⟨T61, X61, e61, st61⟩ := getF X0 hx hZ hown (host := "") (Or.inl (hw _ (List.mem_of_getElem? (i := 26) rfl))) Via.refl e0 Fu_ (g := (mkF m 1 #[.val (.ref a), .val (.int row), .val (.ref qa)] [(.ref a)])) rfl rfl (hb hby d8_1)
      refine GoOn.step st61 ?_
      show GoOn p e below _ (T61.setTop (mkF m 4 #[.val (.ref a), .val (.int row), .val (.ref qa)] [(.ref ua)]))
      refine GoOn.step (fun t₀ k₀ => XS.ifnonnullYes X61.here hx rfl (pc0 := 4) (pc' := 19) rfl (hb hby d8_4) rfl (by decide) (by decide) k₀) ?_
      show GoOn p e below _ (T61.setTop (mkF m 19 #[.val (.ref a), .val (.int row), .val (.ref qa)] []))
      refine GoOn.step (fun t₀ k₀ => XS.aloadN X61.here hx rfl (hb hby d8_19) rfl rfl k₀) ?_
      show GoOn p e below _ (T61.setTop (mkF m 20 #[.val (.ref a), .val (.int row), .val (.ref qa)] [(.ref a)]))
      obtain ⟨T62, X62, e62, st62⟩ := getF X61 hx hZ hown (host := "") (Or.inl (hw _ (List.mem_of_getElem? (i := 26) rfl))) Via.refl e61 Fu_ (g := (mkF m 20 #[.val (.ref a), .val (.int row), .val (.ref qa)] [(.ref a)])) rfl rfl (hb hby d8_20)
      refine GoOn.step st62 ?_
      show GoOn p e below _ (T62.setTop (mkF m 23 #[.val (.ref a), .val (.int row), .val (.ref qa)] [(.ref ua)]))
      refine GoOn.step (fun t₀ k₀ => XS.iloadN X62.here hx rfl (hb hby d8_23) rfl k₀) ?_
      show GoOn p e below _ (T62.setTop (mkF m 24 #[.val (.ref a), .val (.int row), .val (.ref qa)] [(.int row), (.ref ua)]))
      refine GoOn.step (fun t₀ k₀ => XS.aloadN X62.here hx rfl (hb hby d8_24) rfl rfl k₀) ?_
      show GoOn p e below _ (T62.setTop (mkF m 25 #[.val (.ref a), .val (.int row), .val (.ref qa)] [(.ref qa), (.int row), (.ref ua)]))
      obtain ⟨T63, h63, X63, e63, W63, st63⟩ := kStR X62 hx hZ e62 Ju (j := row) hrow (Ins.self Eq) (g := (mkF m 25 #[.val (.ref a), .val (.int row), .val (.ref qa)] [(.ref qa), (.int row), (.ref ua)])) rfl rfl (hb hby d8_25)
      replace N0 := Fr.snoc X63 N0 (Nat.le_trans ga gu)
      replace Ex := Ex.wr W63
      replace Fr_ := Fr_.other W63 (Or.inl ne_a_ua)
      replace Fl_ := Fl_.other W63 (Or.inl ne_a_ua)
      replace Fu_ := Fu_.other W63 (Or.inl ne_a_ua)
      replace Jr := Jr.other W63 nu
      replace Jl := Jl.other W63 ne_la_ua
      replace Ju := Ju.set W63
      replace Eq := Eq.wr W63
      replace Z0 := Nat.le_trans Z0 (Nat.le_of_eq W63.size.symm)
      replace K0 := K0.wr W63 (Or.inl (by simp))
      refine GoOn.step st63 ?_
      show GoOn p e below _ (T63.setTop (mkF m 26 #[.val (.ref a), .val (.int row), .val (.ref qa)] []))
      exact GoOn.ret0 X63 hx hrt hlk (hb hby d8_26) (by decide) (by decide) (by first | exact ⟨rfl, N0, (Low.of K0 (allS (Nat.le_refl a) (allS gr (allS gl (allS gu all0))))), ra, _, _, _, _, _, Ex, Fr_, Fl_, Fu_, Jr, (Or.inr ⟨la, rfl, Jl, gl, nl⟩), (Or.inr ⟨ua, rfl, Ju, gu, nu, nlu⟩), gr, ir, il, (isr_set iu), (has_u HP rfl _ qa)⟩ | (rw [e63]; exact ⟨rfl, N0, (Low.of K0 (allS (Nat.le_refl a) (allS gr (allS gl (allS gu all0))))), ra, _, _, _, _, _, Ex, Fr_, Fl_, Fu_, Jr, (Or.inr ⟨la, rfl, Jl, gl, nl⟩), (Or.inr ⟨ua, rfl, Ju, gu, nu, nlu⟩), gr, ir, il, (isr_set iu), (has_u HP rfl _ qa)⟩))
theorem ef_c_make (m : MethodId) (x0 : Addr) (x1 : Int32) (x2 : Int32) (x3 : Int32) (x4 : Int32) (x5 : Addr) : entryFrame m #[(.ref x0), (.int x1), (.int x2), (.int x3), (.int x4), (.ref x5)] 6 = mkF m 0 #[.val (.ref x0), .val (.int x1), .val (.int x2), .val (.int x3), .val (.int x4), .val (.ref x5)] [] := by first | (simp [entryFrame, mkF, argsToLocals, Value.category]; done) | rfl
set_option maxRecDepth 65536 in
set_option maxHeartbeats 40000000 in
theorem c_make (l : Launch) (Z : State) (a0 : Array Value) (hw : ∀ d ∈ tables_1, d.before a0 Z = true) (a qa : Addr) (row kind len cnt : Int32) (P : Nat → Prop) (h0 : Heap) (n0 : Nat) (Z0 : n0 ≤ h0.size) (CS : CBs Z h0 a P) (ga : n0 ≤ a) (hrow : 0 ≤ row.toInt ∧ row.toInt < (3 : Nat)) (Ea : Exa Z h0 a "com/example/treesack/treesack/core/ChoiceBits") (Eq : Exa Z h0 qa "[J") :
    Con l Z (⟨"com/example/treesack/treesack/core/ChoiceBitsHasRowPinLaw", "make", "(Lcom/example/treesack/treesack/core/ChoiceBits;IIII[J)V"⟩ : MethodName) method_2_code 6 none ({ frames := 2, cells := 2, slots := 16, locals := 40 } : Room) #[(.ref a), (.int row), (.int kind), (.int len), (.int cnt), (.ref qa)] h0 (MkQ Z a (if (kind = 1 ∨ kind = 2 ∨ kind = 3) then (fun i => P i ∨ i = row.toNatClampNeg) else P) h0 n0 (fun v => v = none)) := by
  refine Con.intro (plainFor_of_name pn_2) ?_
  intro p e s m below meth c s₁ hx hby hml hrt hlk hZ hown hnm X0 e0
  replace hown : s.vm.findClass "com/example/treesack/treesack/core/ChoiceBitsHasRowPinLaw" = some m.cls := hown
  have N0 := Fr.nil n0
  refine GoOn.cast (ef_c_make m a row kind len cnt qa) ?_
  show GoOn p e below _ (s₁.setTop (mkF m 0 #[.val (.ref a), .val (.int row), .val (.int kind), .val (.int len), .val (.int cnt), .val (.ref qa)] []))
  refine GoOn.step (fun t₀ k₀ => XS.iloadN X0.here hx rfl (hb hby d3_0) rfl k₀) ?_
  show GoOn p e below _ (s₁.setTop (mkF m 1 #[.val (.ref a), .val (.int row), .val (.int kind), .val (.int len), .val (.int cnt), .val (.ref qa)] [(.int kind)]))
  refine GoOn.step (fun t₀ k₀ => XS.iconst X0.here hx rfl (hb hby d3_1) k₀) ?_
  show GoOn p e below _ (s₁.setTop (mkF m 2 #[.val (.ref a), .val (.int row), .val (.int kind), .val (.int len), .val (.int cnt), .val (.ref qa)] [(.int (1 : Int32)), (.int kind)]))
  by_cases c1 : kind = (1 : Int32)
  · refine GoOn.step (fun t₀ k₀ => XS.icmpNo X0.here hx rfl (hb hby d3_2) rfl (teq c1).2 k₀) ?_
    show GoOn p e below _ (s₁.setTop (mkF m 5 #[.val (.ref a), .val (.int row), .val (.int kind), .val (.int len), .val (.int cnt), .val (.ref qa)] []))
    have m1 : (len &&& (1023 : Int32)).toInt = len.toInt % 1024 := c_mask len 1023 10 (by decide) (by decide)
    refine GoOn.step (fun t₀ k₀ => XS.aloadN X0.here hx rfl (hb hby d3_5) rfl rfl k₀) ?_
    show GoOn p e below _ (s₁.setTop (mkF m 6 #[.val (.ref a), .val (.int row), .val (.int kind), .val (.int len), .val (.int cnt), .val (.ref qa)] [(.ref a)]))
    refine GoOn.step (fun t₀ k₀ => XS.iloadN X0.here hx rfl (hb hby d3_6) rfl k₀) ?_
    show GoOn p e below _ (s₁.setTop (mkF m 7 #[.val (.ref a), .val (.int row), .val (.int kind), .val (.int len), .val (.int cnt), .val (.ref qa)] [(.int row), (.ref a)]))
    refine GoOn.step (fun t₀ k₀ => XS.iloadN X0.here hx rfl (hb hby d3_7) rfl k₀) ?_
    show GoOn p e below _ (s₁.setTop (mkF m 8 #[.val (.ref a), .val (.int row), .val (.int kind), .val (.int len), .val (.int cnt), .val (.ref qa)] [(.int len), (.int row), (.ref a)]))
    refine GoOn.step (fun t₀ k₀ => XS.sipush X0.here hx rfl (hb hby d3_8) k₀) ?_
    show GoOn p e below _ (s₁.setTop (mkF m 11 #[.val (.ref a), .val (.int row), .val (.int kind), .val (.int len), .val (.int cnt), .val (.ref qa)] [(.int (1023 : Int32)), (.int len), (.int row), (.ref a)]))
    refine GoOn.step (fun t₀ k₀ => XS.iand X0.here hx rfl (hb hby d3_11) rfl k₀) ?_
    show GoOn p e below _ (s₁.setTop (mkF m 12 #[.val (.ref a), .val (.int row), .val (.int kind), .val (.int len), .val (.int cnt), .val (.ref qa)] [(.int (len &&& (1023 : Int32))), (.int row), (.ref a)]))
    obtain ⟨_, T64, L64, X64, hQ64, st64⟩ := kCallV X0 hx hZ (a := a) (argsL := [(.int row), (.int (len &&& (1023 : Int32)))]) (rest := []) (c_row l Z a0 hw a row (len &&& (1023 : Int32)) P h0 n0 Z0 CS ga hrow (by omega)) hown (hw _ (List.mem_of_getElem? (i := 28) rfl)) (hw _ (List.mem_of_getElem? (i := 29) rfl)) (notFace_of_selects (args := #[]) (mvT hZ (hw _ (List.mem_of_getElem? (i := 31) rfl)))) (hw _ (List.mem_of_getElem? (i := 31) rfl)) (hw _ (List.mem_of_getElem? (i := 30) rfl)) (hw _ (List.mem_of_getElem? (i := 4) rfl)) (hw _ (List.mem_of_getElem? (i := 32) rfl)) (by decide) e0 Ea (g := (mkF m 12 #[.val (.ref a), .val (.int row), .val (.int kind), .val (.int len), .val (.int cnt), .val (.ref qa)] [(.int (len &&& (1023 : Int32))), (.int row), (.ref a)])) rfl (by rw [hml]; rfl) (lenOf pd_1 rfl) rfl (W := 0) (by show 2 * 0 + _ ≤ _; exact Nat.le_of_eq rfl) (hb hby d3_12) (by decide) (by decide) (by decide) (by decide)
    obtain ⟨rfl, N64, W64, C64⟩ := hQ64
    replace N0 := Fr.app N0 N64
    refine GoOn.step st64 ?_
    show GoOn p e below _ (T64.setTop (mkF m 15 #[.val (.ref a), .val (.int row), .val (.int kind), .val (.int len), .val (.int cnt), .val (.ref qa)] []))
    refine GoOn.step (fun t₀ k₀ => XS.goto X64.here hx rfl (pc0 := 15) (pc' := 49) rfl (hb hby d3_15) (by decide) (by decide) k₀) ?_
    show GoOn p e below _ (T64.setTop (mkF m 49 #[.val (.ref a), .val (.int row), .val (.int kind), .val (.int len), .val (.int cnt), .val (.ref qa)] []))
    exact GoOn.ret0 X64 hx hrt hlk (hb hby d3_49) (by decide) (by decide) ⟨rfl, N0, W64, by rw [if_pos (Or.inl c1)]; exact C64⟩
  · refine GoOn.step (fun t₀ k₀ => XS.icmpYes X0.here hx rfl (pc0 := 2) (pc' := 18) rfl (hb hby d3_2) rfl (feq c1).2 (by decide) (by decide) k₀) ?_
    show GoOn p e below _ (s₁.setTop (mkF m 18 #[.val (.ref a), .val (.int row), .val (.int kind), .val (.int len), .val (.int cnt), .val (.ref qa)] []))
    refine GoOn.step (fun t₀ k₀ => XS.iloadN X0.here hx rfl (hb hby d3_18) rfl k₀) ?_
    show GoOn p e below _ (s₁.setTop (mkF m 19 #[.val (.ref a), .val (.int row), .val (.int kind), .val (.int len), .val (.int cnt), .val (.ref qa)] [(.int kind)]))
    refine GoOn.step (fun t₀ k₀ => XS.iconst X0.here hx rfl (hb hby d3_19) k₀) ?_
    show GoOn p e below _ (s₁.setTop (mkF m 20 #[.val (.ref a), .val (.int row), .val (.int kind), .val (.int len), .val (.int cnt), .val (.ref qa)] [(.int (2 : Int32)), (.int kind)]))
    by_cases c2 : kind = (2 : Int32)
    · refine GoOn.step (fun t₀ k₀ => XS.icmpNo X0.here hx rfl (hb hby d3_20) rfl (teq c2).2 k₀) ?_
      show GoOn p e below _ (s₁.setTop (mkF m 23 #[.val (.ref a), .val (.int row), .val (.int kind), .val (.int len), .val (.int cnt), .val (.ref qa)] []))
      have m1 : (cnt &&& (7 : Int32)).toInt = cnt.toInt % 8 := c_mask cnt 7 3 (by decide) (by decide)
      refine GoOn.step (fun t₀ k₀ => XS.aloadN X0.here hx rfl (hb hby d3_23) rfl rfl k₀) ?_
      show GoOn p e below _ (s₁.setTop (mkF m 24 #[.val (.ref a), .val (.int row), .val (.int kind), .val (.int len), .val (.int cnt), .val (.ref qa)] [(.ref a)]))
      refine GoOn.step (fun t₀ k₀ => XS.iloadN X0.here hx rfl (hb hby d3_24) rfl k₀) ?_
      show GoOn p e below _ (s₁.setTop (mkF m 25 #[.val (.ref a), .val (.int row), .val (.int kind), .val (.int len), .val (.int cnt), .val (.ref qa)] [(.int row), (.ref a)]))
      refine GoOn.step (fun t₀ k₀ => XS.iload X0.here hx rfl (hb hby d3_25) rfl k₀) ?_
      show GoOn p e below _ (s₁.setTop (mkF m 27 #[.val (.ref a), .val (.int row), .val (.int kind), .val (.int len), .val (.int cnt), .val (.ref qa)] [(.int cnt), (.int row), (.ref a)]))
      refine GoOn.step (fun t₀ k₀ => XS.bipush X0.here hx rfl (hb hby d3_27) k₀) ?_
      show GoOn p e below _ (s₁.setTop (mkF m 29 #[.val (.ref a), .val (.int row), .val (.int kind), .val (.int len), .val (.int cnt), .val (.ref qa)] [(.int (7 : Int32)), (.int cnt), (.int row), (.ref a)]))
      refine GoOn.step (fun t₀ k₀ => XS.iand X0.here hx rfl (hb hby d3_29) rfl k₀) ?_
      show GoOn p e below _ (s₁.setTop (mkF m 30 #[.val (.ref a), .val (.int row), .val (.int kind), .val (.int len), .val (.int cnt), .val (.ref qa)] [(.int (cnt &&& (7 : Int32))), (.int row), (.ref a)]))
      obtain ⟨_, T65, L65, X65, hQ65, st65⟩ := kCallV X0 hx hZ (a := a) (argsL := [(.int row), (.int (cnt &&& (7 : Int32)))]) (rest := []) (c_list l Z a0 hw a row (cnt &&& (7 : Int32)) P h0 n0 Z0 CS ga hrow (by omega)) hown (hw _ (List.mem_of_getElem? (i := 39) rfl)) (hw _ (List.mem_of_getElem? (i := 40) rfl)) (notFace_of_selects (args := #[]) (mvT hZ (hw _ (List.mem_of_getElem? (i := 42) rfl)))) (hw _ (List.mem_of_getElem? (i := 42) rfl)) (hw _ (List.mem_of_getElem? (i := 41) rfl)) (hw _ (List.mem_of_getElem? (i := 4) rfl)) (hw _ (List.mem_of_getElem? (i := 43) rfl)) (by decide) e0 Ea (g := (mkF m 30 #[.val (.ref a), .val (.int row), .val (.int kind), .val (.int len), .val (.int cnt), .val (.ref qa)] [(.int (cnt &&& (7 : Int32))), (.int row), (.ref a)])) rfl (by rw [hml]; rfl) (lenOf pd_2 rfl) rfl (W := 0) (by show 2 * 0 + _ ≤ _; exact Nat.le_of_eq rfl) (hb hby d3_30) (by decide) (by decide) (by decide) (by decide)
      obtain ⟨⟨yy, rfl⟩, N65, W65, C65⟩ := hQ65
      replace N0 := Fr.app N0 N65
      refine GoOn.step st65 ?_
      show GoOn p e below _ (T65.setTop (mkF m 33 #[.val (.ref a), .val (.int row), .val (.int kind), .val (.int len), .val (.int cnt), .val (.ref qa)] [(.ref yy)]))
      refine GoOn.step (fun t₀ k₀ => XS.pop X65.here hx rfl (hb hby d3_33) rfl rfl k₀) ?_
      show GoOn p e below _ (T65.setTop (mkF m 34 #[.val (.ref a), .val (.int row), .val (.int kind), .val (.int len), .val (.int cnt), .val (.ref qa)] []))
      refine GoOn.step (fun t₀ k₀ => XS.goto X65.here hx rfl (pc0 := 34) (pc' := 49) rfl (hb hby d3_34) (by decide) (by decide) k₀) ?_
      show GoOn p e below _ (T65.setTop (mkF m 49 #[.val (.ref a), .val (.int row), .val (.int kind), .val (.int len), .val (.int cnt), .val (.ref qa)] []))
      exact GoOn.ret0 X65 hx hrt hlk (hb hby d3_49) (by decide) (by decide) ⟨rfl, N0, W65, by rw [if_pos (Or.inr (Or.inl c2))]; exact C65⟩
    · refine GoOn.step (fun t₀ k₀ => XS.icmpYes X0.here hx rfl (pc0 := 20) (pc' := 37) rfl (hb hby d3_20) rfl (feq c2).2 (by decide) (by decide) k₀) ?_
      show GoOn p e below _ (s₁.setTop (mkF m 37 #[.val (.ref a), .val (.int row), .val (.int kind), .val (.int len), .val (.int cnt), .val (.ref qa)] []))
      refine GoOn.step (fun t₀ k₀ => XS.iloadN X0.here hx rfl (hb hby d3_37) rfl k₀) ?_
      show GoOn p e below _ (s₁.setTop (mkF m 38 #[.val (.ref a), .val (.int row), .val (.int kind), .val (.int len), .val (.int cnt), .val (.ref qa)] [(.int kind)]))
      refine GoOn.step (fun t₀ k₀ => XS.iconst X0.here hx rfl (hb hby d3_38) k₀) ?_
      show GoOn p e below _ (s₁.setTop (mkF m 39 #[.val (.ref a), .val (.int row), .val (.int kind), .val (.int len), .val (.int cnt), .val (.ref qa)] [(.int (3 : Int32)), (.int kind)]))
      by_cases c3 : kind = (3 : Int32)
      · refine GoOn.step (fun t₀ k₀ => XS.icmpNo X0.here hx rfl (hb hby d3_39) rfl (teq c3).2 k₀) ?_
        show GoOn p e below _ (s₁.setTop (mkF m 42 #[.val (.ref a), .val (.int row), .val (.int kind), .val (.int len), .val (.int cnt), .val (.ref qa)] []))
        refine GoOn.step (fun t₀ k₀ => XS.aloadN X0.here hx rfl (hb hby d3_42) rfl rfl k₀) ?_
        show GoOn p e below _ (s₁.setTop (mkF m 43 #[.val (.ref a), .val (.int row), .val (.int kind), .val (.int len), .val (.int cnt), .val (.ref qa)] [(.ref a)]))
        refine GoOn.step (fun t₀ k₀ => XS.iloadN X0.here hx rfl (hb hby d3_43) rfl k₀) ?_
        show GoOn p e below _ (s₁.setTop (mkF m 44 #[.val (.ref a), .val (.int row), .val (.int kind), .val (.int len), .val (.int cnt), .val (.ref qa)] [(.int row), (.ref a)]))
        refine GoOn.step (fun t₀ k₀ => XS.aload X0.here hx rfl (hb hby d3_44) rfl rfl k₀) ?_
        show GoOn p e below _ (s₁.setTop (mkF m 46 #[.val (.ref a), .val (.int row), .val (.int kind), .val (.int len), .val (.int cnt), .val (.ref qa)] [(.ref qa), (.int row), (.ref a)]))
        obtain ⟨_, T66, L66, X66, hQ66, st66⟩ := kCallV X0 hx hZ (a := a) (argsL := [(.int row), (.ref qa)]) (rest := []) (c_run l Z a0 hw a qa row P h0 n0 Z0 CS ga hrow Eq) hown (hw _ (List.mem_of_getElem? (i := 44) rfl)) (hw _ (List.mem_of_getElem? (i := 45) rfl)) (notFace_of_selects (args := #[]) (mvT hZ (hw _ (List.mem_of_getElem? (i := 47) rfl)))) (hw _ (List.mem_of_getElem? (i := 47) rfl)) (hw _ (List.mem_of_getElem? (i := 46) rfl)) (hw _ (List.mem_of_getElem? (i := 4) rfl)) (hw _ (List.mem_of_getElem? (i := 48) rfl)) (by decide) e0 Ea (g := (mkF m 46 #[.val (.ref a), .val (.int row), .val (.int kind), .val (.int len), .val (.int cnt), .val (.ref qa)] [(.ref qa), (.int row), (.ref a)])) rfl (by rw [hml]; rfl) (lenOf pd_3 rfl) rfl (W := 0) (by show 2 * 0 + _ ≤ _; exact Nat.le_of_eq rfl) (hb hby d3_46) (by decide) (by decide) (by decide) (by decide)
        obtain ⟨rfl, N66, W66, C66⟩ := hQ66
        replace N0 := Fr.app N0 N66
        refine GoOn.step st66 ?_
        show GoOn p e below _ (T66.setTop (mkF m 49 #[.val (.ref a), .val (.int row), .val (.int kind), .val (.int len), .val (.int cnt), .val (.ref qa)] []))
        exact GoOn.ret0 X66 hx hrt hlk (hb hby d3_49) (by decide) (by decide) ⟨rfl, N0, W66, by rw [if_pos (Or.inr (Or.inr c3))]; exact C66⟩
      · refine GoOn.step (fun t₀ k₀ => XS.icmpYes X0.here hx rfl (pc0 := 39) (pc' := 49) rfl (hb hby d3_39) rfl (feq c3).2 (by decide) (by decide) k₀) ?_
        show GoOn p e below _ (s₁.setTop (mkF m 49 #[.val (.ref a), .val (.int row), .val (.int kind), .val (.int len), .val (.int cnt), .val (.ref qa)] []))
        exact GoOn.ret0 X0 hx hrt hlk (hb hby d3_49) (by decide) (by decide) (by first | exact ⟨rfl, N0, ⟨Nat.le_refl _, fun _ _ _ q => q⟩, by rw [if_neg (fun q => q.elim c1 (fun q => q.elim c2 c3))]; exact CS⟩ | (rw [e0]; exact ⟨rfl, N0, ⟨Nat.le_refl _, fun _ _ _ q => q⟩, by rw [if_neg (fun q => q.elim c1 (fun q => q.elim c2 c3))]; exact CS⟩))
theorem ef_c_has (m : MethodId) (x0 : Addr) (x1 : Int32) : entryFrame m #[(.ref x0), (.int x1)] 2 = mkF m 0 #[.val (.ref x0), .val (.int x1)] [] := by first | (simp [entryFrame, mkF, argsToLocals, Value.category]; done) | rfl
set_option maxRecDepth 65536 in
set_option maxHeartbeats 40000000 in
theorem c_has (l : Launch) (Z : State) (a0 : Array Value) (hw : ∀ d ∈ tables_1, d.before a0 Z = true) (a : Addr) (row : Int32) (P : Nat → Prop) [DecidablePred P] (h0 : Heap) (CS : CBs Z h0 a P) (hrow : 0 ≤ row.toInt ∧ row.toInt < (3 : Nat)) :
    Con l Z (⟨"com/example/treesack/treesack/core/ChoiceBits", "hasRow", "(I)Z"⟩ : MethodName) prog_24_method_6_code 2 (some .boolean) ({ frames := 0, cells := 0, slots := 0, locals := 0 } : Room) #[(.ref a), (.int row)] h0 (PQ (some (.int (if P row.toNatClampNeg then (1 : Int32) else 0))) h0) := by
  refine Con.intro (plainFor_of_name pn_0) ?_
  intro p e s m below meth c s₁ hx hby hml hrt hlk hZ hown hnm X0 e0
  replace hown : s.vm.findClass "com/example/treesack/treesack/core/ChoiceBits" = some m.cls := hown
  refine GoOn.cast (ef_c_has m a row) ?_
  show GoOn p e below _ (s₁.setTop (mkF m 0 #[.val (.ref a), .val (.int row)] []))
  obtain ⟨ra, fr, fl, fu, lv, uv, Ex, Fr_, Fl_, Fu_, Jr, OL, OU, gr, ir, il, iu, HP⟩ := CS
  have HQ := HP row.toNatClampNeg (natJ hrow)
  rcases OL with hl | ⟨la, hl, Jl, -⟩
  · rcases OU with hu | ⟨ua, hu, Ju, -⟩
    · subst hl hu
      refine GoOn.step (fun t₀ k₀ => XS.aloadN X0.here hx rfl (hb hby d4_0) rfl rfl k₀) ?_
      show GoOn p e below _ (s₁.setTop (mkF m 1 #[.val (.ref a), .val (.int row)] [(.ref a)]))
      obtain ⟨T67, X67, e67, st67⟩ := getF X0 hx hZ hown (host := "") (Or.inl (hw _ (List.mem_of_getElem? (i := 13) rfl))) Via.refl e0 Fr_ (g := (mkF m 1 #[.val (.ref a), .val (.int row)] [(.ref a)])) rfl rfl (hb hby d4_1)
      refine GoOn.step st67 ?_
      show GoOn p e below _ (T67.setTop (mkF m 4 #[.val (.ref a), .val (.int row)] [(.ref ra)]))
      refine GoOn.step (fun t₀ k₀ => XS.iloadN X67.here hx rfl (hb hby d4_4) rfl k₀) ?_
      show GoOn p e below _ (T67.setTop (mkF m 5 #[.val (.ref a), .val (.int row)] [(.int row), (.ref ra)]))
      refine GoOn.step (fun t₀ k₀ => kLdA X67 hx hZ e67 Jr.jar rfl (j := row) (v := (fr row.toNatClampNeg)) hrow rfl (g := (mkF m 5 #[.val (.ref a), .val (.int row)] [(.int row), (.ref ra)])) rfl rfl (hb hby d4_5) t₀ k₀) ?_
      show GoOn p e below _ (T67.setTop (mkF m 6 #[.val (.ref a), .val (.int row)] [(fr row.toNatClampNeg)]))
      rcases ref_cases (ir row.toNatClampNeg) with hv68 | ⟨y68, hv68⟩
      · rw [hv68]
        show GoOn p e below _ (T67.setTop (mkF m 6 #[.val (.ref a), .val (.int row)] [.null]))
        refine GoOn.step (fun t₀ k₀ => XS.ifnonnullNo X67.here hx rfl (hb hby d4_6) rfl k₀) ?_
        show GoOn p e below _ (T67.setTop (mkF m 9 #[.val (.ref a), .val (.int row)] []))
        refine GoOn.step (fun t₀ k₀ => XS.aloadN X67.here hx rfl (hb hby d4_9) rfl rfl k₀) ?_
        show GoOn p e below _ (T67.setTop (mkF m 10 #[.val (.ref a), .val (.int row)] [(.ref a)]))
        obtain ⟨T69, X69, e69, st69⟩ := getF X67 hx hZ hown (host := "") (Or.inl (hw _ (List.mem_of_getElem? (i := 24) rfl))) Via.refl e67 Fl_ (g := (mkF m 10 #[.val (.ref a), .val (.int row)] [(.ref a)])) rfl rfl (hb hby d4_10)
        refine GoOn.step st69 ?_
        show GoOn p e below _ (T69.setTop (mkF m 13 #[.val (.ref a), .val (.int row)] [.null]))
        refine GoOn.step (fun t₀ k₀ => XS.ifnullYes X69.here hx rfl (pc0 := 13) (pc' := 25) rfl (hb hby d4_13) rfl (by decide) (by decide) k₀) ?_
        show GoOn p e below _ (T69.setTop (mkF m 25 #[.val (.ref a), .val (.int row)] []))
        refine GoOn.step (fun t₀ k₀ => XS.aloadN X69.here hx rfl (hb hby d4_25) rfl rfl k₀) ?_
        show GoOn p e below _ (T69.setTop (mkF m 26 #[.val (.ref a), .val (.int row)] [(.ref a)]))
        obtain ⟨T70, X70, e70, st70⟩ := getF X69 hx hZ hown (host := "") (Or.inl (hw _ (List.mem_of_getElem? (i := 26) rfl))) Via.refl e69 Fu_ (g := (mkF m 26 #[.val (.ref a), .val (.int row)] [(.ref a)])) rfl rfl (hb hby d4_26)
        refine GoOn.step st70 ?_
        show GoOn p e below _ (T70.setTop (mkF m 29 #[.val (.ref a), .val (.int row)] [.null]))
        refine GoOn.step (fun t₀ k₀ => XS.ifnullYes X70.here hx rfl (pc0 := 29) (pc' := 45) rfl (hb hby d4_29) rfl (by decide) (by decide) k₀) ?_
        show GoOn p e below _ (T70.setTop (mkF m 45 #[.val (.ref a), .val (.int row)] []))
        refine GoOn.step (fun t₀ k₀ => XS.iconst X70.here hx rfl (hb hby d4_45) k₀) ?_
        show GoOn p e below _ (T70.setTop (mkF m 46 #[.val (.ref a), .val (.int row)] [(.int (0 : Int32))]))
        exact GoOn.retN X70 hx hrt hlk (by simp) (hb hby d4_46) (by decide) (by decide) (by first | exact ⟨by rw [if_neg (mt HQ.mp (by simp [hv68]))]; rfl, rfl, rfl⟩ | (rw [e70]; exact ⟨by rw [if_neg (mt HQ.mp (by simp [hv68]))]; rfl, rfl, rfl⟩))
      · rw [hv68]
        show GoOn p e below _ (T67.setTop (mkF m 6 #[.val (.ref a), .val (.int row)] [(.ref y68)]))
        refine GoOn.step (fun t₀ k₀ => XS.ifnonnullYes X67.here hx rfl (pc0 := 6) (pc' := 41) rfl (hb hby d4_6) rfl (by decide) (by decide) k₀) ?_
        show GoOn p e below _ (T67.setTop (mkF m 41 #[.val (.ref a), .val (.int row)] []))
        refine GoOn.step (fun t₀ k₀ => XS.iconst X67.here hx rfl (hb hby d4_41) k₀) ?_
        show GoOn p e below _ (T67.setTop (mkF m 42 #[.val (.ref a), .val (.int row)] [(.int (1 : Int32))]))
        refine GoOn.step (fun t₀ k₀ => XS.goto X67.here hx rfl (pc0 := 42) (pc' := 46) rfl (hb hby d4_42) (by decide) (by decide) k₀) ?_
        show GoOn p e below _ (T67.setTop (mkF m 46 #[.val (.ref a), .val (.int row)] [(.int (1 : Int32))]))
        exact GoOn.retN X67 hx hrt hlk (by simp) (hb hby d4_46) (by decide) (by decide) (by first | exact ⟨by rw [if_pos (HQ.mpr (by simp [hv68]))]; rfl, rfl, rfl⟩ | (rw [e67]; exact ⟨by rw [if_pos (HQ.mpr (by simp [hv68]))]; rfl, rfl, rfl⟩))
    · subst hl hu
      refine GoOn.step (fun t₀ k₀ => XS.aloadN X0.here hx rfl (hb hby d4_0) rfl rfl k₀) ?_
      show GoOn p e below _ (s₁.setTop (mkF m 1 #[.val (.ref a), .val (.int row)] [(.ref a)]))
      obtain ⟨T71, X71, e71, st71⟩ := getF X0 hx hZ hown (host := "") (Or.inl (hw _ (List.mem_of_getElem? (i := 13) rfl))) Via.refl e0 Fr_ (g := (mkF m 1 #[.val (.ref a), .val (.int row)] [(.ref a)])) rfl rfl (hb hby d4_1)
      refine GoOn.step st71 ?_
      show GoOn p e below _ (T71.setTop (mkF m 4 #[.val (.ref a), .val (.int row)] [(.ref ra)]))
      refine GoOn.step (fun t₀ k₀ => XS.iloadN X71.here hx rfl (hb hby d4_4) rfl k₀) ?_
      show GoOn p e below _ (T71.setTop (mkF m 5 #[.val (.ref a), .val (.int row)] [(.int row), (.ref ra)]))
      refine GoOn.step (fun t₀ k₀ => kLdA X71 hx hZ e71 Jr.jar rfl (j := row) (v := (fr row.toNatClampNeg)) hrow rfl (g := (mkF m 5 #[.val (.ref a), .val (.int row)] [(.int row), (.ref ra)])) rfl rfl (hb hby d4_5) t₀ k₀) ?_
      show GoOn p e below _ (T71.setTop (mkF m 6 #[.val (.ref a), .val (.int row)] [(fr row.toNatClampNeg)]))
      rcases ref_cases (ir row.toNatClampNeg) with hv72 | ⟨y72, hv72⟩
      · rw [hv72]
        show GoOn p e below _ (T71.setTop (mkF m 6 #[.val (.ref a), .val (.int row)] [.null]))
        refine GoOn.step (fun t₀ k₀ => XS.ifnonnullNo X71.here hx rfl (hb hby d4_6) rfl k₀) ?_
        show GoOn p e below _ (T71.setTop (mkF m 9 #[.val (.ref a), .val (.int row)] []))
        refine GoOn.step (fun t₀ k₀ => XS.aloadN X71.here hx rfl (hb hby d4_9) rfl rfl k₀) ?_
        show GoOn p e below _ (T71.setTop (mkF m 10 #[.val (.ref a), .val (.int row)] [(.ref a)]))
        obtain ⟨T73, X73, e73, st73⟩ := getF X71 hx hZ hown (host := "") (Or.inl (hw _ (List.mem_of_getElem? (i := 24) rfl))) Via.refl e71 Fl_ (g := (mkF m 10 #[.val (.ref a), .val (.int row)] [(.ref a)])) rfl rfl (hb hby d4_10)
        refine GoOn.step st73 ?_
        show GoOn p e below _ (T73.setTop (mkF m 13 #[.val (.ref a), .val (.int row)] [.null]))
        refine GoOn.step (fun t₀ k₀ => XS.ifnullYes X73.here hx rfl (pc0 := 13) (pc' := 25) rfl (hb hby d4_13) rfl (by decide) (by decide) k₀) ?_
        show GoOn p e below _ (T73.setTop (mkF m 25 #[.val (.ref a), .val (.int row)] []))
        refine GoOn.step (fun t₀ k₀ => XS.aloadN X73.here hx rfl (hb hby d4_25) rfl rfl k₀) ?_
        show GoOn p e below _ (T73.setTop (mkF m 26 #[.val (.ref a), .val (.int row)] [(.ref a)]))
        obtain ⟨T74, X74, e74, st74⟩ := getF X73 hx hZ hown (host := "") (Or.inl (hw _ (List.mem_of_getElem? (i := 26) rfl))) Via.refl e73 Fu_ (g := (mkF m 26 #[.val (.ref a), .val (.int row)] [(.ref a)])) rfl rfl (hb hby d4_26)
        refine GoOn.step st74 ?_
        show GoOn p e below _ (T74.setTop (mkF m 29 #[.val (.ref a), .val (.int row)] [(.ref ua)]))
        refine GoOn.step (fun t₀ k₀ => XS.ifnullNo X74.here hx rfl (hb hby d4_29) rfl k₀) ?_
        show GoOn p e below _ (T74.setTop (mkF m 32 #[.val (.ref a), .val (.int row)] []))
        refine GoOn.step (fun t₀ k₀ => XS.aloadN X74.here hx rfl (hb hby d4_32) rfl rfl k₀) ?_
        show GoOn p e below _ (T74.setTop (mkF m 33 #[.val (.ref a), .val (.int row)] [(.ref a)]))
        obtain ⟨T75, X75, e75, st75⟩ := getF X74 hx hZ hown (host := "") (Or.inl (hw _ (List.mem_of_getElem? (i := 26) rfl))) Via.refl e74 Fu_ (g := (mkF m 33 #[.val (.ref a), .val (.int row)] [(.ref a)])) rfl rfl (hb hby d4_33)
        refine GoOn.step st75 ?_
        show GoOn p e below _ (T75.setTop (mkF m 36 #[.val (.ref a), .val (.int row)] [(.ref ua)]))
        refine GoOn.step (fun t₀ k₀ => XS.iloadN X75.here hx rfl (hb hby d4_36) rfl k₀) ?_
        show GoOn p e below _ (T75.setTop (mkF m 37 #[.val (.ref a), .val (.int row)] [(.int row), (.ref ua)]))
        refine GoOn.step (fun t₀ k₀ => kLdA X75 hx hZ e75 Ju.jar rfl (j := row) (v := (fu row.toNatClampNeg)) hrow rfl (g := (mkF m 37 #[.val (.ref a), .val (.int row)] [(.int row), (.ref ua)])) rfl rfl (hb hby d4_37) t₀ k₀) ?_
        show GoOn p e below _ (T75.setTop (mkF m 38 #[.val (.ref a), .val (.int row)] [(fu row.toNatClampNeg)]))
        rcases ref_cases (iu row.toNatClampNeg) with hv76 | ⟨y76, hv76⟩
        · rw [hv76]
          show GoOn p e below _ (T75.setTop (mkF m 38 #[.val (.ref a), .val (.int row)] [.null]))
          refine GoOn.step (fun t₀ k₀ => XS.ifnullYes X75.here hx rfl (pc0 := 38) (pc' := 45) rfl (hb hby d4_38) rfl (by decide) (by decide) k₀) ?_
          show GoOn p e below _ (T75.setTop (mkF m 45 #[.val (.ref a), .val (.int row)] []))
          refine GoOn.step (fun t₀ k₀ => XS.iconst X75.here hx rfl (hb hby d4_45) k₀) ?_
          show GoOn p e below _ (T75.setTop (mkF m 46 #[.val (.ref a), .val (.int row)] [(.int (0 : Int32))]))
          exact GoOn.retN X75 hx hrt hlk (by simp) (hb hby d4_46) (by decide) (by decide) (by first | exact ⟨by rw [if_neg (mt HQ.mp (by simp [hv72, hv76]))]; rfl, rfl, rfl⟩ | (rw [e75]; exact ⟨by rw [if_neg (mt HQ.mp (by simp [hv72, hv76]))]; rfl, rfl, rfl⟩))
        · rw [hv76]
          show GoOn p e below _ (T75.setTop (mkF m 38 #[.val (.ref a), .val (.int row)] [(.ref y76)]))
          refine GoOn.step (fun t₀ k₀ => XS.ifnullNo X75.here hx rfl (hb hby d4_38) rfl k₀) ?_
          show GoOn p e below _ (T75.setTop (mkF m 41 #[.val (.ref a), .val (.int row)] []))
          refine GoOn.step (fun t₀ k₀ => XS.iconst X75.here hx rfl (hb hby d4_41) k₀) ?_
          show GoOn p e below _ (T75.setTop (mkF m 42 #[.val (.ref a), .val (.int row)] [(.int (1 : Int32))]))
          refine GoOn.step (fun t₀ k₀ => XS.goto X75.here hx rfl (pc0 := 42) (pc' := 46) rfl (hb hby d4_42) (by decide) (by decide) k₀) ?_
          show GoOn p e below _ (T75.setTop (mkF m 46 #[.val (.ref a), .val (.int row)] [(.int (1 : Int32))]))
          exact GoOn.retN X75 hx hrt hlk (by simp) (hb hby d4_46) (by decide) (by decide) (by first | exact ⟨by rw [if_pos (HQ.mpr (by simp [hv72, hv76]))]; rfl, rfl, rfl⟩ | (rw [e75]; exact ⟨by rw [if_pos (HQ.mpr (by simp [hv72, hv76]))]; rfl, rfl, rfl⟩))
      · rw [hv72]
        show GoOn p e below _ (T71.setTop (mkF m 6 #[.val (.ref a), .val (.int row)] [(.ref y72)]))
        refine GoOn.step (fun t₀ k₀ => XS.ifnonnullYes X71.here hx rfl (pc0 := 6) (pc' := 41) rfl (hb hby d4_6) rfl (by decide) (by decide) k₀) ?_
        show GoOn p e below _ (T71.setTop (mkF m 41 #[.val (.ref a), .val (.int row)] []))
        refine GoOn.step (fun t₀ k₀ => XS.iconst X71.here hx rfl (hb hby d4_41) k₀) ?_
        show GoOn p e below _ (T71.setTop (mkF m 42 #[.val (.ref a), .val (.int row)] [(.int (1 : Int32))]))
        refine GoOn.step (fun t₀ k₀ => XS.goto X71.here hx rfl (pc0 := 42) (pc' := 46) rfl (hb hby d4_42) (by decide) (by decide) k₀) ?_
        show GoOn p e below _ (T71.setTop (mkF m 46 #[.val (.ref a), .val (.int row)] [(.int (1 : Int32))]))
        exact GoOn.retN X71 hx hrt hlk (by simp) (hb hby d4_46) (by decide) (by decide) (by first | exact ⟨by rw [if_pos (HQ.mpr (by simp [hv72]))]; rfl, rfl, rfl⟩ | (rw [e71]; exact ⟨by rw [if_pos (HQ.mpr (by simp [hv72]))]; rfl, rfl, rfl⟩))
  · rcases OU with hu | ⟨ua, hu, Ju, -⟩
    · subst hl hu
      refine GoOn.step (fun t₀ k₀ => XS.aloadN X0.here hx rfl (hb hby d4_0) rfl rfl k₀) ?_
      show GoOn p e below _ (s₁.setTop (mkF m 1 #[.val (.ref a), .val (.int row)] [(.ref a)]))
      obtain ⟨T77, X77, e77, st77⟩ := getF X0 hx hZ hown (host := "") (Or.inl (hw _ (List.mem_of_getElem? (i := 13) rfl))) Via.refl e0 Fr_ (g := (mkF m 1 #[.val (.ref a), .val (.int row)] [(.ref a)])) rfl rfl (hb hby d4_1)
      refine GoOn.step st77 ?_
      show GoOn p e below _ (T77.setTop (mkF m 4 #[.val (.ref a), .val (.int row)] [(.ref ra)]))
      refine GoOn.step (fun t₀ k₀ => XS.iloadN X77.here hx rfl (hb hby d4_4) rfl k₀) ?_
      show GoOn p e below _ (T77.setTop (mkF m 5 #[.val (.ref a), .val (.int row)] [(.int row), (.ref ra)]))
      refine GoOn.step (fun t₀ k₀ => kLdA X77 hx hZ e77 Jr.jar rfl (j := row) (v := (fr row.toNatClampNeg)) hrow rfl (g := (mkF m 5 #[.val (.ref a), .val (.int row)] [(.int row), (.ref ra)])) rfl rfl (hb hby d4_5) t₀ k₀) ?_
      show GoOn p e below _ (T77.setTop (mkF m 6 #[.val (.ref a), .val (.int row)] [(fr row.toNatClampNeg)]))
      rcases ref_cases (ir row.toNatClampNeg) with hv78 | ⟨y78, hv78⟩
      · rw [hv78]
        show GoOn p e below _ (T77.setTop (mkF m 6 #[.val (.ref a), .val (.int row)] [.null]))
        refine GoOn.step (fun t₀ k₀ => XS.ifnonnullNo X77.here hx rfl (hb hby d4_6) rfl k₀) ?_
        show GoOn p e below _ (T77.setTop (mkF m 9 #[.val (.ref a), .val (.int row)] []))
        refine GoOn.step (fun t₀ k₀ => XS.aloadN X77.here hx rfl (hb hby d4_9) rfl rfl k₀) ?_
        show GoOn p e below _ (T77.setTop (mkF m 10 #[.val (.ref a), .val (.int row)] [(.ref a)]))
        obtain ⟨T79, X79, e79, st79⟩ := getF X77 hx hZ hown (host := "") (Or.inl (hw _ (List.mem_of_getElem? (i := 24) rfl))) Via.refl e77 Fl_ (g := (mkF m 10 #[.val (.ref a), .val (.int row)] [(.ref a)])) rfl rfl (hb hby d4_10)
        refine GoOn.step st79 ?_
        show GoOn p e below _ (T79.setTop (mkF m 13 #[.val (.ref a), .val (.int row)] [(.ref la)]))
        refine GoOn.step (fun t₀ k₀ => XS.ifnullNo X79.here hx rfl (hb hby d4_13) rfl k₀) ?_
        show GoOn p e below _ (T79.setTop (mkF m 16 #[.val (.ref a), .val (.int row)] []))
        refine GoOn.step (fun t₀ k₀ => XS.aloadN X79.here hx rfl (hb hby d4_16) rfl rfl k₀) ?_
        show GoOn p e below _ (T79.setTop (mkF m 17 #[.val (.ref a), .val (.int row)] [(.ref a)]))
        obtain ⟨T80, X80, e80, st80⟩ := getF X79 hx hZ hown (host := "") (Or.inl (hw _ (List.mem_of_getElem? (i := 24) rfl))) Via.refl e79 Fl_ (g := (mkF m 17 #[.val (.ref a), .val (.int row)] [(.ref a)])) rfl rfl (hb hby d4_17)
        refine GoOn.step st80 ?_
        show GoOn p e below _ (T80.setTop (mkF m 20 #[.val (.ref a), .val (.int row)] [(.ref la)]))
        refine GoOn.step (fun t₀ k₀ => XS.iloadN X80.here hx rfl (hb hby d4_20) rfl k₀) ?_
        show GoOn p e below _ (T80.setTop (mkF m 21 #[.val (.ref a), .val (.int row)] [(.int row), (.ref la)]))
        refine GoOn.step (fun t₀ k₀ => kLdA X80 hx hZ e80 Jl.jar rfl (j := row) (v := (fl row.toNatClampNeg)) hrow rfl (g := (mkF m 21 #[.val (.ref a), .val (.int row)] [(.int row), (.ref la)])) rfl rfl (hb hby d4_21) t₀ k₀) ?_
        show GoOn p e below _ (T80.setTop (mkF m 22 #[.val (.ref a), .val (.int row)] [(fl row.toNatClampNeg)]))
        rcases ref_cases (il row.toNatClampNeg) with hv81 | ⟨y81, hv81⟩
        · rw [hv81]
          show GoOn p e below _ (T80.setTop (mkF m 22 #[.val (.ref a), .val (.int row)] [.null]))
          refine GoOn.step (fun t₀ k₀ => XS.ifnonnullNo X80.here hx rfl (hb hby d4_22) rfl k₀) ?_
          show GoOn p e below _ (T80.setTop (mkF m 25 #[.val (.ref a), .val (.int row)] []))
          refine GoOn.step (fun t₀ k₀ => XS.aloadN X80.here hx rfl (hb hby d4_25) rfl rfl k₀) ?_
          show GoOn p e below _ (T80.setTop (mkF m 26 #[.val (.ref a), .val (.int row)] [(.ref a)]))
          obtain ⟨T82, X82, e82, st82⟩ := getF X80 hx hZ hown (host := "") (Or.inl (hw _ (List.mem_of_getElem? (i := 26) rfl))) Via.refl e80 Fu_ (g := (mkF m 26 #[.val (.ref a), .val (.int row)] [(.ref a)])) rfl rfl (hb hby d4_26)
          refine GoOn.step st82 ?_
          show GoOn p e below _ (T82.setTop (mkF m 29 #[.val (.ref a), .val (.int row)] [.null]))
          refine GoOn.step (fun t₀ k₀ => XS.ifnullYes X82.here hx rfl (pc0 := 29) (pc' := 45) rfl (hb hby d4_29) rfl (by decide) (by decide) k₀) ?_
          show GoOn p e below _ (T82.setTop (mkF m 45 #[.val (.ref a), .val (.int row)] []))
          refine GoOn.step (fun t₀ k₀ => XS.iconst X82.here hx rfl (hb hby d4_45) k₀) ?_
          show GoOn p e below _ (T82.setTop (mkF m 46 #[.val (.ref a), .val (.int row)] [(.int (0 : Int32))]))
          exact GoOn.retN X82 hx hrt hlk (by simp) (hb hby d4_46) (by decide) (by decide) (by first | exact ⟨by rw [if_neg (mt HQ.mp (by simp [hv78, hv81]))]; rfl, rfl, rfl⟩ | (rw [e82]; exact ⟨by rw [if_neg (mt HQ.mp (by simp [hv78, hv81]))]; rfl, rfl, rfl⟩))
        · rw [hv81]
          show GoOn p e below _ (T80.setTop (mkF m 22 #[.val (.ref a), .val (.int row)] [(.ref y81)]))
          refine GoOn.step (fun t₀ k₀ => XS.ifnonnullYes X80.here hx rfl (pc0 := 22) (pc' := 41) rfl (hb hby d4_22) rfl (by decide) (by decide) k₀) ?_
          show GoOn p e below _ (T80.setTop (mkF m 41 #[.val (.ref a), .val (.int row)] []))
          refine GoOn.step (fun t₀ k₀ => XS.iconst X80.here hx rfl (hb hby d4_41) k₀) ?_
          show GoOn p e below _ (T80.setTop (mkF m 42 #[.val (.ref a), .val (.int row)] [(.int (1 : Int32))]))
          refine GoOn.step (fun t₀ k₀ => XS.goto X80.here hx rfl (pc0 := 42) (pc' := 46) rfl (hb hby d4_42) (by decide) (by decide) k₀) ?_
          show GoOn p e below _ (T80.setTop (mkF m 46 #[.val (.ref a), .val (.int row)] [(.int (1 : Int32))]))
          exact GoOn.retN X80 hx hrt hlk (by simp) (hb hby d4_46) (by decide) (by decide) (by first | exact ⟨by rw [if_pos (HQ.mpr (by simp [hv78, hv81]))]; rfl, rfl, rfl⟩ | (rw [e80]; exact ⟨by rw [if_pos (HQ.mpr (by simp [hv78, hv81]))]; rfl, rfl, rfl⟩))
      · rw [hv78]
        show GoOn p e below _ (T77.setTop (mkF m 6 #[.val (.ref a), .val (.int row)] [(.ref y78)]))
        refine GoOn.step (fun t₀ k₀ => XS.ifnonnullYes X77.here hx rfl (pc0 := 6) (pc' := 41) rfl (hb hby d4_6) rfl (by decide) (by decide) k₀) ?_
        show GoOn p e below _ (T77.setTop (mkF m 41 #[.val (.ref a), .val (.int row)] []))
        refine GoOn.step (fun t₀ k₀ => XS.iconst X77.here hx rfl (hb hby d4_41) k₀) ?_
        show GoOn p e below _ (T77.setTop (mkF m 42 #[.val (.ref a), .val (.int row)] [(.int (1 : Int32))]))
        refine GoOn.step (fun t₀ k₀ => XS.goto X77.here hx rfl (pc0 := 42) (pc' := 46) rfl (hb hby d4_42) (by decide) (by decide) k₀) ?_
        show GoOn p e below _ (T77.setTop (mkF m 46 #[.val (.ref a), .val (.int row)] [(.int (1 : Int32))]))
        exact GoOn.retN X77 hx hrt hlk (by simp) (hb hby d4_46) (by decide) (by decide) (by first | exact ⟨by rw [if_pos (HQ.mpr (by simp [hv78]))]; rfl, rfl, rfl⟩ | (rw [e77]; exact ⟨by rw [if_pos (HQ.mpr (by simp [hv78]))]; rfl, rfl, rfl⟩))
    · subst hl hu
      refine GoOn.step (fun t₀ k₀ => XS.aloadN X0.here hx rfl (hb hby d4_0) rfl rfl k₀) ?_
      show GoOn p e below _ (s₁.setTop (mkF m 1 #[.val (.ref a), .val (.int row)] [(.ref a)]))
      obtain ⟨T83, X83, e83, st83⟩ := getF X0 hx hZ hown (host := "") (Or.inl (hw _ (List.mem_of_getElem? (i := 13) rfl))) Via.refl e0 Fr_ (g := (mkF m 1 #[.val (.ref a), .val (.int row)] [(.ref a)])) rfl rfl (hb hby d4_1)
      refine GoOn.step st83 ?_
      show GoOn p e below _ (T83.setTop (mkF m 4 #[.val (.ref a), .val (.int row)] [(.ref ra)]))
      refine GoOn.step (fun t₀ k₀ => XS.iloadN X83.here hx rfl (hb hby d4_4) rfl k₀) ?_
      show GoOn p e below _ (T83.setTop (mkF m 5 #[.val (.ref a), .val (.int row)] [(.int row), (.ref ra)]))
      refine GoOn.step (fun t₀ k₀ => kLdA X83 hx hZ e83 Jr.jar rfl (j := row) (v := (fr row.toNatClampNeg)) hrow rfl (g := (mkF m 5 #[.val (.ref a), .val (.int row)] [(.int row), (.ref ra)])) rfl rfl (hb hby d4_5) t₀ k₀) ?_
      show GoOn p e below _ (T83.setTop (mkF m 6 #[.val (.ref a), .val (.int row)] [(fr row.toNatClampNeg)]))
      rcases ref_cases (ir row.toNatClampNeg) with hv84 | ⟨y84, hv84⟩
      · rw [hv84]
        show GoOn p e below _ (T83.setTop (mkF m 6 #[.val (.ref a), .val (.int row)] [.null]))
        refine GoOn.step (fun t₀ k₀ => XS.ifnonnullNo X83.here hx rfl (hb hby d4_6) rfl k₀) ?_
        show GoOn p e below _ (T83.setTop (mkF m 9 #[.val (.ref a), .val (.int row)] []))
        refine GoOn.step (fun t₀ k₀ => XS.aloadN X83.here hx rfl (hb hby d4_9) rfl rfl k₀) ?_
        show GoOn p e below _ (T83.setTop (mkF m 10 #[.val (.ref a), .val (.int row)] [(.ref a)]))
        obtain ⟨T85, X85, e85, st85⟩ := getF X83 hx hZ hown (host := "") (Or.inl (hw _ (List.mem_of_getElem? (i := 24) rfl))) Via.refl e83 Fl_ (g := (mkF m 10 #[.val (.ref a), .val (.int row)] [(.ref a)])) rfl rfl (hb hby d4_10)
        refine GoOn.step st85 ?_
        show GoOn p e below _ (T85.setTop (mkF m 13 #[.val (.ref a), .val (.int row)] [(.ref la)]))
        refine GoOn.step (fun t₀ k₀ => XS.ifnullNo X85.here hx rfl (hb hby d4_13) rfl k₀) ?_
        show GoOn p e below _ (T85.setTop (mkF m 16 #[.val (.ref a), .val (.int row)] []))
        refine GoOn.step (fun t₀ k₀ => XS.aloadN X85.here hx rfl (hb hby d4_16) rfl rfl k₀) ?_
        show GoOn p e below _ (T85.setTop (mkF m 17 #[.val (.ref a), .val (.int row)] [(.ref a)]))
        obtain ⟨T86, X86, e86, st86⟩ := getF X85 hx hZ hown (host := "") (Or.inl (hw _ (List.mem_of_getElem? (i := 24) rfl))) Via.refl e85 Fl_ (g := (mkF m 17 #[.val (.ref a), .val (.int row)] [(.ref a)])) rfl rfl (hb hby d4_17)
        refine GoOn.step st86 ?_
        show GoOn p e below _ (T86.setTop (mkF m 20 #[.val (.ref a), .val (.int row)] [(.ref la)]))
        refine GoOn.step (fun t₀ k₀ => XS.iloadN X86.here hx rfl (hb hby d4_20) rfl k₀) ?_
        show GoOn p e below _ (T86.setTop (mkF m 21 #[.val (.ref a), .val (.int row)] [(.int row), (.ref la)]))
        refine GoOn.step (fun t₀ k₀ => kLdA X86 hx hZ e86 Jl.jar rfl (j := row) (v := (fl row.toNatClampNeg)) hrow rfl (g := (mkF m 21 #[.val (.ref a), .val (.int row)] [(.int row), (.ref la)])) rfl rfl (hb hby d4_21) t₀ k₀) ?_
        show GoOn p e below _ (T86.setTop (mkF m 22 #[.val (.ref a), .val (.int row)] [(fl row.toNatClampNeg)]))
        rcases ref_cases (il row.toNatClampNeg) with hv87 | ⟨y87, hv87⟩
        · rw [hv87]
          show GoOn p e below _ (T86.setTop (mkF m 22 #[.val (.ref a), .val (.int row)] [.null]))
          refine GoOn.step (fun t₀ k₀ => XS.ifnonnullNo X86.here hx rfl (hb hby d4_22) rfl k₀) ?_
          show GoOn p e below _ (T86.setTop (mkF m 25 #[.val (.ref a), .val (.int row)] []))
          refine GoOn.step (fun t₀ k₀ => XS.aloadN X86.here hx rfl (hb hby d4_25) rfl rfl k₀) ?_
          show GoOn p e below _ (T86.setTop (mkF m 26 #[.val (.ref a), .val (.int row)] [(.ref a)]))
          obtain ⟨T88, X88, e88, st88⟩ := getF X86 hx hZ hown (host := "") (Or.inl (hw _ (List.mem_of_getElem? (i := 26) rfl))) Via.refl e86 Fu_ (g := (mkF m 26 #[.val (.ref a), .val (.int row)] [(.ref a)])) rfl rfl (hb hby d4_26)
          refine GoOn.step st88 ?_
          show GoOn p e below _ (T88.setTop (mkF m 29 #[.val (.ref a), .val (.int row)] [(.ref ua)]))
          refine GoOn.step (fun t₀ k₀ => XS.ifnullNo X88.here hx rfl (hb hby d4_29) rfl k₀) ?_
          show GoOn p e below _ (T88.setTop (mkF m 32 #[.val (.ref a), .val (.int row)] []))
          refine GoOn.step (fun t₀ k₀ => XS.aloadN X88.here hx rfl (hb hby d4_32) rfl rfl k₀) ?_
          show GoOn p e below _ (T88.setTop (mkF m 33 #[.val (.ref a), .val (.int row)] [(.ref a)]))
          obtain ⟨T89, X89, e89, st89⟩ := getF X88 hx hZ hown (host := "") (Or.inl (hw _ (List.mem_of_getElem? (i := 26) rfl))) Via.refl e88 Fu_ (g := (mkF m 33 #[.val (.ref a), .val (.int row)] [(.ref a)])) rfl rfl (hb hby d4_33)
          refine GoOn.step st89 ?_
          show GoOn p e below _ (T89.setTop (mkF m 36 #[.val (.ref a), .val (.int row)] [(.ref ua)]))
          refine GoOn.step (fun t₀ k₀ => XS.iloadN X89.here hx rfl (hb hby d4_36) rfl k₀) ?_
          show GoOn p e below _ (T89.setTop (mkF m 37 #[.val (.ref a), .val (.int row)] [(.int row), (.ref ua)]))
          refine GoOn.step (fun t₀ k₀ => kLdA X89 hx hZ e89 Ju.jar rfl (j := row) (v := (fu row.toNatClampNeg)) hrow rfl (g := (mkF m 37 #[.val (.ref a), .val (.int row)] [(.int row), (.ref ua)])) rfl rfl (hb hby d4_37) t₀ k₀) ?_
          show GoOn p e below _ (T89.setTop (mkF m 38 #[.val (.ref a), .val (.int row)] [(fu row.toNatClampNeg)]))
          rcases ref_cases (iu row.toNatClampNeg) with hv90 | ⟨y90, hv90⟩
          · rw [hv90]
            show GoOn p e below _ (T89.setTop (mkF m 38 #[.val (.ref a), .val (.int row)] [.null]))
            refine GoOn.step (fun t₀ k₀ => XS.ifnullYes X89.here hx rfl (pc0 := 38) (pc' := 45) rfl (hb hby d4_38) rfl (by decide) (by decide) k₀) ?_
            show GoOn p e below _ (T89.setTop (mkF m 45 #[.val (.ref a), .val (.int row)] []))
            refine GoOn.step (fun t₀ k₀ => XS.iconst X89.here hx rfl (hb hby d4_45) k₀) ?_
            show GoOn p e below _ (T89.setTop (mkF m 46 #[.val (.ref a), .val (.int row)] [(.int (0 : Int32))]))
            exact GoOn.retN X89 hx hrt hlk (by simp) (hb hby d4_46) (by decide) (by decide) (by first | exact ⟨by rw [if_neg (mt HQ.mp (by simp [hv84, hv87, hv90]))]; rfl, rfl, rfl⟩ | (rw [e89]; exact ⟨by rw [if_neg (mt HQ.mp (by simp [hv84, hv87, hv90]))]; rfl, rfl, rfl⟩))
          · rw [hv90]
            show GoOn p e below _ (T89.setTop (mkF m 38 #[.val (.ref a), .val (.int row)] [(.ref y90)]))
            refine GoOn.step (fun t₀ k₀ => XS.ifnullNo X89.here hx rfl (hb hby d4_38) rfl k₀) ?_
            show GoOn p e below _ (T89.setTop (mkF m 41 #[.val (.ref a), .val (.int row)] []))
            refine GoOn.step (fun t₀ k₀ => XS.iconst X89.here hx rfl (hb hby d4_41) k₀) ?_
            show GoOn p e below _ (T89.setTop (mkF m 42 #[.val (.ref a), .val (.int row)] [(.int (1 : Int32))]))
            refine GoOn.step (fun t₀ k₀ => XS.goto X89.here hx rfl (pc0 := 42) (pc' := 46) rfl (hb hby d4_42) (by decide) (by decide) k₀) ?_
            show GoOn p e below _ (T89.setTop (mkF m 46 #[.val (.ref a), .val (.int row)] [(.int (1 : Int32))]))
            exact GoOn.retN X89 hx hrt hlk (by simp) (hb hby d4_46) (by decide) (by decide) (by first | exact ⟨by rw [if_pos (HQ.mpr (by simp [hv84, hv87, hv90]))]; rfl, rfl, rfl⟩ | (rw [e89]; exact ⟨by rw [if_pos (HQ.mpr (by simp [hv84, hv87, hv90]))]; rfl, rfl, rfl⟩))
        · rw [hv87]
          show GoOn p e below _ (T86.setTop (mkF m 22 #[.val (.ref a), .val (.int row)] [(.ref y87)]))
          refine GoOn.step (fun t₀ k₀ => XS.ifnonnullYes X86.here hx rfl (pc0 := 22) (pc' := 41) rfl (hb hby d4_22) rfl (by decide) (by decide) k₀) ?_
          show GoOn p e below _ (T86.setTop (mkF m 41 #[.val (.ref a), .val (.int row)] []))
          refine GoOn.step (fun t₀ k₀ => XS.iconst X86.here hx rfl (hb hby d4_41) k₀) ?_
          show GoOn p e below _ (T86.setTop (mkF m 42 #[.val (.ref a), .val (.int row)] [(.int (1 : Int32))]))
          refine GoOn.step (fun t₀ k₀ => XS.goto X86.here hx rfl (pc0 := 42) (pc' := 46) rfl (hb hby d4_42) (by decide) (by decide) k₀) ?_
          show GoOn p e below _ (T86.setTop (mkF m 46 #[.val (.ref a), .val (.int row)] [(.int (1 : Int32))]))
          exact GoOn.retN X86 hx hrt hlk (by simp) (hb hby d4_46) (by decide) (by decide) (by first | exact ⟨by rw [if_pos (HQ.mpr (by simp [hv84, hv87]))]; rfl, rfl, rfl⟩ | (rw [e86]; exact ⟨by rw [if_pos (HQ.mpr (by simp [hv84, hv87]))]; rfl, rfl, rfl⟩))
      · rw [hv84]
        show GoOn p e below _ (T83.setTop (mkF m 6 #[.val (.ref a), .val (.int row)] [(.ref y84)]))
        refine GoOn.step (fun t₀ k₀ => XS.ifnonnullYes X83.here hx rfl (pc0 := 6) (pc' := 41) rfl (hb hby d4_6) rfl (by decide) (by decide) k₀) ?_
        show GoOn p e below _ (T83.setTop (mkF m 41 #[.val (.ref a), .val (.int row)] []))
        refine GoOn.step (fun t₀ k₀ => XS.iconst X83.here hx rfl (hb hby d4_41) k₀) ?_
        show GoOn p e below _ (T83.setTop (mkF m 42 #[.val (.ref a), .val (.int row)] [(.int (1 : Int32))]))
        refine GoOn.step (fun t₀ k₀ => XS.goto X83.here hx rfl (pc0 := 42) (pc' := 46) rfl (hb hby d4_42) (by decide) (by decide) k₀) ?_
        show GoOn p e below _ (T83.setTop (mkF m 46 #[.val (.ref a), .val (.int row)] [(.int (1 : Int32))]))
        exact GoOn.retN X83 hx hrt hlk (by simp) (hb hby d4_46) (by decide) (by decide) (by first | exact ⟨by rw [if_pos (HQ.mpr (by simp [hv84]))]; rfl, rfl, rfl⟩ | (rw [e83]; exact ⟨by rw [if_pos (HQ.mpr (by simp [hv84]))]; rfl, rfl, rfl⟩))
theorem cbs_exa {Z : State} {h : Heap} {a : Addr} {P : Nat → Prop} (C : CBs Z h a P) : Exa Z h a "com/example/treesack/treesack/core/ChoiceBits" := by obtain ⟨_, _, _, _, _, _, E, -⟩ := C; exact E
def Pn (k0 k1 k2 : Int32) (i : Nat) : Prop := (i = 0 ∧ k0 ≠ 0) ∨ (i = 1 ∧ k1 ≠ 0) ∨ (i = 2 ∧ k2 ≠ 0)
instance (k0 k1 k2 : Int32) : DecidablePred (Pn k0 k1 k2) := fun i => by unfold Pn; infer_instance
theorem cbs_congr {Z : State} {h : Heap} {a : Addr} {P Q : Nat → Prop} (C : CBs Z h a P) (q : ∀ i, i < 3 → (Q i ↔ P i)) : CBs Z h a Q := by
  obtain ⟨ra, fr, fl, fu, lv, uv, Ex, Fr_, Fl_, Fu_, Jr, OL, OU, gr, ir, il, iu, HP⟩ := C
  exact ⟨ra, fr, fl, fu, lv, uv, Ex, Fr_, Fl_, Fu_, Jr, OL, OU, gr, ir, il, iu, fun i hi => (q i hi).trans (HP i hi)⟩
theorem k3_iff {k : Int32} (h : 0 ≤ k.toInt ∧ k.toInt ≤ 3) : (k = 1 ∨ k = 2 ∨ k = 3) ↔ k ≠ 0 := by
  simp only [ne_eq, ← Int32.toInt_inj, Int32.reduceToInt]; omega
theorem step_if {Z : State} {h : Heap} {a : Addr} {P Q : Nat → Prop} {k row : Int32} (hk : 0 ≤ k.toInt ∧ k.toInt ≤ 3) (C : CBs Z h a (if (k = 1 ∨ k = 2 ∨ k = 3) then (fun i => P i ∨ i = row.toNatClampNeg) else P)) (q : ∀ i, i < 3 → (Q i ↔ (P i ∨ (i = row.toNatClampNeg ∧ k ≠ 0)))) : CBs Z h a Q := by
  refine cbs_congr C fun i hi => ?_
  rw [q i hi]
  by_cases c : k = 1 ∨ k = 2 ∨ k = 3
  · rw [if_pos c]; have := (k3_iff hk).mp c; simp [this]
  · rw [if_neg c]; have : ¬ k ≠ 0 := mt (k3_iff hk).mpr c; simp [this]
theorem ef_law_ok (m : MethodId) (x0 : Int32) (x1 : Int32) (x2 : Int32) (x3 : Int64) : entryFrame m #[(.int x0), (.int x1), (.int x2), (.long x3)] maxLocals = mkF m 0 #[.val (.int x0), .val (.int x1), .val (.int x2), .val (.long x3), .second, .unset, .unset, .unset, .unset, .unset, .unset, .unset, .unset] [] := by first | (simp [entryFrame, mkF, argsToLocals, Value.category, maxLocals]; done) | rfl
set_option maxRecDepth 65536 in
set_option maxHeartbeats 40000000 in
theorem law_ok (l : Launch) (Z : State) (a0 : Array Value) (hw : ∀ d ∈ tables_1, d.before a0 Z = true) (q0 q1 q2 : Int32) (q3 : Int64) (h0 : Heap) (n0 : Nat) (Z0 : n0 ≤ h0.size)  :
    Con l Z x code maxLocals ret room_1 #[(.int q0), (.int q1), (.int q2), (.long q3)] h0 (LQ n0) := by
  refine Con.intro (plainFor_of_name pn_2) ?_
  intro p e s m below meth c s₁ hx hby hml hrt hlk hZ hown hnm X0 e0
  replace hown : s.vm.findClass "com/example/treesack/treesack/core/ChoiceBitsHasRowPinLaw" = some m.cls := hown
  have N0 := Fr.nil n0
  refine GoOn.cast (ef_law_ok m q0 q1 q2 q3) ?_
  show GoOn p e below _ (s₁.setTop (mkF m 0 #[.val (.int q0), .val (.int q1), .val (.int q2), .val (.long q3), .second, .unset, .unset, .unset, .unset, .unset, .unset, .unset, .unset] []))
  refine GoOn.step (fun t₀ k₀ => XS.iloadN X0.here hx rfl (hb hby at_0) rfl k₀) ?_
  show GoOn p e below _ (s₁.setTop (mkF m 1 #[.val (.int q0), .val (.int q1), .val (.int q2), .val (.long q3), .second, .unset, .unset, .unset, .unset, .unset, .unset, .unset, .unset] [(.int q0)]))
  refine GoOn.step (fun t₀ k₀ => XS.iconst X0.here hx rfl (hb hby at_1) k₀) ?_
  show GoOn p e below _ (s₁.setTop (mkF m 2 #[.val (.int q0), .val (.int q1), .val (.int q2), .val (.long q3), .second, .unset, .unset, .unset, .unset, .unset, .unset, .unset, .unset] [(.int (3 : Int32)), (.int q0)]))
  refine GoOn.step (fun t₀ k₀ => XS.iand X0.here hx rfl (hb hby at_2) rfl k₀) ?_
  show GoOn p e below _ (s₁.setTop (mkF m 3 #[.val (.int q0), .val (.int q1), .val (.int q2), .val (.long q3), .second, .unset, .unset, .unset, .unset, .unset, .unset, .unset, .unset] [(.int (q0 &&& (3 : Int32)))]))
  have r0 : 0 ≤ (q0 &&& (3 : Int32)).toInt ∧ (q0 &&& (3 : Int32)).toInt ≤ 3 := by have hm : (q0 &&& (3 : Int32)).toInt = (q0).toInt % 4 := c_mask _ 3 2 (by decide) (by decide); omega
  generalize h_k0 : (q0 &&& (3 : Int32)) = k0
  have h_k0I := congrArg Int32.toInt h_k0
  rw [h_k0I] at r0
  refine GoOn.step (fun t₀ k₀ => XS.istore X0.here hx rfl (hb hby at_3) rfl (l' := #[.val (.int q0), .val (.int q1), .val (.int q2), .val (.long q3), .second, .val (.int k0), .unset, .unset, .unset, .unset, .unset, .unset, .unset]) rfl k₀) ?_
  show GoOn p e below _ (s₁.setTop (mkF m 5 #[.val (.int q0), .val (.int q1), .val (.int q2), .val (.long q3), .second, .val (.int k0), .unset, .unset, .unset, .unset, .unset, .unset, .unset] []))
  refine GoOn.step (fun t₀ k₀ => XS.iloadN X0.here hx rfl (hb hby at_5) rfl k₀) ?_
  show GoOn p e below _ (s₁.setTop (mkF m 6 #[.val (.int q0), .val (.int q1), .val (.int q2), .val (.long q3), .second, .val (.int k0), .unset, .unset, .unset, .unset, .unset, .unset, .unset] [(.int q0)]))
  refine GoOn.step (fun t₀ k₀ => XS.iconst X0.here hx rfl (hb hby at_6) k₀) ?_
  show GoOn p e below _ (s₁.setTop (mkF m 7 #[.val (.int q0), .val (.int q1), .val (.int q2), .val (.long q3), .second, .val (.int k0), .unset, .unset, .unset, .unset, .unset, .unset, .unset] [(.int (2 : Int32)), (.int q0)]))
  refine GoOn.step (fun t₀ k₀ => XS.iushr X0.here hx rfl (hb hby at_7) rfl k₀) ?_
  show GoOn p e below _ (s₁.setTop (mkF m 8 #[.val (.int q0), .val (.int q1), .val (.int q2), .val (.long q3), .second, .val (.int k0), .unset, .unset, .unset, .unset, .unset, .unset, .unset] [(.int ((q0.toUInt32 >>> ((2 : Int32) &&& 31).toUInt32).toInt32))]))
  refine GoOn.step (fun t₀ k₀ => XS.iconst X0.here hx rfl (hb hby at_8) k₀) ?_
  show GoOn p e below _ (s₁.setTop (mkF m 9 #[.val (.int q0), .val (.int q1), .val (.int q2), .val (.long q3), .second, .val (.int k0), .unset, .unset, .unset, .unset, .unset, .unset, .unset] [(.int (3 : Int32)), (.int ((q0.toUInt32 >>> ((2 : Int32) &&& 31).toUInt32).toInt32))]))
  refine GoOn.step (fun t₀ k₀ => XS.iand X0.here hx rfl (hb hby at_9) rfl k₀) ?_
  show GoOn p e below _ (s₁.setTop (mkF m 10 #[.val (.int q0), .val (.int q1), .val (.int q2), .val (.long q3), .second, .val (.int k0), .unset, .unset, .unset, .unset, .unset, .unset, .unset] [(.int (((q0.toUInt32 >>> ((2 : Int32) &&& 31).toUInt32).toInt32) &&& (3 : Int32)))]))
  have r1 : 0 ≤ (((q0.toUInt32 >>> ((2 : Int32) &&& 31).toUInt32).toInt32) &&& (3 : Int32)).toInt ∧ (((q0.toUInt32 >>> ((2 : Int32) &&& 31).toUInt32).toInt32) &&& (3 : Int32)).toInt ≤ 3 := by have hm : (((q0.toUInt32 >>> ((2 : Int32) &&& 31).toUInt32).toInt32) &&& (3 : Int32)).toInt = (((q0.toUInt32 >>> ((2 : Int32) &&& 31).toUInt32).toInt32)).toInt % 4 := c_mask _ 3 2 (by decide) (by decide); omega
  generalize h_k1 : (((q0.toUInt32 >>> ((2 : Int32) &&& 31).toUInt32).toInt32) &&& (3 : Int32)) = k1
  have h_k1I := congrArg Int32.toInt h_k1
  rw [h_k1I] at r1
  refine GoOn.step (fun t₀ k₀ => XS.istore X0.here hx rfl (hb hby at_10) rfl (l' := #[.val (.int q0), .val (.int q1), .val (.int q2), .val (.long q3), .second, .val (.int k0), .val (.int k1), .unset, .unset, .unset, .unset, .unset, .unset]) rfl k₀) ?_
  show GoOn p e below _ (s₁.setTop (mkF m 12 #[.val (.int q0), .val (.int q1), .val (.int q2), .val (.long q3), .second, .val (.int k0), .val (.int k1), .unset, .unset, .unset, .unset, .unset, .unset] []))
  refine GoOn.step (fun t₀ k₀ => XS.iloadN X0.here hx rfl (hb hby at_12) rfl k₀) ?_
  show GoOn p e below _ (s₁.setTop (mkF m 13 #[.val (.int q0), .val (.int q1), .val (.int q2), .val (.long q3), .second, .val (.int k0), .val (.int k1), .unset, .unset, .unset, .unset, .unset, .unset] [(.int q0)]))
  refine GoOn.step (fun t₀ k₀ => XS.iconst X0.here hx rfl (hb hby at_13) k₀) ?_
  show GoOn p e below _ (s₁.setTop (mkF m 14 #[.val (.int q0), .val (.int q1), .val (.int q2), .val (.long q3), .second, .val (.int k0), .val (.int k1), .unset, .unset, .unset, .unset, .unset, .unset] [(.int (4 : Int32)), (.int q0)]))
  refine GoOn.step (fun t₀ k₀ => XS.iushr X0.here hx rfl (hb hby at_14) rfl k₀) ?_
  show GoOn p e below _ (s₁.setTop (mkF m 15 #[.val (.int q0), .val (.int q1), .val (.int q2), .val (.long q3), .second, .val (.int k0), .val (.int k1), .unset, .unset, .unset, .unset, .unset, .unset] [(.int ((q0.toUInt32 >>> ((4 : Int32) &&& 31).toUInt32).toInt32))]))
  refine GoOn.step (fun t₀ k₀ => XS.iconst X0.here hx rfl (hb hby at_15) k₀) ?_
  show GoOn p e below _ (s₁.setTop (mkF m 16 #[.val (.int q0), .val (.int q1), .val (.int q2), .val (.long q3), .second, .val (.int k0), .val (.int k1), .unset, .unset, .unset, .unset, .unset, .unset] [(.int (3 : Int32)), (.int ((q0.toUInt32 >>> ((4 : Int32) &&& 31).toUInt32).toInt32))]))
  refine GoOn.step (fun t₀ k₀ => XS.iand X0.here hx rfl (hb hby at_16) rfl k₀) ?_
  show GoOn p e below _ (s₁.setTop (mkF m 17 #[.val (.int q0), .val (.int q1), .val (.int q2), .val (.long q3), .second, .val (.int k0), .val (.int k1), .unset, .unset, .unset, .unset, .unset, .unset] [(.int (((q0.toUInt32 >>> ((4 : Int32) &&& 31).toUInt32).toInt32) &&& (3 : Int32)))]))
  have r2 : 0 ≤ (((q0.toUInt32 >>> ((4 : Int32) &&& 31).toUInt32).toInt32) &&& (3 : Int32)).toInt ∧ (((q0.toUInt32 >>> ((4 : Int32) &&& 31).toUInt32).toInt32) &&& (3 : Int32)).toInt ≤ 3 := by have hm : (((q0.toUInt32 >>> ((4 : Int32) &&& 31).toUInt32).toInt32) &&& (3 : Int32)).toInt = (((q0.toUInt32 >>> ((4 : Int32) &&& 31).toUInt32).toInt32)).toInt % 4 := c_mask _ 3 2 (by decide) (by decide); omega
  generalize h_k2 : (((q0.toUInt32 >>> ((4 : Int32) &&& 31).toUInt32).toInt32) &&& (3 : Int32)) = k2
  have h_k2I := congrArg Int32.toInt h_k2
  rw [h_k2I] at r2
  refine GoOn.step (fun t₀ k₀ => XS.istore X0.here hx rfl (hb hby at_17) rfl (l' := #[.val (.int q0), .val (.int q1), .val (.int q2), .val (.long q3), .second, .val (.int k0), .val (.int k1), .val (.int k2), .unset, .unset, .unset, .unset, .unset]) rfl k₀) ?_
  show GoOn p e below _ (s₁.setTop (mkF m 19 #[.val (.int q0), .val (.int q1), .val (.int q2), .val (.long q3), .second, .val (.int k0), .val (.int k1), .val (.int k2), .unset, .unset, .unset, .unset, .unset] []))
  refine GoOn.step (fun t₀ k₀ => XS.iconst X0.here hx rfl (hb hby at_19) k₀) ?_
  show GoOn p e below _ (s₁.setTop (mkF m 20 #[.val (.int q0), .val (.int q1), .val (.int q2), .val (.long q3), .second, .val (.int k0), .val (.int k1), .val (.int k2), .unset, .unset, .unset, .unset, .unset] [(.int (2 : Int32))]))
  obtain ⟨T91, h91, k91, X91, e91, E91, A91, B91, st91⟩ := newPE X0 hx hZ (hw _ (List.mem_of_getElem? (i := 0) rfl)) e0 (g := (mkF m 20 #[.val (.int q0), .val (.int q1), .val (.int q2), .val (.long q3), .second, .val (.int k0), .val (.int k1), .val (.int k2), .unset, .unset, .unset, .unset, .unset] [(.int (2 : Int32))])) rfl (hb hby at_20) rfl (by decide) (cap := 2) (by decide) (by decide) (by decide) (by decide) (ad := "[J") (by decide)
  obtain ⟨qa, g91⟩ : ∃ z, z = h0.size := ⟨_, rfl⟩
  rw [← g91] at A91 B91 st91
  have le_qa : n0 ≤ qa := by rw [g91]; exact Z0
  replace Z0 := Nat.le_trans Z0 E91.1
  have J_qa : Jar Z h91 qa .long 2 (fun _ => defaultValue .long) := Jar.new A91 (by decide)
  have Ex_qa : Exa Z h91 qa "[J" := B91
  refine GoOn.step st91 ?_
  show GoOn p e below _ (T91.setTop (mkF m 22 #[.val (.int q0), .val (.int q1), .val (.int q2), .val (.long q3), .second, .val (.int k0), .val (.int k1), .val (.int k2), .unset, .unset, .unset, .unset, .unset] [(.ref qa)]))
  refine GoOn.step (fun t₀ k₀ => XS.astore X91.here hx rfl (hb hby at_22) rfl rfl (l' := #[.val (.int q0), .val (.int q1), .val (.int q2), .val (.long q3), .second, .val (.int k0), .val (.int k1), .val (.int k2), .val (.ref qa), .unset, .unset, .unset, .unset]) rfl k₀) ?_
  show GoOn p e below _ (T91.setTop (mkF m 24 #[.val (.int q0), .val (.int q1), .val (.int q2), .val (.long q3), .second, .val (.int k0), .val (.int k1), .val (.int k2), .val (.ref qa), .unset, .unset, .unset, .unset] []))
  refine GoOn.step (fun t₀ k₀ => XS.aload X91.here hx rfl (hb hby at_24) rfl rfl k₀) ?_
  show GoOn p e below _ (T91.setTop (mkF m 26 #[.val (.int q0), .val (.int q1), .val (.int q2), .val (.long q3), .second, .val (.int k0), .val (.int k1), .val (.int k2), .val (.ref qa), .unset, .unset, .unset, .unset] [(.ref qa)]))
  refine GoOn.step (fun t₀ k₀ => XS.iconst X91.here hx rfl (hb hby at_26) k₀) ?_
  show GoOn p e below _ (T91.setTop (mkF m 27 #[.val (.int q0), .val (.int q1), .val (.int q2), .val (.long q3), .second, .val (.int k0), .val (.int k1), .val (.int k2), .val (.ref qa), .unset, .unset, .unset, .unset] [(.int (0 : Int32)), (.ref qa)]))
  refine GoOn.step (fun t₀ k₀ => XS.lloadN X91.here hx rfl (hb hby at_27) rfl k₀) ?_
  show GoOn p e below _ (T91.setTop (mkF m 28 #[.val (.int q0), .val (.int q1), .val (.int q2), .val (.long q3), .second, .val (.int k0), .val (.int k1), .val (.int k2), .val (.ref qa), .unset, .unset, .unset, .unset] [(.long q3), (.int (0 : Int32)), (.ref qa)]))
  refine GoOn.step (fun t₀ k₀ => X91.ldc2Long hx hown (mvT hZ (hw _ (List.mem_of_getElem? (i := 1) rfl))) (g := (mkF m 28 #[.val (.int q0), .val (.int q1), .val (.int q2), .val (.long q3), .second, .val (.int k0), .val (.int k1), .val (.int k2), .val (.ref qa), .unset, .unset, .unset, .unset] [(.long q3), (.int (0 : Int32)), (.ref qa)])) rfl (hb hby at_28) t₀ k₀) ?_
  show GoOn p e below _ (T91.setTop (mkF m 31 #[.val (.int q0), .val (.int q1), .val (.int q2), .val (.long q3), .second, .val (.int k0), .val (.int k1), .val (.int k2), .val (.ref qa), .unset, .unset, .unset, .unset] [(.long (4611686018427387903 : Int64)), (.long q3), (.int (0 : Int32)), (.ref qa)]))
  refine GoOn.step (fun t₀ k₀ => XS.land X91.here hx rfl (hb hby at_31) rfl k₀) ?_
  show GoOn p e below _ (T91.setTop (mkF m 32 #[.val (.int q0), .val (.int q1), .val (.int q2), .val (.long q3), .second, .val (.int k0), .val (.int k1), .val (.int k2), .val (.ref qa), .unset, .unset, .unset, .unset] [(.long (q3 &&& (4611686018427387903 : Int64))), (.int (0 : Int32)), (.ref qa)]))
  obtain ⟨T92, h92, X92, e92, W92, st92⟩ := kStJ X91 hx hZ e91 J_qa (j := (0 : Int32)) ⟨by decide, by decide⟩ (g := (mkF m 32 #[.val (.int q0), .val (.int q1), .val (.int q2), .val (.long q3), .second, .val (.int k0), .val (.int k1), .val (.int k2), .val (.ref qa), .unset, .unset, .unset, .unset] [(.long (q3 &&& (4611686018427387903 : Int64))), (.int (0 : Int32)), (.ref qa)])) rfl rfl (hb hby at_32)
  replace N0 := Fr.snoc X92 N0 le_qa
  replace J_qa := J_qa.set W92
  replace Ex_qa := Ex_qa.wr W92
  replace Z0 := Nat.le_trans Z0 (Nat.le_of_eq W92.size.symm)
  refine GoOn.step st92 ?_
  show GoOn p e below _ (T92.setTop (mkF m 33 #[.val (.int q0), .val (.int q1), .val (.int q2), .val (.long q3), .second, .val (.int k0), .val (.int k1), .val (.int k2), .val (.ref qa), .unset, .unset, .unset, .unset] []))
  refine GoOn.step (fun t₀ k₀ => XS.aload X92.here hx rfl (hb hby at_33) rfl rfl k₀) ?_
  show GoOn p e below _ (T92.setTop (mkF m 35 #[.val (.int q0), .val (.int q1), .val (.int q2), .val (.long q3), .second, .val (.int k0), .val (.int k1), .val (.int k2), .val (.ref qa), .unset, .unset, .unset, .unset] [(.ref qa)]))
  refine GoOn.step (fun t₀ k₀ => XS.iconst X92.here hx rfl (hb hby at_35) k₀) ?_
  show GoOn p e below _ (T92.setTop (mkF m 36 #[.val (.int q0), .val (.int q1), .val (.int q2), .val (.long q3), .second, .val (.int k0), .val (.int k1), .val (.int k2), .val (.ref qa), .unset, .unset, .unset, .unset] [(.int (1 : Int32)), (.ref qa)]))
  refine GoOn.step (fun t₀ k₀ => XS.aload X92.here hx rfl (hb hby at_36) rfl rfl k₀) ?_
  show GoOn p e below _ (T92.setTop (mkF m 38 #[.val (.int q0), .val (.int q1), .val (.int q2), .val (.long q3), .second, .val (.int k0), .val (.int k1), .val (.int k2), .val (.ref qa), .unset, .unset, .unset, .unset] [(.ref qa), (.int (1 : Int32)), (.ref qa)]))
  refine GoOn.step (fun t₀ k₀ => XS.iconst X92.here hx rfl (hb hby at_38) k₀) ?_
  show GoOn p e below _ (T92.setTop (mkF m 39 #[.val (.int q0), .val (.int q1), .val (.int q2), .val (.long q3), .second, .val (.int k0), .val (.int k1), .val (.int k2), .val (.ref qa), .unset, .unset, .unset, .unset] [(.int (0 : Int32)), (.ref qa), (.int (1 : Int32)), (.ref qa)]))
  refine GoOn.step (fun t₀ k₀ => kLdJ X92 hx hZ e92 J_qa (j := (0 : Int32)) (v := (.long (q3 &&& (4611686018427387903 : Int64)))) ⟨by decide, by decide⟩ rfl (g := (mkF m 39 #[.val (.int q0), .val (.int q1), .val (.int q2), .val (.long q3), .second, .val (.int k0), .val (.int k1), .val (.int k2), .val (.ref qa), .unset, .unset, .unset, .unset] [(.int (0 : Int32)), (.ref qa), (.int (1 : Int32)), (.ref qa)])) rfl rfl (hb hby at_39) t₀ k₀) ?_
  show GoOn p e below _ (T92.setTop (mkF m 40 #[.val (.int q0), .val (.int q1), .val (.int q2), .val (.long q3), .second, .val (.int k0), .val (.int k1), .val (.int k2), .val (.ref qa), .unset, .unset, .unset, .unset] [(.long (q3 &&& (4611686018427387903 : Int64))), (.int (1 : Int32)), (.ref qa)]))
  refine GoOn.step (fun t₀ k₀ => XS.lconst X92.here hx rfl (hb hby at_40) k₀) ?_
  show GoOn p e below _ (T92.setTop (mkF m 41 #[.val (.int q0), .val (.int q1), .val (.int q2), .val (.long q3), .second, .val (.int k0), .val (.int k1), .val (.int k2), .val (.ref qa), .unset, .unset, .unset, .unset] [(.long (1 : Int64)), (.long (q3 &&& (4611686018427387903 : Int64))), (.int (1 : Int32)), (.ref qa)]))
  refine GoOn.step (fun t₀ k₀ => XS.ladd X92.here hx rfl (hb hby at_41) rfl k₀) ?_
  show GoOn p e below _ (T92.setTop (mkF m 42 #[.val (.int q0), .val (.int q1), .val (.int q2), .val (.long q3), .second, .val (.int k0), .val (.int k1), .val (.int k2), .val (.ref qa), .unset, .unset, .unset, .unset] [(.long ((q3 &&& (4611686018427387903 : Int64)) + (1 : Int64))), (.int (1 : Int32)), (.ref qa)]))
  obtain ⟨T93, h93, X93, e93, W93, st93⟩ := kStJ X92 hx hZ e92 J_qa (j := (1 : Int32)) ⟨by decide, by decide⟩ (g := (mkF m 42 #[.val (.int q0), .val (.int q1), .val (.int q2), .val (.long q3), .second, .val (.int k0), .val (.int k1), .val (.int k2), .val (.ref qa), .unset, .unset, .unset, .unset] [(.long ((q3 &&& (4611686018427387903 : Int64)) + (1 : Int64))), (.int (1 : Int32)), (.ref qa)])) rfl rfl (hb hby at_42)
  replace N0 := Fr.snoc X93 N0 le_qa
  replace J_qa := J_qa.set W93
  replace Ex_qa := Ex_qa.wr W93
  replace Z0 := Nat.le_trans Z0 (Nat.le_of_eq W93.size.symm)
  refine GoOn.step st93 ?_
  show GoOn p e below _ (T93.setTop (mkF m 43 #[.val (.int q0), .val (.int q1), .val (.int q2), .val (.long q3), .second, .val (.int k0), .val (.int k1), .val (.int k2), .val (.ref qa), .unset, .unset, .unset, .unset] []))
  obtain ⟨T94, h94, X94, e94, E94, A94, D94, -, st94⟩ := newO X93 hx hZ hown (hw _ (List.mem_of_getElem? (i := 2) rfl)) (hw _ (List.mem_of_getElem? (i := 3) rfl)) (hw _ (List.mem_of_getElem? (i := 4) rfl)) e93 (g := (mkF m 43 #[.val (.int q0), .val (.int q1), .val (.int q2), .val (.long q3), .second, .val (.int k0), .val (.int k1), .val (.int k2), .val (.ref qa), .unset, .unset, .unset, .unset] [])) rfl (hb hby at_43) (by decide) (by decide)
  obtain ⟨cb, g94⟩ : ∃ z, z = h93.size := ⟨_, rfl⟩
  rw [← g94] at A94 D94 st94
  have lt_qa_cb : qa < cb := by rw [g94]; exact J_qa.lt
  have ne_qa_cb : qa ≠ cb := Nat.ne_of_lt lt_qa_cb
  have le_cb : n0 ≤ cb := by rw [g94]; exact Z0
  replace J_qa := J_qa.ext E94
  replace Ex_qa := Ex_qa.ext E94
  replace Z0 := Nat.le_trans Z0 E94.1
  have Ex_cb : Exa Z h94 cb "com/example/treesack/treesack/core/ChoiceBits" := A94
  have F_rows_cb : Fld Z h94 cb "com/example/treesack/treesack/core/ChoiceBits" "rows" "[[J" .null := D94 (Or.inr (hw _ (List.mem_of_getElem? (i := 14) rfl))) (ty := (.array (.array .long))) (by decide)
  have F_listedRows_cb : Fld Z h94 cb "com/example/treesack/treesack/core/ChoiceBits" "listedRows" "[[J" .null := D94 (Or.inl (hw _ (List.mem_of_getElem? (i := 25) rfl))) (ty := (.array (.array .long))) (by decide)
  have F_runRows_cb : Fld Z h94 cb "com/example/treesack/treesack/core/ChoiceBits" "runRows" "[[J" .null := D94 (Or.inl (hw _ (List.mem_of_getElem? (i := 27) rfl))) (ty := (.array (.array .long))) (by decide)
  refine GoOn.step st94 ?_
  show GoOn p e below _ (T94.setTop (mkF m 46 #[.val (.int q0), .val (.int q1), .val (.int q2), .val (.long q3), .second, .val (.int k0), .val (.int k1), .val (.int k2), .val (.ref qa), .unset, .unset, .unset, .unset] [(.ref cb)]))
  refine GoOn.step (fun t₀ k₀ => XS.dup X94.here hx rfl (hb hby at_46) rfl rfl k₀) ?_
  show GoOn p e below _ (T94.setTop (mkF m 47 #[.val (.int q0), .val (.int q1), .val (.int q2), .val (.long q3), .second, .val (.int k0), .val (.int k1), .val (.int k2), .val (.ref qa), .unset, .unset, .unset, .unset] [(.ref cb), (.ref cb)]))
  refine GoOn.step (fun t₀ k₀ => XS.iconst X94.here hx rfl (hb hby at_47) k₀) ?_
  show GoOn p e below _ (T94.setTop (mkF m 48 #[.val (.int q0), .val (.int q1), .val (.int q2), .val (.long q3), .second, .val (.int k0), .val (.int k1), .val (.int k2), .val (.ref qa), .unset, .unset, .unset, .unset] [(.int (3 : Int32)), (.ref cb), (.ref cb)]))
  clear J_qa
  have hlt : cb < h94.size := Ex_cb.lt
  have lq : qa < cb := lt_qa_cb
  obtain ⟨_, T95, L95, X95, hQ95, st95⟩ := kCallI X94 hx hZ (a := cb) (argsL := [(.int (3 : Int32))]) (rest := [(.ref cb)]) (c_ini l Z a0 hw cb h94 n0 Z0 Ex_cb F_rows_cb F_listedRows_cb F_runRows_cb le_cb hlt) rfl hown (hw _ (List.mem_of_getElem? (i := 5) rfl)) (hw _ (List.mem_of_getElem? (i := 6) rfl)) (hw _ (List.mem_of_getElem? (i := 4) rfl)) (hw _ (List.mem_of_getElem? (i := 7) rfl)) (by decide) e94 (g := (mkF m 48 #[.val (.int q0), .val (.int q1), .val (.int q2), .val (.long q3), .second, .val (.int k0), .val (.int k1), .val (.int k2), .val (.ref qa), .unset, .unset, .unset, .unset] [(.int (3 : Int32)), (.ref cb), (.ref cb)])) rfl (by rw [hml]; rfl) (lenOf pd_4 rfl) rfl (W := 1) (by show 2 * 0 + _ ≤ _; exact Nat.le_of_eq rfl) (hb hby at_48) (by decide) (by decide) (by decide) (by decide)
  obtain ⟨rfl, N95, W95, C95⟩ := hQ95
  replace N0 := Fr.app N0 N95
  replace Ex_qa := exa_low Ex_qa W95 lq
  replace Z0 := Nat.le_trans Z0 W95.1
  have CS : CBs Z T95.heap cb (Pn 0 0 0) := cbs_congr C95 (fun i hi => by simp [Pn])
  have Ec := cbs_exa CS
  refine GoOn.step st95 ?_
  show GoOn p e below _ (T95.setTop (mkF m 51 #[.val (.int q0), .val (.int q1), .val (.int q2), .val (.long q3), .second, .val (.int k0), .val (.int k1), .val (.int k2), .val (.ref qa), .unset, .unset, .unset, .unset] [(.ref cb)]))
  refine GoOn.step (fun t₀ k₀ => XS.astore X95.here hx rfl (hb hby at_51) rfl rfl (l' := #[.val (.int q0), .val (.int q1), .val (.int q2), .val (.long q3), .second, .val (.int k0), .val (.int k1), .val (.int k2), .val (.ref qa), .val (.ref cb), .unset, .unset, .unset]) rfl k₀) ?_
  show GoOn p e below _ (T95.setTop (mkF m 53 #[.val (.int q0), .val (.int q1), .val (.int q2), .val (.long q3), .second, .val (.int k0), .val (.int k1), .val (.int k2), .val (.ref qa), .val (.ref cb), .unset, .unset, .unset] []))
  refine GoOn.step (fun t₀ k₀ => XS.aload X95.here hx rfl (hb hby at_53) rfl rfl k₀) ?_
  show GoOn p e below _ (T95.setTop (mkF m 55 #[.val (.int q0), .val (.int q1), .val (.int q2), .val (.long q3), .second, .val (.int k0), .val (.int k1), .val (.int k2), .val (.ref qa), .val (.ref cb), .unset, .unset, .unset] [(.ref cb)]))
  refine GoOn.step (fun t₀ k₀ => XS.iconst X95.here hx rfl (hb hby at_55) k₀) ?_
  show GoOn p e below _ (T95.setTop (mkF m 56 #[.val (.int q0), .val (.int q1), .val (.int q2), .val (.long q3), .second, .val (.int k0), .val (.int k1), .val (.int k2), .val (.ref qa), .val (.ref cb), .unset, .unset, .unset] [(.int (0 : Int32)), (.ref cb)]))
  refine GoOn.step (fun t₀ k₀ => XS.iload X95.here hx rfl (hb hby at_56) rfl k₀) ?_
  show GoOn p e below _ (T95.setTop (mkF m 58 #[.val (.int q0), .val (.int q1), .val (.int q2), .val (.long q3), .second, .val (.int k0), .val (.int k1), .val (.int k2), .val (.ref qa), .val (.ref cb), .unset, .unset, .unset] [(.int k0), (.int (0 : Int32)), (.ref cb)]))
  refine GoOn.step (fun t₀ k₀ => XS.iloadN X95.here hx rfl (hb hby at_58) rfl k₀) ?_
  show GoOn p e below _ (T95.setTop (mkF m 59 #[.val (.int q0), .val (.int q1), .val (.int q2), .val (.long q3), .second, .val (.int k0), .val (.int k1), .val (.int k2), .val (.ref qa), .val (.ref cb), .unset, .unset, .unset] [(.int q1), (.int k0), (.int (0 : Int32)), (.ref cb)]))
  refine GoOn.step (fun t₀ k₀ => XS.iloadN X95.here hx rfl (hb hby at_59) rfl k₀) ?_
  show GoOn p e below _ (T95.setTop (mkF m 60 #[.val (.int q0), .val (.int q1), .val (.int q2), .val (.long q3), .second, .val (.int k0), .val (.int k1), .val (.int k2), .val (.ref qa), .val (.ref cb), .unset, .unset, .unset] [(.int q2), (.int q1), (.int k0), (.int (0 : Int32)), (.ref cb)]))
  refine GoOn.step (fun t₀ k₀ => XS.aload X95.here hx rfl (hb hby at_60) rfl rfl k₀) ?_
  show GoOn p e below _ (T95.setTop (mkF m 62 #[.val (.int q0), .val (.int q1), .val (.int q2), .val (.long q3), .second, .val (.int k0), .val (.int k1), .val (.int k2), .val (.ref qa), .val (.ref cb), .unset, .unset, .unset] [(.ref qa), (.int q2), (.int q1), (.int k0), (.int (0 : Int32)), (.ref cb)]))
  obtain ⟨_, T96, L96, X96, hQ96, st96⟩ := kCallS X95 hx hZ (argsL := [(.ref cb), (.int (0 : Int32)), (.int k0), (.int q1), (.int q2), (.ref qa)]) (rest := []) (c_make l Z a0 hw cb qa (0 : Int32) k0 q1 q2 (Pn 0 0 0) T95.heap n0 Z0 CS le_cb ⟨by decide, by decide⟩ Ec Ex_qa) hown (hw _ (List.mem_of_getElem? (i := 15) rfl)) (hw _ (List.mem_of_getElem? (i := 16) rfl)) (hw _ (List.mem_of_getElem? (i := 17) rfl)) (hw _ (List.mem_of_getElem? (i := 18) rfl)) (by decide) rfl (g := (mkF m 62 #[.val (.int q0), .val (.int q1), .val (.int q2), .val (.long q3), .second, .val (.int k0), .val (.int k1), .val (.int k2), .val (.ref qa), .val (.ref cb), .unset, .unset, .unset] [(.ref qa), (.int q2), (.int q1), (.int k0), (.int (0 : Int32)), (.ref cb)])) rfl (by rw [hml]; rfl) (lenOf pd_5 rfl) rfl (W := 0) (by show 2 * 0 + _ ≤ _; exact Nat.le_of_eq rfl) (hb hby at_62) (by decide) (by decide) (by decide) (by decide)
  obtain ⟨rfl, N96, W96, C96⟩ := hQ96
  replace N0 := Fr.app N0 N96
  replace Ex_qa := exa_low Ex_qa W96 lq
  replace Z0 := Nat.le_trans Z0 W96.1
  replace CS : CBs Z T96.heap cb (Pn k0 0 0) := step_if r0 C96 (fun i hi => by rw [show (0 : Int32).toNatClampNeg = 0 from by decide]; simp [Pn, or_assoc])
  replace Ec := cbs_exa CS
  refine GoOn.step st96 ?_
  show GoOn p e below _ (T96.setTop (mkF m 65 #[.val (.int q0), .val (.int q1), .val (.int q2), .val (.long q3), .second, .val (.int k0), .val (.int k1), .val (.int k2), .val (.ref qa), .val (.ref cb), .unset, .unset, .unset] []))
  refine GoOn.step (fun t₀ k₀ => XS.aload X96.here hx rfl (hb hby at_65) rfl rfl k₀) ?_
  show GoOn p e below _ (T96.setTop (mkF m 67 #[.val (.int q0), .val (.int q1), .val (.int q2), .val (.long q3), .second, .val (.int k0), .val (.int k1), .val (.int k2), .val (.ref qa), .val (.ref cb), .unset, .unset, .unset] [(.ref cb)]))
  refine GoOn.step (fun t₀ k₀ => XS.iconst X96.here hx rfl (hb hby at_67) k₀) ?_
  show GoOn p e below _ (T96.setTop (mkF m 68 #[.val (.int q0), .val (.int q1), .val (.int q2), .val (.long q3), .second, .val (.int k0), .val (.int k1), .val (.int k2), .val (.ref qa), .val (.ref cb), .unset, .unset, .unset] [(.int (1 : Int32)), (.ref cb)]))
  refine GoOn.step (fun t₀ k₀ => XS.iload X96.here hx rfl (hb hby at_68) rfl k₀) ?_
  show GoOn p e below _ (T96.setTop (mkF m 70 #[.val (.int q0), .val (.int q1), .val (.int q2), .val (.long q3), .second, .val (.int k0), .val (.int k1), .val (.int k2), .val (.ref qa), .val (.ref cb), .unset, .unset, .unset] [(.int k1), (.int (1 : Int32)), (.ref cb)]))
  refine GoOn.step (fun t₀ k₀ => XS.iloadN X96.here hx rfl (hb hby at_70) rfl k₀) ?_
  show GoOn p e below _ (T96.setTop (mkF m 71 #[.val (.int q0), .val (.int q1), .val (.int q2), .val (.long q3), .second, .val (.int k0), .val (.int k1), .val (.int k2), .val (.ref qa), .val (.ref cb), .unset, .unset, .unset] [(.int q1), (.int k1), (.int (1 : Int32)), (.ref cb)]))
  refine GoOn.step (fun t₀ k₀ => XS.iloadN X96.here hx rfl (hb hby at_71) rfl k₀) ?_
  show GoOn p e below _ (T96.setTop (mkF m 72 #[.val (.int q0), .val (.int q1), .val (.int q2), .val (.long q3), .second, .val (.int k0), .val (.int k1), .val (.int k2), .val (.ref qa), .val (.ref cb), .unset, .unset, .unset] [(.int q2), (.int q1), (.int k1), (.int (1 : Int32)), (.ref cb)]))
  refine GoOn.step (fun t₀ k₀ => XS.aload X96.here hx rfl (hb hby at_72) rfl rfl k₀) ?_
  show GoOn p e below _ (T96.setTop (mkF m 74 #[.val (.int q0), .val (.int q1), .val (.int q2), .val (.long q3), .second, .val (.int k0), .val (.int k1), .val (.int k2), .val (.ref qa), .val (.ref cb), .unset, .unset, .unset] [(.ref qa), (.int q2), (.int q1), (.int k1), (.int (1 : Int32)), (.ref cb)]))
  obtain ⟨_, T97, L97, X97, hQ97, st97⟩ := kCallS X96 hx hZ (argsL := [(.ref cb), (.int (1 : Int32)), (.int k1), (.int q1), (.int q2), (.ref qa)]) (rest := []) (c_make l Z a0 hw cb qa (1 : Int32) k1 q1 q2 (Pn k0 0 0) T96.heap n0 Z0 CS le_cb ⟨by decide, by decide⟩ Ec Ex_qa) hown (hw _ (List.mem_of_getElem? (i := 15) rfl)) (hw _ (List.mem_of_getElem? (i := 16) rfl)) (hw _ (List.mem_of_getElem? (i := 17) rfl)) (hw _ (List.mem_of_getElem? (i := 18) rfl)) (by decide) rfl (g := (mkF m 74 #[.val (.int q0), .val (.int q1), .val (.int q2), .val (.long q3), .second, .val (.int k0), .val (.int k1), .val (.int k2), .val (.ref qa), .val (.ref cb), .unset, .unset, .unset] [(.ref qa), (.int q2), (.int q1), (.int k1), (.int (1 : Int32)), (.ref cb)])) rfl (by rw [hml]; rfl) (lenOf pd_5 rfl) rfl (W := 0) (by show 2 * 0 + _ ≤ _; exact Nat.le_of_eq rfl) (hb hby at_74) (by decide) (by decide) (by decide) (by decide)
  obtain ⟨rfl, N97, W97, C97⟩ := hQ97
  replace N0 := Fr.app N0 N97
  replace Ex_qa := exa_low Ex_qa W97 lq
  replace Z0 := Nat.le_trans Z0 W97.1
  replace CS : CBs Z T97.heap cb (Pn k0 k1 0) := step_if r1 C97 (fun i hi => by rw [show (1 : Int32).toNatClampNeg = 1 from by decide]; simp [Pn, or_assoc])
  replace Ec := cbs_exa CS
  refine GoOn.step st97 ?_
  show GoOn p e below _ (T97.setTop (mkF m 77 #[.val (.int q0), .val (.int q1), .val (.int q2), .val (.long q3), .second, .val (.int k0), .val (.int k1), .val (.int k2), .val (.ref qa), .val (.ref cb), .unset, .unset, .unset] []))
  refine GoOn.step (fun t₀ k₀ => XS.aload X97.here hx rfl (hb hby at_77) rfl rfl k₀) ?_
  show GoOn p e below _ (T97.setTop (mkF m 79 #[.val (.int q0), .val (.int q1), .val (.int q2), .val (.long q3), .second, .val (.int k0), .val (.int k1), .val (.int k2), .val (.ref qa), .val (.ref cb), .unset, .unset, .unset] [(.ref cb)]))
  refine GoOn.step (fun t₀ k₀ => XS.iconst X97.here hx rfl (hb hby at_79) k₀) ?_
  show GoOn p e below _ (T97.setTop (mkF m 80 #[.val (.int q0), .val (.int q1), .val (.int q2), .val (.long q3), .second, .val (.int k0), .val (.int k1), .val (.int k2), .val (.ref qa), .val (.ref cb), .unset, .unset, .unset] [(.int (2 : Int32)), (.ref cb)]))
  refine GoOn.step (fun t₀ k₀ => XS.iload X97.here hx rfl (hb hby at_80) rfl k₀) ?_
  show GoOn p e below _ (T97.setTop (mkF m 82 #[.val (.int q0), .val (.int q1), .val (.int q2), .val (.long q3), .second, .val (.int k0), .val (.int k1), .val (.int k2), .val (.ref qa), .val (.ref cb), .unset, .unset, .unset] [(.int k2), (.int (2 : Int32)), (.ref cb)]))
  refine GoOn.step (fun t₀ k₀ => XS.iloadN X97.here hx rfl (hb hby at_82) rfl k₀) ?_
  show GoOn p e below _ (T97.setTop (mkF m 83 #[.val (.int q0), .val (.int q1), .val (.int q2), .val (.long q3), .second, .val (.int k0), .val (.int k1), .val (.int k2), .val (.ref qa), .val (.ref cb), .unset, .unset, .unset] [(.int q1), (.int k2), (.int (2 : Int32)), (.ref cb)]))
  refine GoOn.step (fun t₀ k₀ => XS.iloadN X97.here hx rfl (hb hby at_83) rfl k₀) ?_
  show GoOn p e below _ (T97.setTop (mkF m 84 #[.val (.int q0), .val (.int q1), .val (.int q2), .val (.long q3), .second, .val (.int k0), .val (.int k1), .val (.int k2), .val (.ref qa), .val (.ref cb), .unset, .unset, .unset] [(.int q2), (.int q1), (.int k2), (.int (2 : Int32)), (.ref cb)]))
  refine GoOn.step (fun t₀ k₀ => XS.aload X97.here hx rfl (hb hby at_84) rfl rfl k₀) ?_
  show GoOn p e below _ (T97.setTop (mkF m 86 #[.val (.int q0), .val (.int q1), .val (.int q2), .val (.long q3), .second, .val (.int k0), .val (.int k1), .val (.int k2), .val (.ref qa), .val (.ref cb), .unset, .unset, .unset] [(.ref qa), (.int q2), (.int q1), (.int k2), (.int (2 : Int32)), (.ref cb)]))
  obtain ⟨_, T98, L98, X98, hQ98, st98⟩ := kCallS X97 hx hZ (argsL := [(.ref cb), (.int (2 : Int32)), (.int k2), (.int q1), (.int q2), (.ref qa)]) (rest := []) (c_make l Z a0 hw cb qa (2 : Int32) k2 q1 q2 (Pn k0 k1 0) T97.heap n0 Z0 CS le_cb ⟨by decide, by decide⟩ Ec Ex_qa) hown (hw _ (List.mem_of_getElem? (i := 15) rfl)) (hw _ (List.mem_of_getElem? (i := 16) rfl)) (hw _ (List.mem_of_getElem? (i := 17) rfl)) (hw _ (List.mem_of_getElem? (i := 18) rfl)) (by decide) rfl (g := (mkF m 86 #[.val (.int q0), .val (.int q1), .val (.int q2), .val (.long q3), .second, .val (.int k0), .val (.int k1), .val (.int k2), .val (.ref qa), .val (.ref cb), .unset, .unset, .unset] [(.ref qa), (.int q2), (.int q1), (.int k2), (.int (2 : Int32)), (.ref cb)])) rfl (by rw [hml]; rfl) (lenOf pd_5 rfl) rfl (W := 0) (by show 2 * 0 + _ ≤ _; exact Nat.le_of_eq rfl) (hb hby at_86) (by decide) (by decide) (by decide) (by decide)
  obtain ⟨rfl, N98, W98, C98⟩ := hQ98
  replace N0 := Fr.app N0 N98
  replace Ex_qa := exa_low Ex_qa W98 lq
  replace Z0 := Nat.le_trans Z0 W98.1
  replace CS : CBs Z T98.heap cb (Pn k0 k1 k2) := step_if r2 C98 (fun i hi => by rw [show (2 : Int32).toNatClampNeg = 2 from by decide]; simp [Pn, or_assoc])
  replace Ec := cbs_exa CS
  refine GoOn.step st98 ?_
  show GoOn p e below _ (T98.setTop (mkF m 89 #[.val (.int q0), .val (.int q1), .val (.int q2), .val (.long q3), .second, .val (.int k0), .val (.int k1), .val (.int k2), .val (.ref qa), .val (.ref cb), .unset, .unset, .unset] []))
  refine GoOn.step (fun t₀ k₀ => XS.aload X98.here hx rfl (hb hby at_89) rfl rfl k₀) ?_
  show GoOn p e below _ (T98.setTop (mkF m 91 #[.val (.int q0), .val (.int q1), .val (.int q2), .val (.long q3), .second, .val (.int k0), .val (.int k1), .val (.int k2), .val (.ref qa), .val (.ref cb), .unset, .unset, .unset] [(.ref cb)]))
  refine GoOn.step (fun t₀ k₀ => XS.iconst X98.here hx rfl (hb hby at_91) k₀) ?_
  show GoOn p e below _ (T98.setTop (mkF m 92 #[.val (.int q0), .val (.int q1), .val (.int q2), .val (.long q3), .second, .val (.int k0), .val (.int k1), .val (.int k2), .val (.ref qa), .val (.ref cb), .unset, .unset, .unset] [(.int (0 : Int32)), (.ref cb)]))
  obtain ⟨_, T99, L99, X99, hQ99, st99⟩ := kCallV X98 hx hZ (a := cb) (argsL := [(.int (0 : Int32))]) (rest := []) (c_has l Z a0 hw cb (0 : Int32) (Pn k0 k1 k2) _ CS ⟨by decide, by decide⟩) hown (hw _ (List.mem_of_getElem? (i := 19) rfl)) (hw _ (List.mem_of_getElem? (i := 20) rfl)) (notFace_of_selects (args := #[]) (mvT hZ (hw _ (List.mem_of_getElem? (i := 22) rfl)))) (hw _ (List.mem_of_getElem? (i := 22) rfl)) (hw _ (List.mem_of_getElem? (i := 21) rfl)) (hw _ (List.mem_of_getElem? (i := 4) rfl)) (hw _ (List.mem_of_getElem? (i := 23) rfl)) (by decide) rfl Ec (g := (mkF m 92 #[.val (.int q0), .val (.int q1), .val (.int q2), .val (.long q3), .second, .val (.int k0), .val (.int k1), .val (.int k2), .val (.ref qa), .val (.ref cb), .unset, .unset, .unset] [(.int (0 : Int32)), (.ref cb)])) rfl (by rw [hml]; rfl) (lenOf pd_6 rfl) rfl (W := 0) (by show 2 * 0 + _ ≤ _; exact Nat.le_of_eq rfl) (hb hby at_92) (by decide) (by decide) (by decide) (by decide)
  obtain ⟨rfl, rfl, e99⟩ := hQ99
  rw [List.append_nil] at X99
  refine GoOn.step st99 ?_
  show GoOn p e below _ (T99.setTop (mkF m 95 #[.val (.int q0), .val (.int q1), .val (.int q2), .val (.long q3), .second, .val (.int k0), .val (.int k1), .val (.int k2), .val (.ref qa), .val (.ref cb), .unset, .unset, .unset] [(.int (if Pn k0 k1 k2 (0 : Int32).toNatClampNeg then (1 : Int32) else 0))]))
  generalize he0 : (if Pn k0 k1 k2 (0 : Int32).toNatClampNeg then (1 : Int32) else 0) = e0
  have he0I := congrArg Int32.toInt he0
  refine GoOn.step (fun t₀ k₀ => XS.istore X99.here hx rfl (hb hby at_95) rfl (l' := #[.val (.int q0), .val (.int q1), .val (.int q2), .val (.long q3), .second, .val (.int k0), .val (.int k1), .val (.int k2), .val (.ref qa), .val (.ref cb), .val (.int e0), .unset, .unset]) rfl k₀) ?_
  show GoOn p e below _ (T99.setTop (mkF m 97 #[.val (.int q0), .val (.int q1), .val (.int q2), .val (.long q3), .second, .val (.int k0), .val (.int k1), .val (.int k2), .val (.ref qa), .val (.ref cb), .val (.int e0), .unset, .unset] []))
  refine GoOn.step (fun t₀ k₀ => XS.aload X99.here hx rfl (hb hby at_97) rfl rfl k₀) ?_
  show GoOn p e below _ (T99.setTop (mkF m 99 #[.val (.int q0), .val (.int q1), .val (.int q2), .val (.long q3), .second, .val (.int k0), .val (.int k1), .val (.int k2), .val (.ref qa), .val (.ref cb), .val (.int e0), .unset, .unset] [(.ref cb)]))
  refine GoOn.step (fun t₀ k₀ => XS.iconst X99.here hx rfl (hb hby at_99) k₀) ?_
  show GoOn p e below _ (T99.setTop (mkF m 100 #[.val (.int q0), .val (.int q1), .val (.int q2), .val (.long q3), .second, .val (.int k0), .val (.int k1), .val (.int k2), .val (.ref qa), .val (.ref cb), .val (.int e0), .unset, .unset] [(.int (1 : Int32)), (.ref cb)]))
  obtain ⟨_, T100, L100, X100, hQ100, st100⟩ := kCallV X99 hx hZ (a := cb) (argsL := [(.int (1 : Int32))]) (rest := []) (c_has l Z a0 hw cb (1 : Int32) (Pn k0 k1 k2) _ CS ⟨by decide, by decide⟩) hown (hw _ (List.mem_of_getElem? (i := 19) rfl)) (hw _ (List.mem_of_getElem? (i := 20) rfl)) (notFace_of_selects (args := #[]) (mvT hZ (hw _ (List.mem_of_getElem? (i := 22) rfl)))) (hw _ (List.mem_of_getElem? (i := 22) rfl)) (hw _ (List.mem_of_getElem? (i := 21) rfl)) (hw _ (List.mem_of_getElem? (i := 4) rfl)) (hw _ (List.mem_of_getElem? (i := 23) rfl)) (by decide) e99 Ec (g := (mkF m 100 #[.val (.int q0), .val (.int q1), .val (.int q2), .val (.long q3), .second, .val (.int k0), .val (.int k1), .val (.int k2), .val (.ref qa), .val (.ref cb), .val (.int e0), .unset, .unset] [(.int (1 : Int32)), (.ref cb)])) rfl (by rw [hml]; rfl) (lenOf pd_6 rfl) rfl (W := 0) (by show 2 * 0 + _ ≤ _; exact Nat.le_of_eq rfl) (hb hby at_100) (by decide) (by decide) (by decide) (by decide)
  obtain ⟨rfl, rfl, e100⟩ := hQ100
  rw [List.append_nil] at X100
  refine GoOn.step st100 ?_
  show GoOn p e below _ (T100.setTop (mkF m 103 #[.val (.int q0), .val (.int q1), .val (.int q2), .val (.long q3), .second, .val (.int k0), .val (.int k1), .val (.int k2), .val (.ref qa), .val (.ref cb), .val (.int e0), .unset, .unset] [(.int (if Pn k0 k1 k2 (1 : Int32).toNatClampNeg then (1 : Int32) else 0))]))
  generalize he1 : (if Pn k0 k1 k2 (1 : Int32).toNatClampNeg then (1 : Int32) else 0) = e1
  have he1I := congrArg Int32.toInt he1
  refine GoOn.step (fun t₀ k₀ => XS.istore X100.here hx rfl (hb hby at_103) rfl (l' := #[.val (.int q0), .val (.int q1), .val (.int q2), .val (.long q3), .second, .val (.int k0), .val (.int k1), .val (.int k2), .val (.ref qa), .val (.ref cb), .val (.int e0), .val (.int e1), .unset]) rfl k₀) ?_
  show GoOn p e below _ (T100.setTop (mkF m 105 #[.val (.int q0), .val (.int q1), .val (.int q2), .val (.long q3), .second, .val (.int k0), .val (.int k1), .val (.int k2), .val (.ref qa), .val (.ref cb), .val (.int e0), .val (.int e1), .unset] []))
  refine GoOn.step (fun t₀ k₀ => XS.aload X100.here hx rfl (hb hby at_105) rfl rfl k₀) ?_
  show GoOn p e below _ (T100.setTop (mkF m 107 #[.val (.int q0), .val (.int q1), .val (.int q2), .val (.long q3), .second, .val (.int k0), .val (.int k1), .val (.int k2), .val (.ref qa), .val (.ref cb), .val (.int e0), .val (.int e1), .unset] [(.ref cb)]))
  refine GoOn.step (fun t₀ k₀ => XS.iconst X100.here hx rfl (hb hby at_107) k₀) ?_
  show GoOn p e below _ (T100.setTop (mkF m 108 #[.val (.int q0), .val (.int q1), .val (.int q2), .val (.long q3), .second, .val (.int k0), .val (.int k1), .val (.int k2), .val (.ref qa), .val (.ref cb), .val (.int e0), .val (.int e1), .unset] [(.int (2 : Int32)), (.ref cb)]))
  obtain ⟨_, T101, L101, X101, hQ101, st101⟩ := kCallV X100 hx hZ (a := cb) (argsL := [(.int (2 : Int32))]) (rest := []) (c_has l Z a0 hw cb (2 : Int32) (Pn k0 k1 k2) _ CS ⟨by decide, by decide⟩) hown (hw _ (List.mem_of_getElem? (i := 19) rfl)) (hw _ (List.mem_of_getElem? (i := 20) rfl)) (notFace_of_selects (args := #[]) (mvT hZ (hw _ (List.mem_of_getElem? (i := 22) rfl)))) (hw _ (List.mem_of_getElem? (i := 22) rfl)) (hw _ (List.mem_of_getElem? (i := 21) rfl)) (hw _ (List.mem_of_getElem? (i := 4) rfl)) (hw _ (List.mem_of_getElem? (i := 23) rfl)) (by decide) e100 Ec (g := (mkF m 108 #[.val (.int q0), .val (.int q1), .val (.int q2), .val (.long q3), .second, .val (.int k0), .val (.int k1), .val (.int k2), .val (.ref qa), .val (.ref cb), .val (.int e0), .val (.int e1), .unset] [(.int (2 : Int32)), (.ref cb)])) rfl (by rw [hml]; rfl) (lenOf pd_6 rfl) rfl (W := 0) (by show 2 * 0 + _ ≤ _; exact Nat.le_of_eq rfl) (hb hby at_108) (by decide) (by decide) (by decide) (by decide)
  obtain ⟨rfl, rfl, e101⟩ := hQ101
  rw [List.append_nil] at X101
  refine GoOn.step st101 ?_
  show GoOn p e below _ (T101.setTop (mkF m 111 #[.val (.int q0), .val (.int q1), .val (.int q2), .val (.long q3), .second, .val (.int k0), .val (.int k1), .val (.int k2), .val (.ref qa), .val (.ref cb), .val (.int e0), .val (.int e1), .unset] [(.int (if Pn k0 k1 k2 (2 : Int32).toNatClampNeg then (1 : Int32) else 0))]))
  generalize he2 : (if Pn k0 k1 k2 (2 : Int32).toNatClampNeg then (1 : Int32) else 0) = e2
  have he2I := congrArg Int32.toInt he2
  refine GoOn.step (fun t₀ k₀ => XS.istore X101.here hx rfl (hb hby at_111) rfl (l' := #[.val (.int q0), .val (.int q1), .val (.int q2), .val (.long q3), .second, .val (.int k0), .val (.int k1), .val (.int k2), .val (.ref qa), .val (.ref cb), .val (.int e0), .val (.int e1), .val (.int e2)]) rfl k₀) ?_
  show GoOn p e below _ (T101.setTop (mkF m 113 #[.val (.int q0), .val (.int q1), .val (.int q2), .val (.long q3), .second, .val (.int k0), .val (.int k1), .val (.int k2), .val (.ref qa), .val (.ref cb), .val (.int e0), .val (.int e1), .val (.int e2)] []))
  refine GoOn.step (fun t₀ k₀ => XS.iload X101.here hx rfl (hb hby at_113) rfl k₀) ?_
  show GoOn p e below _ (T101.setTop (mkF m 115 #[.val (.int q0), .val (.int q1), .val (.int q2), .val (.long q3), .second, .val (.int k0), .val (.int k1), .val (.int k2), .val (.ref qa), .val (.ref cb), .val (.int e0), .val (.int e1), .val (.int e2)] [(.int e0)]))
  refine GoOn.step (fun t₀ k₀ => XS.iload X101.here hx rfl (hb hby at_115) rfl k₀) ?_
  show GoOn p e below _ (T101.setTop (mkF m 117 #[.val (.int q0), .val (.int q1), .val (.int q2), .val (.long q3), .second, .val (.int k0), .val (.int k1), .val (.int k2), .val (.ref qa), .val (.ref cb), .val (.int e0), .val (.int e1), .val (.int e2)] [(.int k0), (.int e0)]))
  have ev0 : e0 = if k0 = 0 then 0 else 1 := by rw [← he0, show (0 : Int32).toNatClampNeg = 0 from by decide]; by_cases c : k0 = 0 <;> simp [Pn, c]
  by_cases d0 : k0 = (0 : Int32)
  · refine GoOn.step (fun t₀ k₀ => XS.ifYes X101.here hx rfl (pc0 := 117) (pc' := 124) rfl (hb hby at_117) rfl ((if0 _ _).trans (teq d0).1) (by decide) (by decide) k₀) ?_
    show GoOn p e below _ (T101.setTop (mkF m 124 #[.val (.int q0), .val (.int q1), .val (.int q2), .val (.long q3), .second, .val (.int k0), .val (.int k1), .val (.int k2), .val (.ref qa), .val (.ref cb), .val (.int e0), .val (.int e1), .val (.int e2)] [(.int e0)]))
    refine GoOn.step (fun t₀ k₀ => XS.iconst X101.here hx rfl (hb hby at_124) k₀) ?_
    show GoOn p e below _ (T101.setTop (mkF m 125 #[.val (.int q0), .val (.int q1), .val (.int q2), .val (.long q3), .second, .val (.int k0), .val (.int k1), .val (.int k2), .val (.ref qa), .val (.ref cb), .val (.int e0), .val (.int e1), .val (.int e2)] [(.int (0 : Int32)), (.int e0)]))
    have hf102 : e0 = (0 : Int32) := (by rw [ev0, if_pos d0])
    refine GoOn.step (fun t₀ k₀ => XS.icmpNo X101.here hx rfl (hb hby at_125) rfl (teq hf102).2 k₀) ?_
    show GoOn p e below _ (T101.setTop (mkF m 128 #[.val (.int q0), .val (.int q1), .val (.int q2), .val (.long q3), .second, .val (.int k0), .val (.int k1), .val (.int k2), .val (.ref qa), .val (.ref cb), .val (.int e0), .val (.int e1), .val (.int e2)] []))
    refine GoOn.step (fun t₀ k₀ => XS.iload X101.here hx rfl (hb hby at_128) rfl k₀) ?_
    show GoOn p e below _ (T101.setTop (mkF m 130 #[.val (.int q0), .val (.int q1), .val (.int q2), .val (.long q3), .second, .val (.int k0), .val (.int k1), .val (.int k2), .val (.ref qa), .val (.ref cb), .val (.int e0), .val (.int e1), .val (.int e2)] [(.int e1)]))
    refine GoOn.step (fun t₀ k₀ => XS.iload X101.here hx rfl (hb hby at_130) rfl k₀) ?_
    show GoOn p e below _ (T101.setTop (mkF m 132 #[.val (.int q0), .val (.int q1), .val (.int q2), .val (.long q3), .second, .val (.int k0), .val (.int k1), .val (.int k2), .val (.ref qa), .val (.ref cb), .val (.int e0), .val (.int e1), .val (.int e2)] [(.int k1), (.int e1)]))
    have ev1 : e1 = if k1 = 0 then 0 else 1 := by rw [← he1, show (1 : Int32).toNatClampNeg = 1 from by decide]; by_cases c : k1 = 0 <;> simp [Pn, c]
    by_cases d1 : k1 = (0 : Int32)
    · refine GoOn.step (fun t₀ k₀ => XS.ifYes X101.here hx rfl (pc0 := 132) (pc' := 139) rfl (hb hby at_132) rfl ((if0 _ _).trans (teq d1).1) (by decide) (by decide) k₀) ?_
      show GoOn p e below _ (T101.setTop (mkF m 139 #[.val (.int q0), .val (.int q1), .val (.int q2), .val (.long q3), .second, .val (.int k0), .val (.int k1), .val (.int k2), .val (.ref qa), .val (.ref cb), .val (.int e0), .val (.int e1), .val (.int e2)] [(.int e1)]))
      refine GoOn.step (fun t₀ k₀ => XS.iconst X101.here hx rfl (hb hby at_139) k₀) ?_
      show GoOn p e below _ (T101.setTop (mkF m 140 #[.val (.int q0), .val (.int q1), .val (.int q2), .val (.long q3), .second, .val (.int k0), .val (.int k1), .val (.int k2), .val (.ref qa), .val (.ref cb), .val (.int e0), .val (.int e1), .val (.int e2)] [(.int (0 : Int32)), (.int e1)]))
      have hf104 : e1 = (0 : Int32) := (by rw [ev1, if_pos d1])
      refine GoOn.step (fun t₀ k₀ => XS.icmpNo X101.here hx rfl (hb hby at_140) rfl (teq hf104).2 k₀) ?_
      show GoOn p e below _ (T101.setTop (mkF m 143 #[.val (.int q0), .val (.int q1), .val (.int q2), .val (.long q3), .second, .val (.int k0), .val (.int k1), .val (.int k2), .val (.ref qa), .val (.ref cb), .val (.int e0), .val (.int e1), .val (.int e2)] []))
      refine GoOn.step (fun t₀ k₀ => XS.iload X101.here hx rfl (hb hby at_143) rfl k₀) ?_
      show GoOn p e below _ (T101.setTop (mkF m 145 #[.val (.int q0), .val (.int q1), .val (.int q2), .val (.long q3), .second, .val (.int k0), .val (.int k1), .val (.int k2), .val (.ref qa), .val (.ref cb), .val (.int e0), .val (.int e1), .val (.int e2)] [(.int e2)]))
      refine GoOn.step (fun t₀ k₀ => XS.iload X101.here hx rfl (hb hby at_145) rfl k₀) ?_
      show GoOn p e below _ (T101.setTop (mkF m 147 #[.val (.int q0), .val (.int q1), .val (.int q2), .val (.long q3), .second, .val (.int k0), .val (.int k1), .val (.int k2), .val (.ref qa), .val (.ref cb), .val (.int e0), .val (.int e1), .val (.int e2)] [(.int k2), (.int e2)]))
      have ev2 : e2 = if k2 = 0 then 0 else 1 := by rw [← he2, show (2 : Int32).toNatClampNeg = 2 from by decide]; by_cases c : k2 = 0 <;> simp [Pn, c]
      by_cases d2 : k2 = (0 : Int32)
      · refine GoOn.step (fun t₀ k₀ => XS.ifYes X101.here hx rfl (pc0 := 147) (pc' := 154) rfl (hb hby at_147) rfl ((if0 _ _).trans (teq d2).1) (by decide) (by decide) k₀) ?_
        show GoOn p e below _ (T101.setTop (mkF m 154 #[.val (.int q0), .val (.int q1), .val (.int q2), .val (.long q3), .second, .val (.int k0), .val (.int k1), .val (.int k2), .val (.ref qa), .val (.ref cb), .val (.int e0), .val (.int e1), .val (.int e2)] [(.int e2)]))
        refine GoOn.step (fun t₀ k₀ => XS.iconst X101.here hx rfl (hb hby at_154) k₀) ?_
        show GoOn p e below _ (T101.setTop (mkF m 155 #[.val (.int q0), .val (.int q1), .val (.int q2), .val (.long q3), .second, .val (.int k0), .val (.int k1), .val (.int k2), .val (.ref qa), .val (.ref cb), .val (.int e0), .val (.int e1), .val (.int e2)] [(.int (0 : Int32)), (.int e2)]))
        have hf105 : e2 = (0 : Int32) := (by rw [ev2, if_pos d2])
        refine GoOn.step (fun t₀ k₀ => XS.icmpNo X101.here hx rfl (hb hby at_155) rfl (teq hf105).2 k₀) ?_
        show GoOn p e below _ (T101.setTop (mkF m 158 #[.val (.int q0), .val (.int q1), .val (.int q2), .val (.long q3), .second, .val (.int k0), .val (.int k1), .val (.int k2), .val (.ref qa), .val (.ref cb), .val (.int e0), .val (.int e1), .val (.int e2)] []))
        refine GoOn.step (fun t₀ k₀ => XS.iconst X101.here hx rfl (hb hby at_158) k₀) ?_
        show GoOn p e below _ (T101.setTop (mkF m 159 #[.val (.int q0), .val (.int q1), .val (.int q2), .val (.long q3), .second, .val (.int k0), .val (.int k1), .val (.int k2), .val (.ref qa), .val (.ref cb), .val (.int e0), .val (.int e1), .val (.int e2)] [(.int (1 : Int32))]))
        refine GoOn.step (fun t₀ k₀ => XS.goto X101.here hx rfl (pc0 := 159) (pc' := 163) rfl (hb hby at_159) (by decide) (by decide) k₀) ?_
        show GoOn p e below _ (T101.setTop (mkF m 163 #[.val (.int q0), .val (.int q1), .val (.int q2), .val (.long q3), .second, .val (.int k0), .val (.int k1), .val (.int k2), .val (.ref qa), .val (.ref cb), .val (.int e0), .val (.int e1), .val (.int e2)] [(.int (1 : Int32))]))
        exact GoOn.retN X101 hx hrt hlk (by simp) (hb hby at_163) (by decide) (by decide) (by first | exact ⟨rfl, N0⟩ | (rw [e101]; exact ⟨rfl, N0⟩))
      · refine GoOn.step (fun t₀ k₀ => XS.ifNo X101.here hx rfl (hb hby at_147) rfl ((if0 _ _).trans (feq d2).1) k₀) ?_
        show GoOn p e below _ (T101.setTop (mkF m 150 #[.val (.int q0), .val (.int q1), .val (.int q2), .val (.long q3), .second, .val (.int k0), .val (.int k1), .val (.int k2), .val (.ref qa), .val (.ref cb), .val (.int e0), .val (.int e1), .val (.int e2)] [(.int e2)]))
        refine GoOn.step (fun t₀ k₀ => XS.iconst X101.here hx rfl (hb hby at_150) k₀) ?_
        show GoOn p e below _ (T101.setTop (mkF m 151 #[.val (.int q0), .val (.int q1), .val (.int q2), .val (.long q3), .second, .val (.int k0), .val (.int k1), .val (.int k2), .val (.ref qa), .val (.ref cb), .val (.int e0), .val (.int e1), .val (.int e2)] [(.int (1 : Int32)), (.int e2)]))
        refine GoOn.step (fun t₀ k₀ => XS.goto X101.here hx rfl (pc0 := 151) (pc' := 155) rfl (hb hby at_151) (by decide) (by decide) k₀) ?_
        show GoOn p e below _ (T101.setTop (mkF m 155 #[.val (.int q0), .val (.int q1), .val (.int q2), .val (.long q3), .second, .val (.int k0), .val (.int k1), .val (.int k2), .val (.ref qa), .val (.ref cb), .val (.int e0), .val (.int e1), .val (.int e2)] [(.int (1 : Int32)), (.int e2)]))
        have hf106 : e2 = (1 : Int32) := (by rw [ev2, if_neg d2])
        refine GoOn.step (fun t₀ k₀ => XS.icmpNo X101.here hx rfl (hb hby at_155) rfl (teq hf106).2 k₀) ?_
        show GoOn p e below _ (T101.setTop (mkF m 158 #[.val (.int q0), .val (.int q1), .val (.int q2), .val (.long q3), .second, .val (.int k0), .val (.int k1), .val (.int k2), .val (.ref qa), .val (.ref cb), .val (.int e0), .val (.int e1), .val (.int e2)] []))
        refine GoOn.step (fun t₀ k₀ => XS.iconst X101.here hx rfl (hb hby at_158) k₀) ?_
        show GoOn p e below _ (T101.setTop (mkF m 159 #[.val (.int q0), .val (.int q1), .val (.int q2), .val (.long q3), .second, .val (.int k0), .val (.int k1), .val (.int k2), .val (.ref qa), .val (.ref cb), .val (.int e0), .val (.int e1), .val (.int e2)] [(.int (1 : Int32))]))
        refine GoOn.step (fun t₀ k₀ => XS.goto X101.here hx rfl (pc0 := 159) (pc' := 163) rfl (hb hby at_159) (by decide) (by decide) k₀) ?_
        show GoOn p e below _ (T101.setTop (mkF m 163 #[.val (.int q0), .val (.int q1), .val (.int q2), .val (.long q3), .second, .val (.int k0), .val (.int k1), .val (.int k2), .val (.ref qa), .val (.ref cb), .val (.int e0), .val (.int e1), .val (.int e2)] [(.int (1 : Int32))]))
        exact GoOn.retN X101 hx hrt hlk (by simp) (hb hby at_163) (by decide) (by decide) (by first | exact ⟨rfl, N0⟩ | (rw [e101]; exact ⟨rfl, N0⟩))
    · refine GoOn.step (fun t₀ k₀ => XS.ifNo X101.here hx rfl (hb hby at_132) rfl ((if0 _ _).trans (feq d1).1) k₀) ?_
      show GoOn p e below _ (T101.setTop (mkF m 135 #[.val (.int q0), .val (.int q1), .val (.int q2), .val (.long q3), .second, .val (.int k0), .val (.int k1), .val (.int k2), .val (.ref qa), .val (.ref cb), .val (.int e0), .val (.int e1), .val (.int e2)] [(.int e1)]))
      refine GoOn.step (fun t₀ k₀ => XS.iconst X101.here hx rfl (hb hby at_135) k₀) ?_
      show GoOn p e below _ (T101.setTop (mkF m 136 #[.val (.int q0), .val (.int q1), .val (.int q2), .val (.long q3), .second, .val (.int k0), .val (.int k1), .val (.int k2), .val (.ref qa), .val (.ref cb), .val (.int e0), .val (.int e1), .val (.int e2)] [(.int (1 : Int32)), (.int e1)]))
      refine GoOn.step (fun t₀ k₀ => XS.goto X101.here hx rfl (pc0 := 136) (pc' := 140) rfl (hb hby at_136) (by decide) (by decide) k₀) ?_
      show GoOn p e below _ (T101.setTop (mkF m 140 #[.val (.int q0), .val (.int q1), .val (.int q2), .val (.long q3), .second, .val (.int k0), .val (.int k1), .val (.int k2), .val (.ref qa), .val (.ref cb), .val (.int e0), .val (.int e1), .val (.int e2)] [(.int (1 : Int32)), (.int e1)]))
      have hf107 : e1 = (1 : Int32) := (by rw [ev1, if_neg d1])
      refine GoOn.step (fun t₀ k₀ => XS.icmpNo X101.here hx rfl (hb hby at_140) rfl (teq hf107).2 k₀) ?_
      show GoOn p e below _ (T101.setTop (mkF m 143 #[.val (.int q0), .val (.int q1), .val (.int q2), .val (.long q3), .second, .val (.int k0), .val (.int k1), .val (.int k2), .val (.ref qa), .val (.ref cb), .val (.int e0), .val (.int e1), .val (.int e2)] []))
      refine GoOn.step (fun t₀ k₀ => XS.iload X101.here hx rfl (hb hby at_143) rfl k₀) ?_
      show GoOn p e below _ (T101.setTop (mkF m 145 #[.val (.int q0), .val (.int q1), .val (.int q2), .val (.long q3), .second, .val (.int k0), .val (.int k1), .val (.int k2), .val (.ref qa), .val (.ref cb), .val (.int e0), .val (.int e1), .val (.int e2)] [(.int e2)]))
      refine GoOn.step (fun t₀ k₀ => XS.iload X101.here hx rfl (hb hby at_145) rfl k₀) ?_
      show GoOn p e below _ (T101.setTop (mkF m 147 #[.val (.int q0), .val (.int q1), .val (.int q2), .val (.long q3), .second, .val (.int k0), .val (.int k1), .val (.int k2), .val (.ref qa), .val (.ref cb), .val (.int e0), .val (.int e1), .val (.int e2)] [(.int k2), (.int e2)]))
      have ev2 : e2 = if k2 = 0 then 0 else 1 := by rw [← he2, show (2 : Int32).toNatClampNeg = 2 from by decide]; by_cases c : k2 = 0 <;> simp [Pn, c]
      by_cases d2 : k2 = (0 : Int32)
      · refine GoOn.step (fun t₀ k₀ => XS.ifYes X101.here hx rfl (pc0 := 147) (pc' := 154) rfl (hb hby at_147) rfl ((if0 _ _).trans (teq d2).1) (by decide) (by decide) k₀) ?_
        show GoOn p e below _ (T101.setTop (mkF m 154 #[.val (.int q0), .val (.int q1), .val (.int q2), .val (.long q3), .second, .val (.int k0), .val (.int k1), .val (.int k2), .val (.ref qa), .val (.ref cb), .val (.int e0), .val (.int e1), .val (.int e2)] [(.int e2)]))
        refine GoOn.step (fun t₀ k₀ => XS.iconst X101.here hx rfl (hb hby at_154) k₀) ?_
        show GoOn p e below _ (T101.setTop (mkF m 155 #[.val (.int q0), .val (.int q1), .val (.int q2), .val (.long q3), .second, .val (.int k0), .val (.int k1), .val (.int k2), .val (.ref qa), .val (.ref cb), .val (.int e0), .val (.int e1), .val (.int e2)] [(.int (0 : Int32)), (.int e2)]))
        have hf108 : e2 = (0 : Int32) := (by rw [ev2, if_pos d2])
        refine GoOn.step (fun t₀ k₀ => XS.icmpNo X101.here hx rfl (hb hby at_155) rfl (teq hf108).2 k₀) ?_
        show GoOn p e below _ (T101.setTop (mkF m 158 #[.val (.int q0), .val (.int q1), .val (.int q2), .val (.long q3), .second, .val (.int k0), .val (.int k1), .val (.int k2), .val (.ref qa), .val (.ref cb), .val (.int e0), .val (.int e1), .val (.int e2)] []))
        refine GoOn.step (fun t₀ k₀ => XS.iconst X101.here hx rfl (hb hby at_158) k₀) ?_
        show GoOn p e below _ (T101.setTop (mkF m 159 #[.val (.int q0), .val (.int q1), .val (.int q2), .val (.long q3), .second, .val (.int k0), .val (.int k1), .val (.int k2), .val (.ref qa), .val (.ref cb), .val (.int e0), .val (.int e1), .val (.int e2)] [(.int (1 : Int32))]))
        refine GoOn.step (fun t₀ k₀ => XS.goto X101.here hx rfl (pc0 := 159) (pc' := 163) rfl (hb hby at_159) (by decide) (by decide) k₀) ?_
        show GoOn p e below _ (T101.setTop (mkF m 163 #[.val (.int q0), .val (.int q1), .val (.int q2), .val (.long q3), .second, .val (.int k0), .val (.int k1), .val (.int k2), .val (.ref qa), .val (.ref cb), .val (.int e0), .val (.int e1), .val (.int e2)] [(.int (1 : Int32))]))
        exact GoOn.retN X101 hx hrt hlk (by simp) (hb hby at_163) (by decide) (by decide) (by first | exact ⟨rfl, N0⟩ | (rw [e101]; exact ⟨rfl, N0⟩))
      · refine GoOn.step (fun t₀ k₀ => XS.ifNo X101.here hx rfl (hb hby at_147) rfl ((if0 _ _).trans (feq d2).1) k₀) ?_
        show GoOn p e below _ (T101.setTop (mkF m 150 #[.val (.int q0), .val (.int q1), .val (.int q2), .val (.long q3), .second, .val (.int k0), .val (.int k1), .val (.int k2), .val (.ref qa), .val (.ref cb), .val (.int e0), .val (.int e1), .val (.int e2)] [(.int e2)]))
        refine GoOn.step (fun t₀ k₀ => XS.iconst X101.here hx rfl (hb hby at_150) k₀) ?_
        show GoOn p e below _ (T101.setTop (mkF m 151 #[.val (.int q0), .val (.int q1), .val (.int q2), .val (.long q3), .second, .val (.int k0), .val (.int k1), .val (.int k2), .val (.ref qa), .val (.ref cb), .val (.int e0), .val (.int e1), .val (.int e2)] [(.int (1 : Int32)), (.int e2)]))
        refine GoOn.step (fun t₀ k₀ => XS.goto X101.here hx rfl (pc0 := 151) (pc' := 155) rfl (hb hby at_151) (by decide) (by decide) k₀) ?_
        show GoOn p e below _ (T101.setTop (mkF m 155 #[.val (.int q0), .val (.int q1), .val (.int q2), .val (.long q3), .second, .val (.int k0), .val (.int k1), .val (.int k2), .val (.ref qa), .val (.ref cb), .val (.int e0), .val (.int e1), .val (.int e2)] [(.int (1 : Int32)), (.int e2)]))
        have hf109 : e2 = (1 : Int32) := (by rw [ev2, if_neg d2])
        refine GoOn.step (fun t₀ k₀ => XS.icmpNo X101.here hx rfl (hb hby at_155) rfl (teq hf109).2 k₀) ?_
        show GoOn p e below _ (T101.setTop (mkF m 158 #[.val (.int q0), .val (.int q1), .val (.int q2), .val (.long q3), .second, .val (.int k0), .val (.int k1), .val (.int k2), .val (.ref qa), .val (.ref cb), .val (.int e0), .val (.int e1), .val (.int e2)] []))
        refine GoOn.step (fun t₀ k₀ => XS.iconst X101.here hx rfl (hb hby at_158) k₀) ?_
        show GoOn p e below _ (T101.setTop (mkF m 159 #[.val (.int q0), .val (.int q1), .val (.int q2), .val (.long q3), .second, .val (.int k0), .val (.int k1), .val (.int k2), .val (.ref qa), .val (.ref cb), .val (.int e0), .val (.int e1), .val (.int e2)] [(.int (1 : Int32))]))
        refine GoOn.step (fun t₀ k₀ => XS.goto X101.here hx rfl (pc0 := 159) (pc' := 163) rfl (hb hby at_159) (by decide) (by decide) k₀) ?_
        show GoOn p e below _ (T101.setTop (mkF m 163 #[.val (.int q0), .val (.int q1), .val (.int q2), .val (.long q3), .second, .val (.int k0), .val (.int k1), .val (.int k2), .val (.ref qa), .val (.ref cb), .val (.int e0), .val (.int e1), .val (.int e2)] [(.int (1 : Int32))]))
        exact GoOn.retN X101 hx hrt hlk (by simp) (hb hby at_163) (by decide) (by decide) (by first | exact ⟨rfl, N0⟩ | (rw [e101]; exact ⟨rfl, N0⟩))
  · refine GoOn.step (fun t₀ k₀ => XS.ifNo X101.here hx rfl (hb hby at_117) rfl ((if0 _ _).trans (feq d0).1) k₀) ?_
    show GoOn p e below _ (T101.setTop (mkF m 120 #[.val (.int q0), .val (.int q1), .val (.int q2), .val (.long q3), .second, .val (.int k0), .val (.int k1), .val (.int k2), .val (.ref qa), .val (.ref cb), .val (.int e0), .val (.int e1), .val (.int e2)] [(.int e0)]))
    refine GoOn.step (fun t₀ k₀ => XS.iconst X101.here hx rfl (hb hby at_120) k₀) ?_
    show GoOn p e below _ (T101.setTop (mkF m 121 #[.val (.int q0), .val (.int q1), .val (.int q2), .val (.long q3), .second, .val (.int k0), .val (.int k1), .val (.int k2), .val (.ref qa), .val (.ref cb), .val (.int e0), .val (.int e1), .val (.int e2)] [(.int (1 : Int32)), (.int e0)]))
    refine GoOn.step (fun t₀ k₀ => XS.goto X101.here hx rfl (pc0 := 121) (pc' := 125) rfl (hb hby at_121) (by decide) (by decide) k₀) ?_
    show GoOn p e below _ (T101.setTop (mkF m 125 #[.val (.int q0), .val (.int q1), .val (.int q2), .val (.long q3), .second, .val (.int k0), .val (.int k1), .val (.int k2), .val (.ref qa), .val (.ref cb), .val (.int e0), .val (.int e1), .val (.int e2)] [(.int (1 : Int32)), (.int e0)]))
    have hf103 : e0 = (1 : Int32) := (by rw [ev0, if_neg d0])
    refine GoOn.step (fun t₀ k₀ => XS.icmpNo X101.here hx rfl (hb hby at_125) rfl (teq hf103).2 k₀) ?_
    show GoOn p e below _ (T101.setTop (mkF m 128 #[.val (.int q0), .val (.int q1), .val (.int q2), .val (.long q3), .second, .val (.int k0), .val (.int k1), .val (.int k2), .val (.ref qa), .val (.ref cb), .val (.int e0), .val (.int e1), .val (.int e2)] []))
    refine GoOn.step (fun t₀ k₀ => XS.iload X101.here hx rfl (hb hby at_128) rfl k₀) ?_
    show GoOn p e below _ (T101.setTop (mkF m 130 #[.val (.int q0), .val (.int q1), .val (.int q2), .val (.long q3), .second, .val (.int k0), .val (.int k1), .val (.int k2), .val (.ref qa), .val (.ref cb), .val (.int e0), .val (.int e1), .val (.int e2)] [(.int e1)]))
    refine GoOn.step (fun t₀ k₀ => XS.iload X101.here hx rfl (hb hby at_130) rfl k₀) ?_
    show GoOn p e below _ (T101.setTop (mkF m 132 #[.val (.int q0), .val (.int q1), .val (.int q2), .val (.long q3), .second, .val (.int k0), .val (.int k1), .val (.int k2), .val (.ref qa), .val (.ref cb), .val (.int e0), .val (.int e1), .val (.int e2)] [(.int k1), (.int e1)]))
    have ev1 : e1 = if k1 = 0 then 0 else 1 := by rw [← he1, show (1 : Int32).toNatClampNeg = 1 from by decide]; by_cases c : k1 = 0 <;> simp [Pn, c]
    by_cases d1 : k1 = (0 : Int32)
    · refine GoOn.step (fun t₀ k₀ => XS.ifYes X101.here hx rfl (pc0 := 132) (pc' := 139) rfl (hb hby at_132) rfl ((if0 _ _).trans (teq d1).1) (by decide) (by decide) k₀) ?_
      show GoOn p e below _ (T101.setTop (mkF m 139 #[.val (.int q0), .val (.int q1), .val (.int q2), .val (.long q3), .second, .val (.int k0), .val (.int k1), .val (.int k2), .val (.ref qa), .val (.ref cb), .val (.int e0), .val (.int e1), .val (.int e2)] [(.int e1)]))
      refine GoOn.step (fun t₀ k₀ => XS.iconst X101.here hx rfl (hb hby at_139) k₀) ?_
      show GoOn p e below _ (T101.setTop (mkF m 140 #[.val (.int q0), .val (.int q1), .val (.int q2), .val (.long q3), .second, .val (.int k0), .val (.int k1), .val (.int k2), .val (.ref qa), .val (.ref cb), .val (.int e0), .val (.int e1), .val (.int e2)] [(.int (0 : Int32)), (.int e1)]))
      have hf110 : e1 = (0 : Int32) := (by rw [ev1, if_pos d1])
      refine GoOn.step (fun t₀ k₀ => XS.icmpNo X101.here hx rfl (hb hby at_140) rfl (teq hf110).2 k₀) ?_
      show GoOn p e below _ (T101.setTop (mkF m 143 #[.val (.int q0), .val (.int q1), .val (.int q2), .val (.long q3), .second, .val (.int k0), .val (.int k1), .val (.int k2), .val (.ref qa), .val (.ref cb), .val (.int e0), .val (.int e1), .val (.int e2)] []))
      refine GoOn.step (fun t₀ k₀ => XS.iload X101.here hx rfl (hb hby at_143) rfl k₀) ?_
      show GoOn p e below _ (T101.setTop (mkF m 145 #[.val (.int q0), .val (.int q1), .val (.int q2), .val (.long q3), .second, .val (.int k0), .val (.int k1), .val (.int k2), .val (.ref qa), .val (.ref cb), .val (.int e0), .val (.int e1), .val (.int e2)] [(.int e2)]))
      refine GoOn.step (fun t₀ k₀ => XS.iload X101.here hx rfl (hb hby at_145) rfl k₀) ?_
      show GoOn p e below _ (T101.setTop (mkF m 147 #[.val (.int q0), .val (.int q1), .val (.int q2), .val (.long q3), .second, .val (.int k0), .val (.int k1), .val (.int k2), .val (.ref qa), .val (.ref cb), .val (.int e0), .val (.int e1), .val (.int e2)] [(.int k2), (.int e2)]))
      have ev2 : e2 = if k2 = 0 then 0 else 1 := by rw [← he2, show (2 : Int32).toNatClampNeg = 2 from by decide]; by_cases c : k2 = 0 <;> simp [Pn, c]
      by_cases d2 : k2 = (0 : Int32)
      · refine GoOn.step (fun t₀ k₀ => XS.ifYes X101.here hx rfl (pc0 := 147) (pc' := 154) rfl (hb hby at_147) rfl ((if0 _ _).trans (teq d2).1) (by decide) (by decide) k₀) ?_
        show GoOn p e below _ (T101.setTop (mkF m 154 #[.val (.int q0), .val (.int q1), .val (.int q2), .val (.long q3), .second, .val (.int k0), .val (.int k1), .val (.int k2), .val (.ref qa), .val (.ref cb), .val (.int e0), .val (.int e1), .val (.int e2)] [(.int e2)]))
        refine GoOn.step (fun t₀ k₀ => XS.iconst X101.here hx rfl (hb hby at_154) k₀) ?_
        show GoOn p e below _ (T101.setTop (mkF m 155 #[.val (.int q0), .val (.int q1), .val (.int q2), .val (.long q3), .second, .val (.int k0), .val (.int k1), .val (.int k2), .val (.ref qa), .val (.ref cb), .val (.int e0), .val (.int e1), .val (.int e2)] [(.int (0 : Int32)), (.int e2)]))
        have hf111 : e2 = (0 : Int32) := (by rw [ev2, if_pos d2])
        refine GoOn.step (fun t₀ k₀ => XS.icmpNo X101.here hx rfl (hb hby at_155) rfl (teq hf111).2 k₀) ?_
        show GoOn p e below _ (T101.setTop (mkF m 158 #[.val (.int q0), .val (.int q1), .val (.int q2), .val (.long q3), .second, .val (.int k0), .val (.int k1), .val (.int k2), .val (.ref qa), .val (.ref cb), .val (.int e0), .val (.int e1), .val (.int e2)] []))
        refine GoOn.step (fun t₀ k₀ => XS.iconst X101.here hx rfl (hb hby at_158) k₀) ?_
        show GoOn p e below _ (T101.setTop (mkF m 159 #[.val (.int q0), .val (.int q1), .val (.int q2), .val (.long q3), .second, .val (.int k0), .val (.int k1), .val (.int k2), .val (.ref qa), .val (.ref cb), .val (.int e0), .val (.int e1), .val (.int e2)] [(.int (1 : Int32))]))
        refine GoOn.step (fun t₀ k₀ => XS.goto X101.here hx rfl (pc0 := 159) (pc' := 163) rfl (hb hby at_159) (by decide) (by decide) k₀) ?_
        show GoOn p e below _ (T101.setTop (mkF m 163 #[.val (.int q0), .val (.int q1), .val (.int q2), .val (.long q3), .second, .val (.int k0), .val (.int k1), .val (.int k2), .val (.ref qa), .val (.ref cb), .val (.int e0), .val (.int e1), .val (.int e2)] [(.int (1 : Int32))]))
        exact GoOn.retN X101 hx hrt hlk (by simp) (hb hby at_163) (by decide) (by decide) (by first | exact ⟨rfl, N0⟩ | (rw [e101]; exact ⟨rfl, N0⟩))
      · refine GoOn.step (fun t₀ k₀ => XS.ifNo X101.here hx rfl (hb hby at_147) rfl ((if0 _ _).trans (feq d2).1) k₀) ?_
        show GoOn p e below _ (T101.setTop (mkF m 150 #[.val (.int q0), .val (.int q1), .val (.int q2), .val (.long q3), .second, .val (.int k0), .val (.int k1), .val (.int k2), .val (.ref qa), .val (.ref cb), .val (.int e0), .val (.int e1), .val (.int e2)] [(.int e2)]))
        refine GoOn.step (fun t₀ k₀ => XS.iconst X101.here hx rfl (hb hby at_150) k₀) ?_
        show GoOn p e below _ (T101.setTop (mkF m 151 #[.val (.int q0), .val (.int q1), .val (.int q2), .val (.long q3), .second, .val (.int k0), .val (.int k1), .val (.int k2), .val (.ref qa), .val (.ref cb), .val (.int e0), .val (.int e1), .val (.int e2)] [(.int (1 : Int32)), (.int e2)]))
        refine GoOn.step (fun t₀ k₀ => XS.goto X101.here hx rfl (pc0 := 151) (pc' := 155) rfl (hb hby at_151) (by decide) (by decide) k₀) ?_
        show GoOn p e below _ (T101.setTop (mkF m 155 #[.val (.int q0), .val (.int q1), .val (.int q2), .val (.long q3), .second, .val (.int k0), .val (.int k1), .val (.int k2), .val (.ref qa), .val (.ref cb), .val (.int e0), .val (.int e1), .val (.int e2)] [(.int (1 : Int32)), (.int e2)]))
        have hf112 : e2 = (1 : Int32) := (by rw [ev2, if_neg d2])
        refine GoOn.step (fun t₀ k₀ => XS.icmpNo X101.here hx rfl (hb hby at_155) rfl (teq hf112).2 k₀) ?_
        show GoOn p e below _ (T101.setTop (mkF m 158 #[.val (.int q0), .val (.int q1), .val (.int q2), .val (.long q3), .second, .val (.int k0), .val (.int k1), .val (.int k2), .val (.ref qa), .val (.ref cb), .val (.int e0), .val (.int e1), .val (.int e2)] []))
        refine GoOn.step (fun t₀ k₀ => XS.iconst X101.here hx rfl (hb hby at_158) k₀) ?_
        show GoOn p e below _ (T101.setTop (mkF m 159 #[.val (.int q0), .val (.int q1), .val (.int q2), .val (.long q3), .second, .val (.int k0), .val (.int k1), .val (.int k2), .val (.ref qa), .val (.ref cb), .val (.int e0), .val (.int e1), .val (.int e2)] [(.int (1 : Int32))]))
        refine GoOn.step (fun t₀ k₀ => XS.goto X101.here hx rfl (pc0 := 159) (pc' := 163) rfl (hb hby at_159) (by decide) (by decide) k₀) ?_
        show GoOn p e below _ (T101.setTop (mkF m 163 #[.val (.int q0), .val (.int q1), .val (.int q2), .val (.long q3), .second, .val (.int k0), .val (.int k1), .val (.int k2), .val (.ref qa), .val (.ref cb), .val (.int e0), .val (.int e1), .val (.int e2)] [(.int (1 : Int32))]))
        exact GoOn.retN X101 hx hrt hlk (by simp) (hb hby at_163) (by decide) (by decide) (by first | exact ⟨rfl, N0⟩ | (rw [e101]; exact ⟨rfl, N0⟩))
    · refine GoOn.step (fun t₀ k₀ => XS.ifNo X101.here hx rfl (hb hby at_132) rfl ((if0 _ _).trans (feq d1).1) k₀) ?_
      show GoOn p e below _ (T101.setTop (mkF m 135 #[.val (.int q0), .val (.int q1), .val (.int q2), .val (.long q3), .second, .val (.int k0), .val (.int k1), .val (.int k2), .val (.ref qa), .val (.ref cb), .val (.int e0), .val (.int e1), .val (.int e2)] [(.int e1)]))
      refine GoOn.step (fun t₀ k₀ => XS.iconst X101.here hx rfl (hb hby at_135) k₀) ?_
      show GoOn p e below _ (T101.setTop (mkF m 136 #[.val (.int q0), .val (.int q1), .val (.int q2), .val (.long q3), .second, .val (.int k0), .val (.int k1), .val (.int k2), .val (.ref qa), .val (.ref cb), .val (.int e0), .val (.int e1), .val (.int e2)] [(.int (1 : Int32)), (.int e1)]))
      refine GoOn.step (fun t₀ k₀ => XS.goto X101.here hx rfl (pc0 := 136) (pc' := 140) rfl (hb hby at_136) (by decide) (by decide) k₀) ?_
      show GoOn p e below _ (T101.setTop (mkF m 140 #[.val (.int q0), .val (.int q1), .val (.int q2), .val (.long q3), .second, .val (.int k0), .val (.int k1), .val (.int k2), .val (.ref qa), .val (.ref cb), .val (.int e0), .val (.int e1), .val (.int e2)] [(.int (1 : Int32)), (.int e1)]))
      have hf113 : e1 = (1 : Int32) := (by rw [ev1, if_neg d1])
      refine GoOn.step (fun t₀ k₀ => XS.icmpNo X101.here hx rfl (hb hby at_140) rfl (teq hf113).2 k₀) ?_
      show GoOn p e below _ (T101.setTop (mkF m 143 #[.val (.int q0), .val (.int q1), .val (.int q2), .val (.long q3), .second, .val (.int k0), .val (.int k1), .val (.int k2), .val (.ref qa), .val (.ref cb), .val (.int e0), .val (.int e1), .val (.int e2)] []))
      refine GoOn.step (fun t₀ k₀ => XS.iload X101.here hx rfl (hb hby at_143) rfl k₀) ?_
      show GoOn p e below _ (T101.setTop (mkF m 145 #[.val (.int q0), .val (.int q1), .val (.int q2), .val (.long q3), .second, .val (.int k0), .val (.int k1), .val (.int k2), .val (.ref qa), .val (.ref cb), .val (.int e0), .val (.int e1), .val (.int e2)] [(.int e2)]))
      refine GoOn.step (fun t₀ k₀ => XS.iload X101.here hx rfl (hb hby at_145) rfl k₀) ?_
      show GoOn p e below _ (T101.setTop (mkF m 147 #[.val (.int q0), .val (.int q1), .val (.int q2), .val (.long q3), .second, .val (.int k0), .val (.int k1), .val (.int k2), .val (.ref qa), .val (.ref cb), .val (.int e0), .val (.int e1), .val (.int e2)] [(.int k2), (.int e2)]))
      have ev2 : e2 = if k2 = 0 then 0 else 1 := by rw [← he2, show (2 : Int32).toNatClampNeg = 2 from by decide]; by_cases c : k2 = 0 <;> simp [Pn, c]
      by_cases d2 : k2 = (0 : Int32)
      · refine GoOn.step (fun t₀ k₀ => XS.ifYes X101.here hx rfl (pc0 := 147) (pc' := 154) rfl (hb hby at_147) rfl ((if0 _ _).trans (teq d2).1) (by decide) (by decide) k₀) ?_
        show GoOn p e below _ (T101.setTop (mkF m 154 #[.val (.int q0), .val (.int q1), .val (.int q2), .val (.long q3), .second, .val (.int k0), .val (.int k1), .val (.int k2), .val (.ref qa), .val (.ref cb), .val (.int e0), .val (.int e1), .val (.int e2)] [(.int e2)]))
        refine GoOn.step (fun t₀ k₀ => XS.iconst X101.here hx rfl (hb hby at_154) k₀) ?_
        show GoOn p e below _ (T101.setTop (mkF m 155 #[.val (.int q0), .val (.int q1), .val (.int q2), .val (.long q3), .second, .val (.int k0), .val (.int k1), .val (.int k2), .val (.ref qa), .val (.ref cb), .val (.int e0), .val (.int e1), .val (.int e2)] [(.int (0 : Int32)), (.int e2)]))
        have hf114 : e2 = (0 : Int32) := (by rw [ev2, if_pos d2])
        refine GoOn.step (fun t₀ k₀ => XS.icmpNo X101.here hx rfl (hb hby at_155) rfl (teq hf114).2 k₀) ?_
        show GoOn p e below _ (T101.setTop (mkF m 158 #[.val (.int q0), .val (.int q1), .val (.int q2), .val (.long q3), .second, .val (.int k0), .val (.int k1), .val (.int k2), .val (.ref qa), .val (.ref cb), .val (.int e0), .val (.int e1), .val (.int e2)] []))
        refine GoOn.step (fun t₀ k₀ => XS.iconst X101.here hx rfl (hb hby at_158) k₀) ?_
        show GoOn p e below _ (T101.setTop (mkF m 159 #[.val (.int q0), .val (.int q1), .val (.int q2), .val (.long q3), .second, .val (.int k0), .val (.int k1), .val (.int k2), .val (.ref qa), .val (.ref cb), .val (.int e0), .val (.int e1), .val (.int e2)] [(.int (1 : Int32))]))
        refine GoOn.step (fun t₀ k₀ => XS.goto X101.here hx rfl (pc0 := 159) (pc' := 163) rfl (hb hby at_159) (by decide) (by decide) k₀) ?_
        show GoOn p e below _ (T101.setTop (mkF m 163 #[.val (.int q0), .val (.int q1), .val (.int q2), .val (.long q3), .second, .val (.int k0), .val (.int k1), .val (.int k2), .val (.ref qa), .val (.ref cb), .val (.int e0), .val (.int e1), .val (.int e2)] [(.int (1 : Int32))]))
        exact GoOn.retN X101 hx hrt hlk (by simp) (hb hby at_163) (by decide) (by decide) (by first | exact ⟨rfl, N0⟩ | (rw [e101]; exact ⟨rfl, N0⟩))
      · refine GoOn.step (fun t₀ k₀ => XS.ifNo X101.here hx rfl (hb hby at_147) rfl ((if0 _ _).trans (feq d2).1) k₀) ?_
        show GoOn p e below _ (T101.setTop (mkF m 150 #[.val (.int q0), .val (.int q1), .val (.int q2), .val (.long q3), .second, .val (.int k0), .val (.int k1), .val (.int k2), .val (.ref qa), .val (.ref cb), .val (.int e0), .val (.int e1), .val (.int e2)] [(.int e2)]))
        refine GoOn.step (fun t₀ k₀ => XS.iconst X101.here hx rfl (hb hby at_150) k₀) ?_
        show GoOn p e below _ (T101.setTop (mkF m 151 #[.val (.int q0), .val (.int q1), .val (.int q2), .val (.long q3), .second, .val (.int k0), .val (.int k1), .val (.int k2), .val (.ref qa), .val (.ref cb), .val (.int e0), .val (.int e1), .val (.int e2)] [(.int (1 : Int32)), (.int e2)]))
        refine GoOn.step (fun t₀ k₀ => XS.goto X101.here hx rfl (pc0 := 151) (pc' := 155) rfl (hb hby at_151) (by decide) (by decide) k₀) ?_
        show GoOn p e below _ (T101.setTop (mkF m 155 #[.val (.int q0), .val (.int q1), .val (.int q2), .val (.long q3), .second, .val (.int k0), .val (.int k1), .val (.int k2), .val (.ref qa), .val (.ref cb), .val (.int e0), .val (.int e1), .val (.int e2)] [(.int (1 : Int32)), (.int e2)]))
        have hf115 : e2 = (1 : Int32) := (by rw [ev2, if_neg d2])
        refine GoOn.step (fun t₀ k₀ => XS.icmpNo X101.here hx rfl (hb hby at_155) rfl (teq hf115).2 k₀) ?_
        show GoOn p e below _ (T101.setTop (mkF m 158 #[.val (.int q0), .val (.int q1), .val (.int q2), .val (.long q3), .second, .val (.int k0), .val (.int k1), .val (.int k2), .val (.ref qa), .val (.ref cb), .val (.int e0), .val (.int e1), .val (.int e2)] []))
        refine GoOn.step (fun t₀ k₀ => XS.iconst X101.here hx rfl (hb hby at_158) k₀) ?_
        show GoOn p e below _ (T101.setTop (mkF m 159 #[.val (.int q0), .val (.int q1), .val (.int q2), .val (.long q3), .second, .val (.int k0), .val (.int k1), .val (.int k2), .val (.ref qa), .val (.ref cb), .val (.int e0), .val (.int e1), .val (.int e2)] [(.int (1 : Int32))]))
        refine GoOn.step (fun t₀ k₀ => XS.goto X101.here hx rfl (pc0 := 159) (pc' := 163) rfl (hb hby at_159) (by decide) (by decide) k₀) ?_
        show GoOn p e below _ (T101.setTop (mkF m 163 #[.val (.int q0), .val (.int q1), .val (.int q2), .val (.long q3), .second, .val (.int k0), .val (.int k1), .val (.int k2), .val (.ref qa), .val (.ref cb), .val (.int e0), .val (.int e1), .val (.int e2)] [(.int (1 : Int32))]))
        exact GoOn.retN X101 hx hrt hlk (by simp) (hb hby at_163) (by decide) (by decide) (by first | exact ⟨rfl, N0⟩ | (rw [e101]; exact ⟨rfl, N0⟩))
set_option maxRecDepth 65536 in
set_option maxHeartbeats 40000000 in
theorem comes_1 {Post : Tables → Env → Array Value → State → Outcome → State → Prop} (hpost : ∀ tb e args s v u, (limb_1_1.after args s (.returned v) u = true ∧ limb_1_2.after args s (.returned v) u = true ∧ True) → FrameEnd s (.returned v) u (Jvm.fieldLocs frame_1_writes args s ++ Jvm.arrayLocs frame_1_arrays args s ++ Jvm.staticLocs frame_1_statics s) 24 192 → Post tb e args s (.returned v) u) :
    ArmFor flags0 classFile x code maxLocals ret World_1 tables_1 room_1 Calls_1 rest_1 Pre_1 Post := by
  intro l hfl _ _ p e ha hc hk s m args below hf hA hF happ hP
  obtain ⟨hcalls, hrest, hpre⟩ := hP
  obtain ⟨-, -, -, hnamed, -, -, -, hat⟩ := (Spec.applies_iff hf).mp happ
  obtain ⟨hg, hn⟩ := and_e (Cond.before_iff.mp (show (Jvm.Cond.and given_1 narrow_1).before args s = true from hpre))
  obtain ⟨g0, r0⟩ := and_e hg
  obtain ⟨g1, r1⟩ := and_e r0
  obtain ⟨g2, r2⟩ := and_e r1
  obtain ⟨g3, r3⟩ := and_e r2
  obtain ⟨w0, w1, w2, w3, rfl⟩ : ∃ w0 w1 w2 w3 : Value, args = #[w0, w1, w2, w3] := by
    have hs : args.size = 4 := by simpa [Cond.value, given_1] using g0
    obtain ⟨L⟩ := args
    match L, hs with
    | [w0, w1, w2, w3], _ => exact ⟨w0, w1, w2, w3, rfl⟩
  have hw := fun d (hd : d ∈ tables_1) => atoms_spec (ws := Jvm.Cond.code x code maxLocals ret :: tables_1) hat d (List.mem_cons_of_mem _ hd)
  have hfit : Fit s := fun {y c} hc i hi => by
    obtain ⟨ha, rfl⟩ := Array.getElem?_eq_some_iff.mp hc
    have q := List.all_eq_true.mp ((Array.all_eq_true_iff_forall_mem.mp hF) _ (Array.getElem_mem ha)) i (List.mem_range.mpr hi)
    simpa [Array.getElem?_eq_getElem hi] using q
  obtain ⟨i0, ei0⟩ := is_v g1
  obtain rfl : w0 = (.int i0) := Option.some.inj ei0
  obtain ⟨i1, ei1⟩ := is_v g2
  obtain rfl : w1 = (.int i1) := Option.some.inj ei1
  obtain ⟨i2, ei2⟩ := is_v g3
  obtain rfl : w2 = (.int i2) := Option.some.inj ei2
  obtain ⟨i3, ei3⟩ := isL_v r3
  obtain rfl : w3 = (.long i3) := Option.some.inj ei3
  obtain ⟨n, o, h1, h2, h3, _, L, rfl, ⟨rfl, N⟩, hq⟩ := law_ok l s _ hw i0 i1 i2 i3 s.heap s.heap.size (Nat.le_refl _) tables_1 p e ha hc hk s m _ below hf ((Spec.applies_iff_loose hf).mp happ).1 ⟨rfl, State.Warmed39.refl s, rfl⟩ trivial
  refine ⟨n, _, h1, h2, h3, hpost _ _ _ _ _ _ ⟨Cond.after_iff.mpr rfl, Cond.after_iff.mpr (eq_i res_at (Term.int_eval (1)) rfl), trivial⟩ ⟨hq.1, hq.2.1, (hq.2.2.sift fun y hy => Or.inr (N y hy)).mono (by decide) (by decide)⟩⟩
theorem main_1_1 : Claimed_1_1 := comes_1 fun _ _ _ _ _ _ h hF => ⟨h.1, hF⟩
theorem main_1_2 : Claimed_1_2 := comes_1 fun _ _ _ _ _ _ h hF => ⟨h.2.1, hF⟩
end Jvm.Pilot.@@N@@
namespace Jvm.Pilot.@@N@@
open Jvm Jvm.ClassFile Sem Op Lib Jvm.Free Jvm.Stand Jvm.Pilot.@@N@@.Jvm.D
/-! MADE BY PROGRAM (witnessworld.py) out of the Statement's table words and the real class files: 10 classes; the members and pool entries that the words name. The judged class is class 1, her method 2. -/
namespace start1
open Jvm.ClassFile
def u (s : String) : CpInfo := .utf8 (stringToUtf16 s)
/-- a pool by its gaps: so many unusable entries, then the entry; so many at the end -/
def gap : Nat → List CpInfo → List CpInfo
  | 0, r => r
  | n + 1, r => .unusable :: gap n r
def poolList (es : List (Nat × CpInfo)) (last : Nat) : List CpInfo := es.foldr (fun e r => gap e.1 (e.2 :: r)) (gap last [])
def pool (es : List (Nat × CpInfo)) (last : Nat) : Array CpInfo := ⟨poolList es last⟩
def fileOf (pool : Array CpInfo) (this : Nat) (attrs : Array Attribute := #[]) (ms : Array MethodInfo := #[]) (fl : Nat := 33) (sup : Nat := 0) (ifs : Array Nat := #[]) (fds : Array FieldInfo := #[]) : ClassFile where
  minorVersion := 0
  majorVersion := 65
  constantPool := pool
  accessFlags := fl
  thisClass := this
  superClass := sup
  interfaces := ifs
  fields := fds
  methods := ms
  attributes := attrs
def plain (name : String) (sup : Option ClassId) : Class where
  name := name
  kind := .ordinary
  loader := none
  accessFlags := 33
  super := sup
  interfaces := #[]
  cf := none
  fields := #[]
  methods := #[]
  instanceTypes := #[]
  staticTypes := #[]
  resolved := #[]
  callSites := []
  init := .initialized
  statics := none
  mirror := none

def pool0 : Array CpInfo := pool [(5, u "<init>"), (0, u "()V"), (1, .class_ 10), (1, u "java/lang/Object")] 113

def k0c0 : Code := { maxStack := 0, maxLocals := 1, code := object_method_1_code, exceptionTable := #[], attributes := #[] }
def k0m0 : Method := { name := "<init>", desc := "()V", sig := { parameters := [], returnType := none }, accessFlags := 1, code := some k0c0 }
/-- java/lang/Object -/
def k0 : Class := { plain "java/lang/Object" none with
  accessFlags := 33
  interfaces := #[]
  cf := some (fileOf pool0 8 #[] #[{ accessFlags := 1, nameIndex := 5, descriptorIndex := 6, attributes := #[] }] 33 0 #[] #[])
  fields := #[]
  methods := #[k0m0]
  instanceTypes := #[]
  staticTypes := #[]
  resolved := Array.replicate 124 none
  statics := none }

def pool1 : Array CpInfo := pool [(2, .class_ 4), (1, u "java/lang/Object"), (0, u "<init>"), (0, u "()V"), (0, .methodref 8 9), (0, .class_ 10), (0, .nameAndType 11 12), (0, u "com/example/treesack/treesack/core/ChoiceBits"), (0, u "newRow"), (0, u "(II)V"), (0, .methodref 8 14), (0, .nameAndType 15 16), (0, u "newListedRow"), (0, u "(II)[J"), (0, .methodref 8 18), (0, .nameAndType 19 20), (0, u "newRunRow"), (0, u "(I[J)V"), (0, .long 4611686018427387903), (1, .methodref 8 24), (0, .nameAndType 5 25), (0, u "(I)V"), (0, .methodref 27 28), (0, .class_ 29), (0, .nameAndType 30 31), (0, u "com/example/treesack/treesack/core/ChoiceBitsHasRowPinLaw"), (0, u "make"), (0, u "(Lcom/example/treesack/treesack/core/ChoiceBits;IIII[J)V"), (0, .methodref 8 33), (0, .nameAndType 34 35), (0, u "hasRow"), (0, u "(I)Z"), (3, u "law"), (0, u "(IIIJ)Z")] 4

def k1m0 : Method := { name := "<init>", desc := "()V", sig := { parameters := [], returnType := none }, accessFlags := 2, code := none }
def k1c1 : Code := { maxStack := 4, maxLocals := 6, code := method_2_code, exceptionTable := #[], attributes := #[] }
def k1m1 : Method := { name := "make", desc := "(Lcom/example/treesack/treesack/core/ChoiceBits;IIII[J)V", sig := { parameters := [(.object "com/example/treesack/treesack/core/ChoiceBits"), .int, .int, .int, .int, (.array .long)], returnType := none }, accessFlags := 10, code := some k1c1 }
def k1c2 : Code := { maxStack := 6, maxLocals := 13, code := code, exceptionTable := #[], attributes := #[] }
def k1m2 : Method := { name := "law", desc := "(IIIJ)Z", sig := { parameters := [.int, .int, .int, .long], returnType := some .boolean }, accessFlags := 9, code := some k1c2 }
/-- com/example/treesack/treesack/core/ChoiceBitsHasRowPinLaw -/
def k1 : Class := { plain "com/example/treesack/treesack/core/ChoiceBitsHasRowPinLaw" (some 0) with
  accessFlags := 49
  interfaces := #[]
  cf := some (fileOf pool1 27 #[] #[{ accessFlags := 2, nameIndex := 5, descriptorIndex := 6, attributes := #[] }, { accessFlags := 10, nameIndex := 30, descriptorIndex := 31, attributes := #[] }, { accessFlags := 9, nameIndex := 39, descriptorIndex := 40, attributes := #[] }] 49 2 #[] #[])
  fields := #[]
  methods := #[k1m0, k1m1, k1m2]
  instanceTypes := #[]
  staticTypes := #[]
  resolved := Array.replicate 45 none
  statics := none }

def pool2 : Array CpInfo := pool [(1, .methodref 2 3), (0, .class_ 4), (0, .nameAndType 5 6), (0, u "java/lang/Object"), (0, u "<init>"), (0, u "()V"), (0, .class_ 8), (0, u "[J"), (0, .fieldref 10 11), (0, .class_ 12), (0, .nameAndType 13 14), (0, u "com/example/treesack/treesack/core/ChoiceBits"), (0, u "rows"), (0, u "[[J"), (0, .methodref 16 17), (0, .class_ 18), (0, .nameAndType 19 20), (0, u "com/example/treesack/treesack/core/BitRows"), (0, u "wordCount"), (0, u "(I)I"), (2, u "newRow"), (0, u "(II)V"), (8, .fieldref 10 34), (0, .nameAndType 35 14), (0, u "listedRows"), (0, .fieldref 10 37), (0, .nameAndType 38 14), (0, u "runRows"), (13, u "(I)V"), (4, u "newListedRow"), (0, u "(II)[J"), (1, u "newRunRow"), (0, u "(I[J)V"), (0, u "hasRow"), (0, u "(I)Z")] 3

def k2c0 : Code := { maxStack := 2, maxLocals := 2, code := prog_24_method_1_code, exceptionTable := #[], attributes := #[] }
def k2m0 : Method := { name := "<init>", desc := "(I)V", sig := { parameters := [.int], returnType := none }, accessFlags := 0, code := some k2c0 }
def k2c1 : Code := { maxStack := 3, maxLocals := 3, code := prog_24_method_2_code, exceptionTable := #[], attributes := #[] }
def k2m1 : Method := { name := "newRow", desc := "(II)V", sig := { parameters := [.int, .int], returnType := none }, accessFlags := 0, code := some k2c1 }
def k2c2 : Code := { maxStack := 3, maxLocals := 3, code := prog_24_method_4_code, exceptionTable := #[], attributes := #[] }
def k2m2 : Method := { name := "newListedRow", desc := "(II)[J", sig := { parameters := [.int, .int], returnType := some (.array .long) }, accessFlags := 0, code := some k2c2 }
def k2c3 : Code := { maxStack := 3, maxLocals := 3, code := prog_24_method_5_code, exceptionTable := #[], attributes := #[] }
def k2m3 : Method := { name := "newRunRow", desc := "(I[J)V", sig := { parameters := [.int, (.array .long)], returnType := none }, accessFlags := 0, code := some k2c3 }
def k2c4 : Code := { maxStack := 2, maxLocals := 2, code := prog_24_method_6_code, exceptionTable := #[], attributes := #[] }
def k2m4 : Method := { name := "hasRow", desc := "(I)Z", sig := { parameters := [.int], returnType := some .boolean }, accessFlags := 0, code := some k2c4 }
/-- com/example/treesack/treesack/core/ChoiceBits -/
def k2 : Class := { plain "com/example/treesack/treesack/core/ChoiceBits" (some 0) with
  accessFlags := 32
  interfaces := #[]
  cf := some (fileOf pool2 10 #[] #[{ accessFlags := 0, nameIndex := 5, descriptorIndex := 52, attributes := #[] }, { accessFlags := 0, nameIndex := 23, descriptorIndex := 24, attributes := #[] }, { accessFlags := 0, nameIndex := 57, descriptorIndex := 58, attributes := #[] }, { accessFlags := 0, nameIndex := 60, descriptorIndex := 61, attributes := #[] }, { accessFlags := 0, nameIndex := 62, descriptorIndex := 63, attributes := #[] }] 32 2 #[] #[{ accessFlags := 18, nameIndex := 13, descriptorIndex := 14, attributes := #[] }, { accessFlags := 2, nameIndex := 35, descriptorIndex := 14, attributes := #[] }, { accessFlags := 2, nameIndex := 38, descriptorIndex := 14, attributes := #[] }])
  fields := #[{ name := "rows", type := (.array (.array .long)), accessFlags := 18, slot := 0, constantValue := 0 }, { name := "listedRows", type := (.array (.array .long)), accessFlags := 2, slot := 1, constantValue := 0 }, { name := "runRows", type := (.array (.array .long)), accessFlags := 2, slot := 2, constantValue := 0 }]
  methods := #[k2m0, k2m1, k2m2, k2m3, k2m4]
  instanceTypes := #[(.array (.array .long)), (.array (.array .long)), (.array (.array .long))]
  staticTypes := #[]
  resolved := Array.replicate 67 none
  statics := none }

def pool3 : Array CpInfo := pool [(2, .class_ 4), (1, u "java/lang/Object"), (0, u "<init>"), (0, u "()V"), (0, .long 63), (2, .class_ 12), (1, u "com/example/treesack/treesack/core/BitRows"), (45, u "wordCount"), (0, u "(I)I")] 14

def k3m0 : Method := { name := "<init>", desc := "()V", sig := { parameters := [], returnType := none }, accessFlags := 2, code := none }
def k3c1 : Code := { maxStack := 4, maxLocals := 1, code := prog_20_method_3_code, exceptionTable := #[], attributes := #[] }
def k3m1 : Method := { name := "wordCount", desc := "(I)I", sig := { parameters := [.int], returnType := some .int }, accessFlags := 8, code := some k3c1 }
/-- com/example/treesack/treesack/core/BitRows -/
def k3 : Class := { plain "com/example/treesack/treesack/core/BitRows" (some 0) with
  accessFlags := 32
  interfaces := #[]
  cf := some (fileOf pool3 10 #[] #[{ accessFlags := 2, nameIndex := 5, descriptorIndex := 6, attributes := #[] }, { accessFlags := 8, nameIndex := 58, descriptorIndex := 59, attributes := #[] }] 32 2 #[] #[])
  fields := #[]
  methods := #[k3m0, k3m1]
  instanceTypes := #[]
  staticTypes := #[]
  resolved := Array.replicate 74 none
  statics := none }

def pool4 : Array CpInfo := pool [(1, u "java/lang/Cloneable"), (0, .class_ 1), (0, u "java/lang/Object"), (0, .class_ 3)] 3

/-- java/lang/Cloneable -/
def k4 : Class := { plain "java/lang/Cloneable" (some 0) with
  accessFlags := 1537
  interfaces := #[]
  cf := some (fileOf pool4 2 #[] #[] 1537 4 #[] #[])
  fields := #[]
  methods := #[]
  instanceTypes := #[]
  staticTypes := #[]
  resolved := Array.replicate 8 none
  statics := none }

def pool5 : Array CpInfo := pool [(1, u "java/io/Serializable"), (0, .class_ 1), (0, u "java/lang/Object"), (0, .class_ 3)] 3

/-- java/io/Serializable -/
def k5 : Class := { plain "java/io/Serializable" (some 0) with
  accessFlags := 1537
  interfaces := #[]
  cf := some (fileOf pool5 2 #[] #[] 1537 4 #[] #[])
  fields := #[]
  methods := #[]
  instanceTypes := #[]
  staticTypes := #[]
  resolved := Array.replicate 8 none
  statics := none }

/-- the primitive byte -/
def k6 : Class := { plain "byte" none with kind := .primitive 'B', accessFlags := 0x411 }
/-- [B -/
def k7 : Class := { plain "[B" (some 0) with kind := .array 6 .byte, interfaces := #[4, 5], accessFlags := 1041 }

/-- the primitive long -/
def k8 : Class := { plain "long" none with kind := .primitive 'J', accessFlags := 0x411 }
/-- [J -/
def k9 : Class := { plain "[J" (some 0) with kind := .array 8 .long, interfaces := #[4, 5], accessFlags := 1041 }
/-- [[J -/
def k10 : Class := { plain "[[J" (some 0) with kind := .array 9 (.array .long), interfaces := #[4, 5], accessFlags := 1041 }

def heap : Heap := #[]
def classes : Array Class := #[k0, k1, k2, k3, k4, k5, k6, k7, k8, k9, k10]
def interned : List (Array UInt16 × Addr) := []
def slotsUsed : Nat := 0
def theMethod : MethodId := ⟨1, 2⟩
def args0 : Array Value := #[.int 27, .int 7, .int 2, .long 3]
def aboutOver (below : List Frame) : State where
  vm := { classes := classes, interned := interned.toArray }
  heap := heap
  slotsUsed := slotsUsed
  threads := #[{ frames := .invoking theMethod args0 :: below }]
def below0 : List Frame := [.native { method := ⟨0, 0⟩, args := #[] }]
def about1 : State := aboutOver below0
def p0 : Program := .bare "" "" ""
def e0 : Env := launch0.env 0 0 0
theorem w_frames : about1.frames = Frame.invoking theMethod args0 :: below0 := rfl
set_option maxRecDepth 65536 in
theorem w_args : argsFit about1.vm theMethod args0 = true := by decide +kernel
set_option maxRecDepth 65536 in
theorem w_heap : heapFits about1 = true := by decide +kernel
set_option maxRecDepth 65536 in
theorem w_runnable : about1.curStatus? = some .runnable := by decide +kernel
set_option maxRecDepth 65536 in
theorem w_alone : about1.alone = true := by decide +kernel
set_option maxRecDepth 65536 in
theorem w_named : about1.methodNamed? x = some theMethod := by decide +kernel
set_option maxRecDepth 65536 in
theorem w_hears : about1.hears theMethod below0 = true := by decide +kernel
set_option maxRecDepth 65536 in
theorem w_ripe : about1.ripe theMethod args0 below0 = true := by decide +kernel
theorem w_running : about1.status = .running := rfl
set_option maxRecDepth 65536 in
theorem w_room : about1.hasRoom e0.platform room_1 = true :=
  launch0.hasRoom_least _ room_1 (by decide +kernel) (by decide +kernel) (by decide +kernel) (by decide +kernel) (by decide +kernel) (by decide +kernel)
theorem allAtoms_all (ts : List Jvm.Cond) (a : Array Jvm.Value) (st : Jvm.State) : (allAtoms ts).before a st = ts.all (fun c => c.before a st) := by
  induction ts with
  | nil => rfl
  | cons c t ih =>
    show (Jvm.Cond.and c (allAtoms t)).before a st = _
    rw [Jvm.Cond.before_and, ih, List.all_cons]
def words1 : List Jvm.Cond := Jvm.Cond.code x code maxLocals ret :: tables_1
/-- a 'code' word, met by the world's own term for the bytes: nothing is compared byte by byte -/
theorem code_word {y : MethodName} {bytes : ByteArray} {mx : Nat} {rt : Option FieldType} {a : Array Value} {s : State} {m : MethodId} {meth : Method} {c : Code} (h1 : s.methodNamed? y = some m) (h2 : s.vm.method? m = some meth) (h3 : meth.code = some c) (h4 : c.code = bytes)
    (h5 : (c.maxLocals == mx && c.exceptionTable.isEmpty && decide (c.maxStack ≤ mostOperands) && decide (meth.sig.returnType = rt) && !meth.locks && decide (parseMethodDescriptor y.desc = some meth.sig)) = true) : (Jvm.Cond.code y bytes mx rt).before a s = true := by
  simp only [Bool.and_eq_true, beq_iff_eq, Bool.not_eq_true', decide_eq_true_eq] at h5
  obtain ⟨⟨⟨⟨⟨g1, g2⟩, g3⟩, g4⟩, g5⟩, g6⟩ := h5
  simp [Cond.before, Cond.holds, Cond.value, h1, h2, h3, h4, g1, g2, g3, g4, g5, g6]
def isCode : Jvm.Cond → Bool
  | .code _ _ _ _ => true
  | _ => false
theorem all_split {L : List Jvm.Cond} {P : Jvm.Cond → Bool} (h1 : L.all (fun c => isCode c || P c) = true) (h2 : ∀ c ∈ L.filter isCode, P c = true) : L.all P = true := by
  refine List.all_eq_true.mpr fun c hc => ?_
  have h := List.all_eq_true.mp h1 c hc
  rcases Bool.eq_false_or_eq_true (isCode c) with hi | hi
  · exact h2 c (List.mem_filter.mpr ⟨hc, hi⟩)
  · simpa [hi] using h
set_option maxRecDepth 65536 in
theorem w_c0 : (Jvm.Cond.code x code maxLocals ret).before args0 about1 = true := code_word (m := ⟨1, 2⟩) (meth := k1m2) (c := k1c2) (by decide +kernel) rfl rfl rfl (by decide +kernel)
set_option maxRecDepth 65536 in
theorem w_c1 : (Jvm.Cond.code ({ cls := "com/example/treesack/treesack/core/ChoiceBits", name := "<init>", desc := "(I)V" } : Jvm.MethodName) prog_24_method_1_code (2 : Nat) (Option.none : Option Jvm.ClassFile.FieldType)).before args0 about1 = true := code_word (m := ⟨2, 0⟩) (meth := k2m0) (c := k2c0) (by decide +kernel) rfl rfl rfl (by decide +kernel)
set_option maxRecDepth 65536 in
theorem w_c2 : (Jvm.Cond.code ({ cls := "java/lang/Object", name := "<init>", desc := "()V" } : Jvm.MethodName) object_method_1_code (1 : Nat) (Option.none : Option Jvm.ClassFile.FieldType)).before args0 about1 = true := code_word (m := ⟨0, 0⟩) (meth := k0m0) (c := k0c0) (by decide +kernel) rfl rfl rfl (by decide +kernel)
set_option maxRecDepth 65536 in
theorem w_c3 : (Jvm.Cond.code ({ cls := "com/example/treesack/treesack/core/ChoiceBitsHasRowPinLaw", name := "make", desc := "(Lcom/example/treesack/treesack/core/ChoiceBits;IIII[J)V" } : Jvm.MethodName) method_2_code (6 : Nat) (Option.none : Option Jvm.ClassFile.FieldType)).before args0 about1 = true := code_word (m := ⟨1, 1⟩) (meth := k1m1) (c := k1c1) (by decide +kernel) rfl rfl rfl (by decide +kernel)
set_option maxRecDepth 65536 in
theorem w_c4 : (Jvm.Cond.code ({ cls := "com/example/treesack/treesack/core/ChoiceBits", name := "hasRow", desc := "(I)Z" } : Jvm.MethodName) prog_24_method_6_code (2 : Nat) (Option.some Jvm.ClassFile.FieldType.boolean)).before args0 about1 = true := code_word (m := ⟨2, 4⟩) (meth := k2m4) (c := k2c4) (by decide +kernel) rfl rfl rfl (by decide +kernel)
set_option maxRecDepth 65536 in
theorem w_c5 : (Jvm.Cond.code ({ cls := "com/example/treesack/treesack/core/ChoiceBits", name := "newRow", desc := "(II)V" } : Jvm.MethodName) prog_24_method_2_code (3 : Nat) (Option.none : Option Jvm.ClassFile.FieldType)).before args0 about1 = true := code_word (m := ⟨2, 1⟩) (meth := k2m1) (c := k2c1) (by decide +kernel) rfl rfl rfl (by decide +kernel)
set_option maxRecDepth 65536 in
theorem w_c6 : (Jvm.Cond.code ({ cls := "com/example/treesack/treesack/core/BitRows", name := "wordCount", desc := "(I)I" } : Jvm.MethodName) prog_20_method_3_code (1 : Nat) (Option.some Jvm.ClassFile.FieldType.int)).before args0 about1 = true := code_word (m := ⟨3, 1⟩) (meth := k3m1) (c := k3c1) (by decide +kernel) rfl rfl rfl (by decide +kernel)
set_option maxRecDepth 65536 in
theorem w_c7 : (Jvm.Cond.code ({ cls := "com/example/treesack/treesack/core/ChoiceBits", name := "newListedRow", desc := "(II)[J" } : Jvm.MethodName) prog_24_method_4_code (3 : Nat) (Option.some (Jvm.ClassFile.FieldType.array Jvm.ClassFile.FieldType.long))).before args0 about1 = true := code_word (m := ⟨2, 2⟩) (meth := k2m2) (c := k2c2) (by decide +kernel) rfl rfl rfl (by decide +kernel)
set_option maxRecDepth 65536 in
theorem w_c8 : (Jvm.Cond.code ({ cls := "com/example/treesack/treesack/core/ChoiceBits", name := "newRunRow", desc := "(I[J)V" } : Jvm.MethodName) prog_24_method_5_code (3 : Nat) (Option.none : Option Jvm.ClassFile.FieldType)).before args0 about1 = true := code_word (m := ⟨2, 3⟩) (meth := k2m3) (c := k2c3) (by decide +kernel) rfl rfl rfl (by decide +kernel)
def codes1 : List Jvm.Cond := [Jvm.Cond.code x code maxLocals ret, Jvm.Cond.code ({ cls := "com/example/treesack/treesack/core/ChoiceBits", name := "<init>", desc := "(I)V" } : Jvm.MethodName) prog_24_method_1_code (2 : Nat) (Option.none : Option Jvm.ClassFile.FieldType), Jvm.Cond.code ({ cls := "java/lang/Object", name := "<init>", desc := "()V" } : Jvm.MethodName) object_method_1_code (1 : Nat) (Option.none : Option Jvm.ClassFile.FieldType), Jvm.Cond.code ({ cls := "com/example/treesack/treesack/core/ChoiceBitsHasRowPinLaw", name := "make", desc := "(Lcom/example/treesack/treesack/core/ChoiceBits;IIII[J)V" } : Jvm.MethodName) method_2_code (6 : Nat) (Option.none : Option Jvm.ClassFile.FieldType), Jvm.Cond.code ({ cls := "com/example/treesack/treesack/core/ChoiceBits", name := "hasRow", desc := "(I)Z" } : Jvm.MethodName) prog_24_method_6_code (2 : Nat) (Option.some Jvm.ClassFile.FieldType.boolean), Jvm.Cond.code ({ cls := "com/example/treesack/treesack/core/ChoiceBits", name := "newRow", desc := "(II)V" } : Jvm.MethodName) prog_24_method_2_code (3 : Nat) (Option.none : Option Jvm.ClassFile.FieldType), Jvm.Cond.code ({ cls := "com/example/treesack/treesack/core/BitRows", name := "wordCount", desc := "(I)I" } : Jvm.MethodName) prog_20_method_3_code (1 : Nat) (Option.some Jvm.ClassFile.FieldType.int), Jvm.Cond.code ({ cls := "com/example/treesack/treesack/core/ChoiceBits", name := "newListedRow", desc := "(II)[J" } : Jvm.MethodName) prog_24_method_4_code (3 : Nat) (Option.some (Jvm.ClassFile.FieldType.array Jvm.ClassFile.FieldType.long)), Jvm.Cond.code ({ cls := "com/example/treesack/treesack/core/ChoiceBits", name := "newRunRow", desc := "(I[J)V" } : Jvm.MethodName) prog_24_method_5_code (3 : Nat) (Option.none : Option Jvm.ClassFile.FieldType)]
set_option maxRecDepth 65536 in
theorem codes_eq : words1.filter isCode = codes1 := rfl
theorem w_codes : ∀ c ∈ words1.filter isCode, c.before args0 about1 = true := by
  rw [codes_eq]
  intro c hc
  simp only [codes1, List.mem_cons, List.not_mem_nil, or_false] at hc
  rcases hc with rfl | rfl | rfl | rfl | rfl | rfl | rfl | rfl | rfl
  · exact w_c0
  · exact w_c1
  · exact w_c2
  · exact w_c3
  · exact w_c4
  · exact w_c5
  · exact w_c6
  · exact w_c7
  · exact w_c8
set_option maxRecDepth 65536 in
theorem w_t1 : (words1.take 24).all (fun c => isCode c || c.before args0 about1) = true := by decide +kernel
set_option maxRecDepth 65536 in
theorem w_t2 : ((words1.drop 24).take 24).all (fun c => isCode c || c.before args0 about1) = true := by decide +kernel
set_option maxRecDepth 65536 in
theorem w_t3 : ((words1.drop 24).drop 24).all (fun c => isCode c || c.before args0 about1) = true := by decide +kernel
theorem w_tables : (allAtoms (Jvm.Cond.code x code maxLocals ret :: tables_1)).before args0 about1 = true := by
  rw [allAtoms_all]
  show words1.all (fun c => c.before args0 about1) = true
  refine all_split ?_ w_codes
  rw [← List.take_append_drop 24 words1, List.all_append, w_t1, ← List.take_append_drop 24 (words1.drop 24), List.all_append, w_t2, w_t3]
  rfl
set_option maxRecDepth 65536 in
theorem w_case : (Jvm.Cond.and given_1 narrow_1).before args0 about1 = true := by decide +kernel
theorem w_applies : (headSpec (Jvm.Cond.code x code maxLocals ret :: tables_1) room_1).applies x e0.platform about1 = true :=
  (Spec.applies_iff w_frames).mpr ⟨w_running, w_runnable, w_alone, w_named, w_hears, w_ripe, w_room, w_tables⟩
theorem atStart : AtStart classFile x code maxLocals ret World_1 tables_1 room_1 Calls_1 rest_1 Pre_1 launch0 p0 e0 about1 theMethod args0 below0 :=
  ⟨lists_1, trivial, launch0.admits_env _ _ _, launch0.least_env, fairChoices_fair.cas, fairChoices_fair.clock, w_frames, w_args, w_heap, w_applies, trivial, trivial, w_case⟩
end start1
theorem witness_1 : WitnessClaimed_1 := ⟨start1.p0, start1.e0, start1.about1, start1.theMethod, start1.args0, start1.below0, start1.atStart⟩
end Jvm.Pilot.@@N@@
