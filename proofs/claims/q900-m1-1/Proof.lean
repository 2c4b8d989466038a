import JvmDerived
import JvmDerived.Pilot.@@N@@Statement
import JvmDerived.Pilot.@@N@@Code
set_option linter.unusedVariables false
set_option linter.unusedSimpArgs false
namespace Jvm.Pilot.@@N@@
open Jvm Jvm.ClassFile Sem Op Lib Jvm.Free Jvm.Stand Jvm.LawKit Jvm.RoadKit Bundle Jvm.Pilot.@@N@@.Jvm.D
/-! ## own kit: a walk in continuation style over the library's steps -/
section OwnKit
variable {p : Program} {l : Launch} {e : Env} {R : Room} {s : State} {m : MethodId} {args : Array Value} {below : List Frame} {meth : Method} {c : Code} {T : State} {locs : List Loc} {cells slots : Nat} {Z : State} {a0 : Array Value} {h h' : Heap}
/-- from U the run ends, and then E holds -/
def GoOn (p : Program) (e : Env) (below : List Frame) (E : State → Outcome → Prop) (U : State) : Prop :=
  ∃ t o, Steps p.tables e below U t ∧ t.status = .running ∧ Ended t below o ∧ E t o
theorem GoOn.step {E : State → Outcome → Prop} {U U' : State} (hs : ∀ t, Steps p.tables e below U' t → Steps p.tables e below U t) (g : GoOn p e below E U') : GoOn p e below E U := by
  obtain ⟨t, o, h1, h2⟩ := g
  exact ⟨t, o, hs _ h1, h2⟩
/-- how a body ends: what it returns, its heap, the places that it wrote -/
abbrev EndQ (s : State) (rm : Room) (Q : Option Value → Heap → List Loc → Prop) : State → Outcome → Prop :=
  fun U o => ∃ v L, o = .returned v ∧ Q v U.heap L ∧ FrameEnd s o U L rm.cells rm.slots
/-- a body's contract at one array of arguments and one heap -/
def Con (l : Launch) (Z : State) (y : MethodName) (bytes : ByteArray) (mx : Nat) (rt : Option FieldType) (rm : Room) (as : Array Value) (h : Heap) (Q : Option Value → Heap → List Loc → Prop) : Prop :=
  ∀ ws : List Jvm.Cond, MetFree l y (head1 (Jvm.Cond.code y bytes mx rt :: ws) rm) (fun a U => a = as ∧ Z.Warmed39 U.vm ∧ U.heap = h) (fun _ _ _ _ _ => True) (fun _ U o U' => ∃ v L, o = .returned v ∧ Q v U'.heap L ∧ FrameEnd U o U' L rm.cells rm.slots)
theorem Con.intro {y : MethodName} {bytes : ByteArray} {mx : Nat} {rt : Option FieldType} {rm : Room} {as : Array Value} {Q : Option Value → Heap → List Loc → Prop} (hp : plainFor y = true)
    (body : ∀ (p : Program) (e : Env) (s : State) (m : MethodId) (below : List Frame) (meth : Method) (c : Code) (s₁ : State), p.tables.exec = Jvm.exec → c.code = bytes → c.maxLocals = mx → meth.sig.returnType = rt → meth.locks = false → Z.Warmed39 s.vm → s.vm.findClass y.cls = some m.cls → meth.name = y.name →
      Stand p l e rm s m as below meth c s₁ [] 0 0 → s₁.heap = h → GoOn p e below (EndQ s rm Q) (s₁.setTop (entryFrame m as mx))) : Con l Z y bytes mx rt rm as h Q := fun ws => by
  refine MetFree.of_bodySF hp hisR ?_
  intro p e s m args below meth c s₁ Bd hml0 hP hK
  obtain ⟨rfl, hZ, hh⟩ := hP
  have X0 : Stand p l e rm s m args below meth c s₁ [] 0 0 := Stand.of_body Bd
  obtain ⟨t, o, h1, h2, h3, h4⟩ := body p e s m below meth c s₁ Bd.exec Bd.bytes hml0 Bd.returns Bd.notSynchronized hZ (findClass_of_methodNamed Bd.named) (name_of_methodNamed Bd.named Bd.method).1 X0 (by rw [← hh, Bd.state]; rfl)
  exact ⟨t, o, h1, h2, h3, h4⟩
theorem GoOn.cast {E : State → Outcome → Prop} {g g' : JFrame} (q : g = g') (k : GoOn p e below E (T.setTop g')) : GoOn p e below E (T.setTop g) := q ▸ k
theorem GoOn.retI (X : Stand p l e R s m args below meth c T locs cells slots) (hx : p.tables.exec = Jvm.exec) (hrt : meth.sig.returnType = some .int) (hlk : meth.locks = false) {rm : Room} {Q : Option Value → Heap → List Loc → Prop} {pc : Nat} {Ls : Array Slot} {z : Int32} {rest : List Value}
    (hd : decode c.code pc = .ok (.ireturn, 1)) (hc : cells ≤ rm.cells) (hs : slots ≤ rm.slots) (hQ : Q (some (.int z)) T.heap locs) : GoOn p e below (EndQ s rm Q) (T.setTop (mkF m pc Ls (.int z :: rest))) := by
  obtain ⟨fs, hr, hrun, hended, hW, hsame⟩ := X.leave (v := some (.int z)) (fun h => by rw [hrt] at h; cases h) hlk
  exact ⟨_, _, Jvm.RoadKit.retOut X hx hrt rfl (Or.inl ⟨rfl, Or.inl rfl, _, rfl⟩) hd hr, hrun, hended, _, _, rfl, hQ, ⟨_, rfl⟩, hW, hsame.mono hc hs⟩
theorem GoOn.retN (X : Stand p l e R s m args below meth c T locs cells slots) (hx : p.tables.exec = Jvm.exec) {t : FieldType} (hrt : meth.sig.returnType = some t) (hlk : meth.locks = false) {rm : Room} {Q : Option Value → Heap → List Loc → Prop} {pc : Nat} {Ls : Array Slot} {z : Int32} {rest : List Value} (ht : t = .boolean ∨ t = .byte ∨ t = .char ∨ t = .short)
    (hd : decode c.code pc = .ok (.ireturn, 1)) (hc : cells ≤ rm.cells) (hs : slots ≤ rm.slots) (hQ : Q (some (.int (nar t z))) T.heap locs) : GoOn p e below (EndQ s rm Q) (T.setTop (mkF m pc Ls (.int z :: rest))) := by
  obtain ⟨fs, hr, hrun, hended, hW, hsame⟩ := X.leave (v := some (.int (nar t z))) (fun h => by rw [hrt] at h; cases h) hlk
  exact ⟨_, _, Jvm.RoadKit.retN X hx hrt ht hd hr, hrun, hended, _, _, rfl, hQ, ⟨_, rfl⟩, hW, hsame.mono hc hs⟩
theorem GoOn.retJ (X : Stand p l e R s m args below meth c T locs cells slots) (hx : p.tables.exec = Jvm.exec) (hrt : meth.sig.returnType = some .long) (hlk : meth.locks = false) {rm : Room} {Q : Option Value → Heap → List Loc → Prop} {pc : Nat} {Ls : Array Slot} {z : Int64} {rest : List Value}
    (hd : decode c.code pc = .ok (.lreturn, 1)) (hc : cells ≤ rm.cells) (hs : slots ≤ rm.slots) (hQ : Q (some (.long z)) T.heap locs) : GoOn p e below (EndQ s rm Q) (T.setTop (mkF m pc Ls (.long z :: rest))) := by
  obtain ⟨fs, hr, hrun, hended, hW, hsame⟩ := X.leave (v := some (.long z)) (fun h => by rw [hrt] at h; cases h) hlk
  exact ⟨_, _, Jvm.RoadKit.retOut X hx hrt rfl (Or.inr (Or.inl ⟨rfl, rfl, _, rfl⟩)) hd hr, hrun, hended, _, _, rfl, hQ, ⟨_, rfl⟩, hW, hsame.mono hc hs⟩
theorem GoOn.retR (X : Stand p l e R s m args below meth c T locs cells slots) (hx : p.tables.exec = Jvm.exec) {t : FieldType} (hrt : meth.sig.returnType = some t) (htr : t.isReference = true) (hlk : meth.locks = false) {rm : Room} {Q : Option Value → Heap → List Loc → Prop} {pc : Nat} {Ls : Array Slot} {z : Value} (hz : z.isRef = true) {rest : List Value}
    (hd : decode c.code pc = .ok (.areturn, 1)) (hc : cells ≤ rm.cells) (hs : slots ≤ rm.slots) (hQ : Q (some z) T.heap locs) : GoOn p e below (EndQ s rm Q) (T.setTop (mkF m pc Ls (z :: rest))) := by
  obtain ⟨fs, hr, hrun, hended, hW, hsame⟩ := X.leave (v := some z) (fun h => by rw [hrt] at h; cases h) hlk
  refine ⟨_, _, Jvm.RoadKit.retOut X hx hrt ?_ (Or.inr (Or.inr (Or.inr (Or.inr ⟨rfl, htr, hz⟩)))) hd hr, hrun, hended, _, _, rfl, hQ, ⟨_, rfl⟩, hW, hsame.mono hc hs⟩
  cases z <;> first | (cases t <;> rfl) | (simp [Value.isRef] at hz)
theorem GoOn.ret0 (X : Stand p l e R s m args below meth c T locs cells slots) (hx : p.tables.exec = Jvm.exec) (hrt : meth.sig.returnType = none) (hlk : meth.locks = false) {rm : Room} {Q : Option Value → Heap → List Loc → Prop} {pc : Nat} {Ls : Array Slot}
    (hd : decode c.code pc = .ok (.return_, 1)) (hc : cells ≤ rm.cells) (hs : slots ≤ rm.slots) (hQ : Q none T.heap locs) : GoOn p e below (EndQ s rm Q) (T.setTop (mkF m pc Ls [])) := by
  obtain ⟨fs, hr, hrun, hended, hW, hsame⟩ := X.leave (v := none) (fun _ => rfl) hlk
  exact ⟨_, _, X.returnOut hx hrt hd hr, hrun, hended, _, _, rfl, hQ, ⟨_, rfl⟩, hW, hsame.mono hc hs⟩
/-- a static call by its contract -/
theorem kCallS (X : Stand p l e R s m args below meth c T locs cells slots) (hx : p.tables.exec = Jvm.exec) (hZ : Z.Warmed39 s.vm) {own : String} {index : Nat} {y : MethodName} {bytes : ByteArray} {mx : Nat} {rt : Option FieldType} {rm : Room} {Q : Option Value → Heap → List Loc → Prop} {argsL rest : List Value}
    (K : Con l Z y bytes mx rt rm argsL.toArray h Q) (hown : s.vm.findClass own = some m.cls) (w1 : (Jvm.Cond.methodLink own index y).before a0 Z = true) (w2 : (Jvm.Cond.static y).before a0 Z = true) (w3 : (Jvm.Cond.initialized y.cls).before a0 Z = true) (w4 : (Jvm.Cond.code y bytes mx rt).before a0 Z = true)
    (hy : y.cls ≠ "java/lang/invoke/MethodHandle" ∧ y.cls ≠ "java/lang/invoke/VarHandle") (eT : T.heap = h) {g : JFrame} (hg : g.method = m) (hsize : g.locals.size = c.maxLocals) (hlen : ∀ sig, parseMethodDescriptor y.desc = some sig → argsL.length = sig.parameters.length) (hstack : g.stack = argsL.reverse ++ rest)
    {W : Nat} (hW : 2 * g.monitorRoom + (rest.map fun v => v.category).sum ≤ W) (hd : decode c.code g.pc = .ok (.invokestatic index, 3)) (hf : rm.frames + 1 ≤ R.frames) (hl : W + (mx + 11) + rm.locals ≤ R.locals) (hc : cells + rm.cells ≤ R.cells) (hs : slots + rm.slots ≤ R.slots) :
    ∃ v T' L, Stand p l e R s m args below meth c T' (locs ++ L) (cells + rm.cells) (slots + rm.slots) ∧ Q v T'.heap L ∧ ∀ target, Steps p.tables e below (T'.setTop { g with pc := g.pc + 3, stack := v.toList ++ rest }) target → Steps p.tables e below (T.setTop g) target := by
  obtain ⟨v, _, ⟨T', L', k', n'⟩, -, X', ⟨L, hQ, l1, l2, l3⟩, st⟩ := Jvm.LawKit.callS X hx (y := y) hown (mvT hZ w1) (mvT hZ w2) (mvT hZ w3) (mvT hZ w4) hy (backOf (W := W) (K []) hZ w4 w3 hf hl) hg hsize hlen hstack hW hd (fun _ _ => ⟨rfl, eT, hc, hs⟩)
  dsimp only [Pt.U, Pt.locs, Pt.cells, Pt.slots] at X' l1 l2 l3 hQ st
  subst l1 l2 l3
  exact ⟨v, T', L, X', hQ, fun t k => st _ k⟩
/-- a constructor by its contract -/
theorem kCallI (X : Stand p l e R s m args below meth c T locs cells slots) (hx : p.tables.exec = Jvm.exec) (hZ : Z.Warmed39 s.vm) {own : String} {index : Nat} {y : MethodName} {bytes : ByteArray} {mx : Nat} {rm : Room} {Q : Option Value → Heap → List Loc → Prop} {a : Addr} {argsL rest : List Value}
    (K : Con l Z y bytes mx none rm (.ref a :: argsL).toArray h Q) (hy1 : y.name = "<init>") (hown : s.vm.findClass own = some m.cls) (w1 : (Jvm.Cond.methodLink own index y).before a0 Z = true) (w2 : (Jvm.Cond.instanceMethod y).before a0 Z = true) (w3 : (Jvm.Cond.initialized y.cls).before a0 Z = true) (w4 : (Jvm.Cond.code y bytes mx none).before a0 Z = true)
    (hy : y.cls ≠ "java/lang/invoke/MethodHandle" ∧ y.cls ≠ "java/lang/invoke/VarHandle") (eT : T.heap = h) {g : JFrame} (hg : g.method = m) (hsize : g.locals.size = c.maxLocals) (hlen : ∀ sig, parseMethodDescriptor y.desc = some sig → argsL.length = sig.parameters.length) (hstack : g.stack = argsL.reverse ++ .ref a :: rest)
    {W : Nat} (hW : 2 * g.monitorRoom + (rest.map fun v => v.category).sum ≤ W) (hd : decode c.code g.pc = .ok (.invokespecial index, 3)) (hf : rm.frames + 1 ≤ R.frames) (hl : W + (mx + 11) + rm.locals ≤ R.locals) (hc : cells + rm.cells ≤ R.cells) (hs : slots + rm.slots ≤ R.slots) :
    ∃ v T' L, Stand p l e R s m args below meth c T' (locs ++ L) (cells + rm.cells) (slots + rm.slots) ∧ Q v T'.heap L ∧ ∀ target, Steps p.tables e below (T'.setTop { g with pc := g.pc + 3, stack := v.toList ++ rest }) target → Steps p.tables e below (T.setTop g) target := by
  obtain ⟨v, _, ⟨T', L', k', n'⟩, -, X', ⟨L, hQ, l1, l2, l3⟩, st⟩ := X.specialBack hx (y := y) hy1 hown (mvT hZ w1) (mvT hZ w2) (mvT hZ w4) hy (backOf (W := W) (K []) hZ w4 w3 hf hl) hg hsize (Steps.refl _) (a := a) hlen hstack hW hd (fun _ _ => ⟨rfl, eT, hc, hs⟩)
  dsimp only [Pt.U, Pt.locs, Pt.cells, Pt.slots] at X' l1 l2 l3 hQ st
  subst l1 l2 l3
  exact ⟨v, T', L, X', hQ, fun t k => st.trans k⟩
/-- an instance method by its contract, on an object of that very class -/
theorem kCallV (X : Stand p l e R s m args below meth c T locs cells slots) (hx : p.tables.exec = Jvm.exec) (hZ : Z.Warmed39 s.vm) {own C : String} {index : Nat} {y z : MethodName} {bytes : ByteArray} {mx : Nat} {rt : Option FieldType} {rm : Room} {Q : Option Value → Heap → List Loc → Prop} {a : Addr} {argsL rest : List Value}
    (K : Con l Z z bytes mx rt rm (.ref a :: argsL).toArray h Q) (hown : s.vm.findClass own = some m.cls) (w1 : (Jvm.Cond.methodLink own index y).before a0 Z = true) (wd : (Jvm.Cond.declares y).before a0 Z = true) (hnf : NotFace s y) (ws : (Jvm.Cond.selects C y z).before a0 Z = true) (w2 : (Jvm.Cond.instanceMethod z).before a0 Z = true) (w3 : (Jvm.Cond.initialized z.cls).before a0 Z = true) (w4 : (Jvm.Cond.code z bytes mx rt).before a0 Z = true)
    (hy : y.cls ≠ "java/lang/invoke/MethodHandle" ∧ y.cls ≠ "java/lang/invoke/VarHandle") (eT : T.heap = h) (E : Exa Z h a C) {g : JFrame} (hg : g.method = m) (hsize : g.locals.size = c.maxLocals) (hlen : ∀ sig, parseMethodDescriptor y.desc = some sig → argsL.length = sig.parameters.length) (hstack : g.stack = argsL.reverse ++ .ref a :: rest)
    {W : Nat} (hW : 2 * g.monitorRoom + (rest.map fun v => v.category).sum ≤ W) (hd : decode c.code g.pc = .ok (.invokevirtual index, 3)) (hf : rm.frames + 1 ≤ R.frames) (hl : W + (mx + 11) + rm.locals ≤ R.locals) (hc : cells + rm.cells ≤ R.cells) (hs : slots + rm.slots ≤ R.slots) :
    ∃ v T' L, Stand p l e R s m args below meth c T' (locs ++ L) (cells + rm.cells) (slots + rm.slots) ∧ Q v T'.heap L ∧ ∀ target, Steps p.tables e below (T'.setTop { g with pc := g.pc + 3, stack := v.toList ++ rest }) target → Steps p.tables e below (T.setTop g) target := by
  obtain ⟨cB, kB, q1, q2, q3⟩ := isOf hZ eT E
  obtain ⟨v, _, ⟨T', L', k', n'⟩, -, X', ⟨L, hQ, l1, l2, l3⟩, st⟩ := X.virtualBack hx (y := y) (z := z) hown (mvT hZ w1) (mvT hZ wd) hnf (mvT hZ ws) (mvT hZ w2) hy (backOf (W := W) (K []) hZ w4 w3 hf hl) q1 q3 hg hsize (Steps.refl _) hlen hstack hW hd (fun _ _ => ⟨rfl, eT, hc, hs⟩)
  dsimp only [Pt.U, Pt.locs, Pt.cells, Pt.slots] at X' l1 l2 l3 hQ st
  subst l1 l2 l3
  exact ⟨v, T', L, X', hQ, fun t k => st.trans k⟩
/-- a private method by its contract ('invokevirtual'); y2: a method of the same class of which is known that its class is no interface -/
theorem kCallP (X : Stand p l e R s m args below meth c T locs cells slots) (hx : p.tables.exec = Jvm.exec) (hZ : Z.Warmed39 s.vm) {own C : String} {index : Nat} {y y2 : MethodName} {bytes : ByteArray} {mx : Nat} {rt : Option FieldType} {rm : Room} {Q : Option Value → Heap → List Loc → Prop} {a : Addr} {argsL rest : List Value}
    (K : Con l Z y bytes mx rt rm (.ref a :: argsL).toArray h Q) (hown : s.vm.findClass own = some m.cls) (w1 : (Jvm.Cond.methodLink own index y).before a0 Z = true) (w2 : (Jvm.Cond.instanceMethod y).before a0 Z = true) (wp : (Jvm.Cond.privateMethod y).before a0 Z = true) (w3 : (Jvm.Cond.initialized y.cls).before a0 Z = true) (w4 : (Jvm.Cond.code y bytes mx rt).before a0 Z = true)
    (hnf : NotFace s y2) (hcl : y2.cls = y.cls) (w5 : (Jvm.Cond.instanceMethod y2).before a0 Z = true)
    (hy : y.cls ≠ "java/lang/invoke/MethodHandle" ∧ y.cls ≠ "java/lang/invoke/VarHandle") (eT : T.heap = h) (E : Exa Z h a C) {g : JFrame} (hg : g.method = m) (hsize : g.locals.size = c.maxLocals) (hlen : ∀ sig, parseMethodDescriptor y.desc = some sig → argsL.length = sig.parameters.length) (hstack : g.stack = argsL.reverse ++ .ref a :: rest)
    {W : Nat} (hW : 2 * g.monitorRoom + (rest.map fun v => v.category).sum ≤ W) (hd : decode c.code g.pc = .ok (.invokevirtual index, 3)) (hf : rm.frames + 1 ≤ R.frames) (hl : W + (mx + 11) + rm.locals ≤ R.locals) (hc : cells + rm.cells ≤ R.cells) (hs : slots + rm.slots ≤ R.slots) :
    ∃ v T' L, Stand p l e R s m args below meth c T' (locs ++ L) (cells + rm.cells) (slots + rm.slots) ∧ Q v T'.heap L ∧ ∀ target, Steps p.tables e below (T'.setTop { g with pc := g.pc + 3, stack := v.toList ++ rest }) target → Steps p.tables e below (T.setTop g) target := by
  obtain ⟨cB, kB, q1, q2, cell, q3, q4, q5⟩ := isOf hZ eT E
  obtain ⟨mk, methM, hnamed, hmethM, hstM, habM⟩ := Cond.instanceMethod_spec (mvT (args := args) hZ w2)
  obtain ⟨methM', cM, hmethM', -, -, -, -, -, -, hsigM⟩ := Cond.code_spec hnamed (mvT (args := args) hZ w4)
  cases hmethM.symm.trans hmethM'
  obtain ⟨mk2, methM2, hnamed2, -⟩ := Cond.instanceMethod_spec (mvT (args := args) hZ w5)
  obtain ⟨kP, hkP, hkPi⟩ := hnf mk2 hnamed2
  have hcc : mk2.cls = mk.cls := by
    have u1 := findClass_of_methodNamed hnamed2
    rw [hcl] at u1
    exact Option.some.inj (u1.symm.trans (findClass_of_methodNamed hnamed))
  rw [hcc] at hkP
  have hpriv : s.PrivateAt y := Cond.privateMethod_at (mvP hZ wp (args := args))
  obtain ⟨vm₁, X₁, hstep₁⟩ := X.invokevirtual hx hown (mvT hZ w1) hnamed hmethM hstM hkP hkPi hy (a := a) (cell := cell) q3 (fun q z => by rw [z] at q5; cases q5) (selectMethod_private hmethM (hpriv mk methM hnamed hmethM)) hmethM habM hkP hkPi (g := g) hg (argsL := argsL) (rest := rest) (hlen _ hsigM) hstack hd
  obtain ⟨v, ⟨T', L', k', n'⟩, X', ⟨L, hQ, l1, l2, l3⟩, st⟩ := (backOf (W := W) (K []) hZ w4 w3 hf hl) m meth c ⟨T.setVm vm₁, locs, cells, slots⟩ { g with stack := rest } (.invokevirtual index) mk (.ref a :: argsL).toArray X₁ hg hsize hd hW (X₁.named hnamed) ⟨rfl, eT, hc, hs⟩
  dsimp only [Pt.U, Pt.locs, Pt.cells, Pt.slots] at X' l1 l2 l3 hQ st
  subst l1 l2 l3
  exact ⟨v, T', L, X', hQ, fun t k => (hstep₁ _ fun acts => by rw [doInvoke_state]; exact Steps.refl _).trans (st.trans k)⟩
/-- an array: its kind, its length, what each place holds -/
def Jar (Z : State) (h : Heap) (a : Addr) (ty : FieldType) (n : Nat) (f : Nat → Value) : Prop := ∃ cl : Cell, Arr Z h a cl ty ∧ cl.slots.size = n ∧ ∀ i, i < n → cl.slots[i]? = some (f i)
section JarS
variable {a b : Addr} {ty : FieldType} {n : Nat} {f g : Nat → Value} {v : Value} {sl : Nat} {ws : List Addr}
theorem Jar.lt (F : Jar Z h a ty n f) : a < h.size := by obtain ⟨cl, A, -⟩ := F; exact A.lt
theorem Jar.ext (F : Jar Z h a ty n f) (E : Ext h h') : Jar Z h' a ty n f := by obtain ⟨cl, A, r⟩ := F; exact ⟨cl, A.ext E, r⟩
theorem Jar.other (F : Jar Z h b ty n f) (W : Wr h h' a sl v) (q : b ≠ a) : Jar Z h' b ty n f := by obtain ⟨cl, A, r⟩ := F; exact ⟨cl, A.other W q, r⟩
theorem Jar.keep (F : Jar Z h a ty n f) (K : Keep h h' ws) (q : a ∉ ws) : Jar Z h' a ty n f := by obtain ⟨cl, A, r⟩ := F; exact ⟨cl, ⟨K.2.1 a cl A.1 q, A.2⟩, r⟩
theorem Jar.congr (F : Jar Z h a ty n f) (q : ∀ i, i < n → f i = g i) : Jar Z h a ty n g := by obtain ⟨cl, A, s1, s2⟩ := F; exact ⟨cl, A, s1, fun i hi => by rw [s2 i hi, q i hi]⟩
theorem Jar.new {k : ClassId} {z : Int32} (A : Arr Z h a (newA k ty z) ty) (hz : z.toNatClampNeg = n) : Jar Z h a ty n (fun _ => defaultValue ty) := ⟨_, A, (sz_new _ _ _).trans hz, fun i hi => by simp [newA, hz, hi]⟩
theorem Jar.set (F : Jar Z h a ty n f) (W : Wr h h' a sl v) : Jar Z h' a ty n (fun i => if i = sl then v else f i) := by
  obtain ⟨cl, A, s1, s2⟩ := F
  obtain ⟨c2, q1, -, q3, -⟩ := id W
  cases A.1.symm.trans q1
  refine ⟨_, Arr.same W A, by simp [Cell.setSlot, s1], fun i hi => ?_⟩
  by_cases q : i = sl
  · subst q; simp [Cell.setSlot, q3]
  · show (cl.slots.setIfInBounds sl v)[i]? = some (if i = sl then v else f i)
    rw [if_neg q, ← s2 i hi, Array.getElem?_setIfInBounds_ne (Ne.symm q)]
theorem Jar.ints (F : Jar Z h a ty n f) (H : ∀ i, ∃ x, f i = .int x) : ∃ g : Nat → Int32, Jar Z h a ty n (fun i => .int (g i)) := ⟨fun i => Classical.choose (H i), F.congr fun i _ => Classical.choose_spec (H i)⟩
theorem Jar.longs (F : Jar Z h a ty n f) (H : ∀ i, ∃ x, f i = .long x) : ∃ g : Nat → Int64, Jar Z h a ty n (fun i => .long (g i)) := ⟨fun i => Classical.choose (H i), F.congr fun i _ => Classical.choose_spec (H i)⟩
theorem inJ {cl : Cell} {j : Int32} (s1 : cl.slots.size = n) (hj : 0 ≤ j.toInt ∧ j.toInt < n) : ¬ (j < 0 ∨ cl.slots.size ≤ j.toNatClampNeg) := by
  rw [s1, Int32.lt_iff_toInt_lt]
  have e1 : (0 : Int32).toInt = 0 := rfl
  have e2 : j.toNatClampNeg = j.toInt.toNat := rfl
  omega
theorem natJ {j : Int32} (hj : 0 ≤ j.toInt ∧ j.toInt < n) : j.toNatClampNeg < n := by
  have e2 : j.toNatClampNeg = j.toInt.toNat := rfl
  omega
end JarS
theorem kLdI (X : Stand p l e R s m args below meth c T locs cells slots) (hx : p.tables.exec = Jvm.exec) (hZ : Z.Warmed39 s.vm) (eT : T.heap = h) {a : Addr} {n : Nat} {f : Nat → Value} (F : Jar Z h a .int n f) {j : Int32} {v : Value} (hj : 0 ≤ j.toInt ∧ j.toInt < n) (hv : f j.toNatClampNeg = v) {g : JFrame} (hg : g.method = m) {rest : List Value} (hs : g.stack = .int j :: .ref a :: rest) (hd : decode c.code g.pc = .ok (.iaload, 1)) :
    ∀ t, Steps p.tables e below (T.setTop { g with pc := g.pc + 1, stack := v :: rest }) t → Steps p.tables e below (T.setTop g) t := by
  obtain ⟨cl, A, s1, s2⟩ := F
  exact X.iaload hx (j := j) (v := v) (by rw [eT]; exact A.1) (State.isArrayOf_alike hZ.alike A.2.1) A.2.2 (inJ s1 hj) (by rw [s2 _ (natJ hj), hv]) hg hs hd
theorem kLdJ (X : Stand p l e R s m args below meth c T locs cells slots) (hx : p.tables.exec = Jvm.exec) (hZ : Z.Warmed39 s.vm) (eT : T.heap = h) {a : Addr} {n : Nat} {f : Nat → Value} (F : Jar Z h a .long n f) {j : Int32} {v : Value} (hj : 0 ≤ j.toInt ∧ j.toInt < n) (hv : f j.toNatClampNeg = v) {g : JFrame} (hg : g.method = m) {rest : List Value} (hs : g.stack = .int j :: .ref a :: rest) (hd : decode c.code g.pc = .ok (.laload, 1)) :
    ∀ t, Steps p.tables e below (T.setTop { g with pc := g.pc + 1, stack := v :: rest }) t → Steps p.tables e below (T.setTop g) t := by
  obtain ⟨cl, A, s1, s2⟩ := F
  exact X.laload hx (j := j) (v := v) (by rw [eT]; exact A.1) (State.isArrayOf_alike hZ.alike A.2.1) A.2.2 (inJ s1 hj) (by rw [s2 _ (natJ hj), hv]) hg hs hd
theorem kLdB (X : Stand p l e R s m args below meth c T locs cells slots) (hx : p.tables.exec = Jvm.exec) (hZ : Z.Warmed39 s.vm) (eT : T.heap = h) {a : Addr} {n : Nat} {f : Nat → Value} (F : Jar Z h a .byte n f) {j : Int32} {v : Value} (hj : 0 ≤ j.toInt ∧ j.toInt < n) (hv : f j.toNatClampNeg = v) {g : JFrame} (hg : g.method = m) {rest : List Value} (hs : g.stack = .int j :: .ref a :: rest) (hd : decode c.code g.pc = .ok (.baload, 1)) :
    ∀ t, Steps p.tables e below (T.setTop { g with pc := g.pc + 1, stack := v :: rest }) t → Steps p.tables e below (T.setTop g) t := by
  obtain ⟨cl, A, s1, s2⟩ := F
  exact X.baloadBytes hx (j := j) (v := v) (by rw [eT]; exact A.1) (State.isArrayOf_alike hZ.alike A.2.1) A.2.2 (inJ s1 hj) (by rw [s2 _ (natJ hj), hv]) hg hs hd
theorem kLdA (X : Stand p l e R s m args below meth c T locs cells slots) (hx : p.tables.exec = Jvm.exec) (hZ : Z.Warmed39 s.vm) (eT : T.heap = h) {a : Addr} {ty : FieldType} {n : Nat} {f : Nat → Value} (F : Jar Z h a ty n f) (hty : ty.isReference = true) {j : Int32} {v : Value} (hj : 0 ≤ j.toInt ∧ j.toInt < n) (hv : f j.toNatClampNeg = v) {g : JFrame} (hg : g.method = m) {rest : List Value} (hs : g.stack = .int j :: .ref a :: rest) (hd : decode c.code g.pc = .ok (.aaload, 1)) :
    ∀ t, Steps p.tables e below (T.setTop { g with pc := g.pc + 1, stack := v :: rest }) t → Steps p.tables e below (T.setTop g) t := by
  obtain ⟨cl, A, s1, s2⟩ := F
  exact X.aaload hx (j := j) (v := v) (by rw [eT]; exact A.1) (State.isArrayOf_alike hZ.alike A.2.1) hty A.2.2 (inJ s1 hj) (by rw [s2 _ (natJ hj), hv]) hg hs hd
theorem kLen (X : Stand p l e R s m args below meth c T locs cells slots) (hx : p.tables.exec = Jvm.exec) (hZ : Z.Warmed39 s.vm) (eT : T.heap = h) {a : Addr} {ty : FieldType} {n : Nat} {f : Nat → Value} (F : Jar Z h a ty n f) {z : Int32} (hz : n.toInt32 = z) {g : JFrame} (hg : g.method = m) {rest : List Value} (hs : g.stack = .ref a :: rest) (hd : decode c.code g.pc = .ok (.arraylength, 1)) :
    ∀ t, Steps p.tables e below (T.setTop { g with pc := g.pc + 1, stack := .int z :: rest }) t → Steps p.tables e below (T.setTop g) t := by
  obtain ⟨cl, A, s1, s2⟩ := F
  subst hz s1
  exact X.arraylength hx (by rw [eT]; exact A.1) (State.isArrayOf_alike hZ.alike A.2.1) hg hs hd
/-- a store: what the three kinds say alike -/
theorem kStI (X : Stand p l e R s m args below meth c T locs cells slots) (hx : p.tables.exec = Jvm.exec) (hZ : Z.Warmed39 s.vm) (eT : T.heap = h) {a : Addr} {n : Nat} {f : Nat → Value} (F : Jar Z h a .int n f) {j x : Int32} (hj : 0 ≤ j.toInt ∧ j.toInt < n) {g : JFrame} (hg : g.method = m) {rest : List Value} (hs : g.stack = .int x :: .int j :: .ref a :: rest) (hd : decode c.code g.pc = .ok (.iastore, 1)) :
    ∃ T' h', Stand p l e R s m args below meth c T' (locs ++ [⟨a, j.toNatClampNeg⟩]) cells slots ∧ T'.heap = h' ∧ Wr h h' a j.toNatClampNeg (.int x) ∧ ∀ target, Steps p.tables e below (T'.setTop { g with pc := g.pc + 1, stack := rest }) target → Steps p.tables e below (T.setTop g) target := by
  obtain ⟨cl, A, s1, s2⟩ := F
  exact stI X hx hZ eT A (inJ s1 hj) hg hs hd
theorem kStJ (X : Stand p l e R s m args below meth c T locs cells slots) (hx : p.tables.exec = Jvm.exec) (hZ : Z.Warmed39 s.vm) (eT : T.heap = h) {a : Addr} {n : Nat} {f : Nat → Value} (F : Jar Z h a .long n f) {j : Int32} {x : Int64} (hj : 0 ≤ j.toInt ∧ j.toInt < n) {g : JFrame} (hg : g.method = m) {rest : List Value} (hs : g.stack = .long x :: .int j :: .ref a :: rest) (hd : decode c.code g.pc = .ok (.lastore, 1)) :
    ∃ T' h', Stand p l e R s m args below meth c T' (locs ++ [⟨a, j.toNatClampNeg⟩]) cells slots ∧ T'.heap = h' ∧ Wr h h' a j.toNatClampNeg (.long x) ∧ ∀ target, Steps p.tables e below (T'.setTop { g with pc := g.pc + 1, stack := rest }) target → Steps p.tables e below (T.setTop g) target := by
  obtain ⟨cl, A, s1, s2⟩ := F
  exact stJ X hx hZ eT A (inJ s1 hj) hg hs hd
theorem kStB (X : Stand p l e R s m args below meth c T locs cells slots) (hx : p.tables.exec = Jvm.exec) (hZ : Z.Warmed39 s.vm) (eT : T.heap = h) {a : Addr} {n : Nat} {f : Nat → Value} (F : Jar Z h a .byte n f) {j x : Int32} (hj : 0 ≤ j.toInt ∧ j.toInt < n) {g : JFrame} (hg : g.method = m) {rest : List Value} (hs : g.stack = .int x :: .int j :: .ref a :: rest) (hd : decode c.code g.pc = .ok (.bastore, 1)) :
    ∃ T' h', Stand p l e R s m args below meth c T' (locs ++ [⟨a, j.toNatClampNeg⟩]) cells slots ∧ T'.heap = h' ∧ Wr h h' a j.toNatClampNeg (.int (x.toInt8.toInt32)) ∧ ∀ target, Steps p.tables e below (T'.setTop { g with pc := g.pc + 1, stack := rest }) target → Steps p.tables e below (T.setTop g) target := by
  obtain ⟨cl, A, s1, s2⟩ := F
  exact stB X hx hZ eT A (inJ s1 hj) hg hs hd
theorem kClone (X : Stand p l e R s m args below meth c T locs cells slots) (hx : p.tables.exec = Jvm.exec) (hZ : Z.Warmed39 s.vm) {own ad : String} {index : Nat} (hown : s.vm.findClass own = some m.cls)
    (w1 : (Jvm.Cond.methodLink own index ⟨ad, "clone", "()Ljava/lang/Object;"⟩).before a0 Z = true) (w2 : (Jvm.Cond.sameMethod ad "java/lang/Object" "clone" "()Ljava/lang/Object;").before a0 Z = true) (w3 : (Jvm.Cond.native ⟨"java/lang/Object", "clone", "()Ljava/lang/Object;"⟩).before a0 Z = true)
    (w4 : (Jvm.Cond.instanceMethod ⟨"java/lang/Object", "clone", "()Ljava/lang/Object;"⟩).before a0 Z = true) (w5 : (Jvm.Cond.selects ad ⟨ad, "clone", "()Ljava/lang/Object;"⟩ ⟨"java/lang/Object", "clone", "()Ljava/lang/Object;"⟩).before a0 Z = true) (w6 : (Jvm.Cond.castable ad "java/lang/Cloneable").before a0 Z = true)
    (eT : T.heap = h) {a : Addr} {ty : FieldType} {n : Nat} {f : Nat → Value} (F : Jar Z h a ty n f) (E : Exa Z h a ad) (hft : ∀ i, i < n → fits ty (f i) = true) {g : JFrame} (hg : g.method = m) (hsize : g.locals.size = c.maxLocals) {rest : List Value} (hs : g.stack = .ref a :: rest) (hd : decode c.code g.pc = .ok (.invokevirtual index, 3))
    (hf : 1 ≤ R.frames) {W cap : Nat} (hW : 2 * g.monitorRoom + (rest.map fun v => v.category).sum ≤ W) (hl : W + 14 ≤ R.locals) (hcap : n ≤ cap) (hc : cells + 1 ≤ R.cells) (hsl : slots + cap ≤ R.slots) :
    ∃ T' h', Stand p l e R s m args below meth c T' locs (cells + 1) (slots + cap) ∧ T'.heap = h' ∧ Ext h h' ∧ Jar Z h' h.size ty n f ∧ Exa Z h' h.size ad ∧
      ∀ target, Steps p.tables e below (T'.setTop { g with pc := g.pc + 3, stack := .ref h.size :: rest }) target → Steps p.tables e below (T.setTop g) target := by
  obtain ⟨cl, A, s1, s2⟩ := F
  have FC : FitC Z cl := fitC_of A fun i hi v hv => by rw [s2 i (s1 ▸ hi)] at hv; cases hv; exact hft i (s1 ▸ hi)
  obtain ⟨T', h', X', e', ex, A', E', st⟩ := cloneA X hx hZ hown w1 w2 w3 w4 w5 w6 eT A E FC hg hsize hs hd hf hW hl (by rw [s1]; exact hcap) hc hsl
  exact ⟨T', h', X', e', ex, ⟨cloneOf cl, A', s1, s2⟩, E', st⟩
theorem narO {C : String} (v : Value) : narrow (.object C) v = v := by cases v <;> rfl
theorem fitO {C : String} {v : Value} (h : v.isRef = true) : fits (.object C) v = true := by cases v <;> first | rfl | (simp [Value.isRef] at h)
/-- what a body that writes nothing and makes nothing leaves -/
def PQ (r : Option Value) (h0 : Heap) : Option Value → Heap → List Loc → Prop := fun v h L => v = r ∧ L = [] ∧ h = h0
/-- what the law leaves -/
def LQ (n0 : Nat) : Option Value → Heap → List Loc → Prop := fun v _ L => v = some (.int 1) ∧ Fr n0 L
end OwnKit
theorem pn_0 : plainName "com/example/austere_log/austerelog/http/ObjectBodyNotPlainPinLaw" = true := by first | (simp [plainName, overriddenIn]; done) | decide +kernel
theorem d2_0 : decode method_3_code 0 = .ok (.lload_n 0, 1) := by decide +kernel
theorem d2_1 : decode method_3_code 1 = .ok (.bipush 8, 2) := by decide +kernel
theorem d2_3 : decode method_3_code 3 = .ok (.iload_n 2, 1) := by decide +kernel
theorem d2_4 : decode method_3_code 4 = .ok (.imul, 1) := by decide +kernel
theorem d2_5 : decode method_3_code 5 = .ok (.lushr, 1) := by decide +kernel
theorem d2_6 : decode method_3_code 6 = .ok (.ldc2_w 36, 3) := by decide +kernel
theorem d2_9 : decode method_3_code 9 = .ok (.land, 1) := by decide +kernel
theorem d2_10 : decode method_3_code 10 = .ok (.l2i, 1) := by decide +kernel
theorem d2_11 : decode method_3_code 11 = .ok (.ireturn, 1) := by decide +kernel
theorem d5_0 : decode method_4_code 0 = .ok (.iload_n 0, 1) := by decide +kernel
theorem d5_1 : decode method_4_code 1 = .ok (.bipush 32, 2) := by decide +kernel
theorem d5_3 : decode method_4_code 3 = .ok (.if_icmp .lt 26, 3) := by decide +kernel
theorem d5_29 : decode method_4_code 29 = .ok (.iconst 0, 1) := by decide +kernel
theorem d5_30 : decode method_4_code 30 = .ok (.ireturn, 1) := by decide +kernel
theorem d5_6 : decode method_4_code 6 = .ok (.iload_n 0, 1) := by decide +kernel
theorem d5_7 : decode method_4_code 7 = .ok (.sipush 128, 3) := by decide +kernel
theorem d5_10 : decode method_4_code 10 = .ok (.if_icmp .ge 19, 3) := by decide +kernel
theorem d5_13 : decode method_4_code 13 = .ok (.iload_n 0, 1) := by decide +kernel
theorem d5_14 : decode method_4_code 14 = .ok (.bipush 34, 2) := by decide +kernel
theorem d5_16 : decode method_4_code 16 = .ok (.if_icmp .eq 13, 3) := by decide +kernel
theorem d5_19 : decode method_4_code 19 = .ok (.iload_n 0, 1) := by decide +kernel
theorem d5_20 : decode method_4_code 20 = .ok (.bipush 92, 2) := by decide +kernel
theorem d5_22 : decode method_4_code 22 = .ok (.if_icmp .eq 7, 3) := by decide +kernel
theorem d5_25 : decode method_4_code 25 = .ok (.iconst 1, 1) := by decide +kernel
theorem d5_26 : decode method_4_code 26 = .ok (.goto 4, 3) := by decide +kernel
theorem d1_0 : decode method_5_code 0 = .ok (.lload_n 0, 1) := by decide +kernel
theorem d1_1 : decode method_5_code 1 = .ok (.iload_n 2, 1) := by decide +kernel
theorem pd_0 : parseMethodDescriptor "(JI)I" = some ⟨[.long, .int], some .int⟩ := by decide +kernel
theorem d1_2 : decode method_5_code 2 = .ok (.invokestatic 28, 3) := by decide +kernel
theorem d1_5 : decode method_5_code 5 = .ok (.istore_n 3, 1) := by decide +kernel
theorem d1_6 : decode method_5_code 6 = .ok (.bipush 32, 2) := by decide +kernel
theorem d1_8 : decode method_5_code 8 = .ok (.iload_n 3, 1) := by decide +kernel
theorem d1_9 : decode method_5_code 9 = .ok (.bipush 96, 2) := by decide +kernel
theorem d1_11 : decode method_5_code 11 = .ok (.irem, 1) := by decide +kernel
theorem d1_12 : decode method_5_code 12 = .ok (.iadd, 1) := by decide +kernel
theorem d1_13 : decode method_5_code 13 = .ok (.istore 4, 2) := by decide +kernel
theorem d1_15 : decode method_5_code 15 = .ok (.iload 4, 2) := by decide +kernel
theorem d1_17 : decode method_5_code 17 = .ok (.bipush 34, 2) := by decide +kernel
theorem d1_19 : decode method_5_code 19 = .ok (.if_icmp .eq 10, 3) := by decide +kernel
theorem d1_29 : decode method_5_code 29 = .ok (.iload 4, 2) := by decide +kernel
theorem d1_31 : decode method_5_code 31 = .ok (.iconst 1, 1) := by decide +kernel
theorem d1_32 : decode method_5_code 32 = .ok (.iadd, 1) := by decide +kernel
theorem d1_33 : decode method_5_code 33 = .ok (.istore 4, 2) := by decide +kernel
theorem d1_35 : decode method_5_code 35 = .ok (.iload 4, 2) := by decide +kernel
theorem d1_37 : decode method_5_code 37 = .ok (.i2l, 1) := by decide +kernel
theorem d1_38 : decode method_5_code 38 = .ok (.bipush 8, 2) := by decide +kernel
theorem d1_40 : decode method_5_code 40 = .ok (.iload_n 2, 1) := by decide +kernel
theorem d1_41 : decode method_5_code 41 = .ok (.imul, 1) := by decide +kernel
theorem d1_42 : decode method_5_code 42 = .ok (.lshl, 1) := by decide +kernel
theorem d1_43 : decode method_5_code 43 = .ok (.lreturn, 1) := by decide +kernel
theorem d1_22 : decode method_5_code 22 = .ok (.iload 4, 2) := by decide +kernel
theorem d1_24 : decode method_5_code 24 = .ok (.bipush 92, 2) := by decide +kernel
theorem d1_26 : decode method_5_code 26 = .ok (.if_icmp .ne 9, 3) := by decide +kernel
theorem pn_1 : plainName "com/example/austere_log/austerelog/http/ObjectBody" = true := by first | (simp [plainName, overriddenIn]; done) | decide +kernel
theorem d3_0 : decode prog_10_method_15_code 0 = .ok (.lload_n 0, 1) := by decide +kernel
theorem d3_1 : decode prog_10_method_15_code 1 = .ok (.ldc2_w 258, 3) := by decide +kernel
theorem d3_4 : decode prog_10_method_15_code 4 = .ok (.lsub, 1) := by decide +kernel
theorem d3_5 : decode prog_10_method_15_code 5 = .ok (.lstore_n 2, 1) := by decide +kernel
theorem d3_6 : decode prog_10_method_15_code 6 = .ok (.lload_n 0, 1) := by decide +kernel
theorem d3_7 : decode prog_10_method_15_code 7 = .ok (.ldc2_w 260, 3) := by decide +kernel
theorem d3_10 : decode prog_10_method_15_code 10 = .ok (.lxor, 1) := by decide +kernel
theorem d3_11 : decode prog_10_method_15_code 11 = .ok (.ldc2_w 262, 3) := by decide +kernel
theorem d3_14 : decode prog_10_method_15_code 14 = .ok (.lsub, 1) := by decide +kernel
theorem d3_15 : decode prog_10_method_15_code 15 = .ok (.lstore 4, 2) := by decide +kernel
theorem d3_17 : decode prog_10_method_15_code 17 = .ok (.lload_n 0, 1) := by decide +kernel
theorem d3_18 : decode prog_10_method_15_code 18 = .ok (.ldc2_w 264, 3) := by decide +kernel
theorem d3_21 : decode prog_10_method_15_code 21 = .ok (.lxor, 1) := by decide +kernel
theorem d3_22 : decode prog_10_method_15_code 22 = .ok (.ldc2_w 262, 3) := by decide +kernel
theorem d3_25 : decode prog_10_method_15_code 25 = .ok (.lsub, 1) := by decide +kernel
theorem d3_26 : decode prog_10_method_15_code 26 = .ok (.lstore 6, 2) := by decide +kernel
theorem d3_28 : decode prog_10_method_15_code 28 = .ok (.lload_n 2, 1) := by decide +kernel
theorem d3_29 : decode prog_10_method_15_code 29 = .ok (.lload 4, 2) := by decide +kernel
theorem d3_31 : decode prog_10_method_15_code 31 = .ok (.lor, 1) := by decide +kernel
theorem d3_32 : decode prog_10_method_15_code 32 = .ok (.lload 6, 2) := by decide +kernel
theorem d3_34 : decode prog_10_method_15_code 34 = .ok (.lor, 1) := by decide +kernel
theorem d3_35 : decode prog_10_method_15_code 35 = .ok (.ldc2_w 266, 3) := by decide +kernel
theorem d3_38 : decode prog_10_method_15_code 38 = .ok (.land, 1) := by decide +kernel
theorem d3_39 : decode prog_10_method_15_code 39 = .ok (.lreturn, 1) := by decide +kernel
theorem d4_0 : decode method_6_code 0 = .ok (.lload_n 0, 1) := by decide +kernel
theorem d4_1 : decode method_6_code 1 = .ok (.iload 4, 2) := by decide +kernel
theorem d4_3 : decode method_6_code 3 = .ok (.invokestatic 28, 3) := by decide +kernel
theorem d4_6 : decode method_6_code 6 = .ok (.istore 6, 2) := by decide +kernel
theorem d4_8 : decode method_6_code 8 = .ok (.lload_n 2, 1) := by decide +kernel
theorem d4_9 : decode method_6_code 9 = .ok (.bipush 8, 2) := by decide +kernel
theorem d4_11 : decode method_6_code 11 = .ok (.iload 4, 2) := by decide +kernel
theorem d4_13 : decode method_6_code 13 = .ok (.imul, 1) := by decide +kernel
theorem d4_14 : decode method_6_code 14 = .ok (.bipush 7, 2) := by decide +kernel
theorem d4_16 : decode method_6_code 16 = .ok (.iadd, 1) := by decide +kernel
theorem d4_17 : decode method_6_code 17 = .ok (.lushr, 1) := by decide +kernel
theorem d4_18 : decode method_6_code 18 = .ok (.lconst 1, 1) := by decide +kernel
theorem d4_19 : decode method_6_code 19 = .ok (.land, 1) := by decide +kernel
theorem d4_20 : decode method_6_code 20 = .ok (.lconst 0, 1) := by decide +kernel
theorem d4_21 : decode method_6_code 21 = .ok (.lcmp, 1) := by decide +kernel
theorem d4_22 : decode method_6_code 22 = .ok (.ifCond .eq 7, 3) := by decide +kernel
theorem d4_29 : decode method_6_code 29 = .ok (.iconst 0, 1) := by decide +kernel
theorem d4_30 : decode method_6_code 30 = .ok (.istore 7, 2) := by decide +kernel
theorem d4_32 : decode method_6_code 32 = .ok (.iload 6, 2) := by decide +kernel
theorem pd_1 : parseMethodDescriptor "(I)Z" = some ⟨[.int], some .boolean⟩ := by decide +kernel
theorem d4_34 : decode method_6_code 34 = .ok (.invokestatic 32, 3) := by decide +kernel
theorem d4_37 : decode method_6_code 37 = .ok (.ifCond .ne 6, 3) := by decide +kernel
theorem d4_43 : decode method_6_code 43 = .ok (.iload 5, 2) := by decide +kernel
theorem d4_45 : decode method_6_code 45 = .ok (.ifCond .eq 14, 3) := by decide +kernel
theorem d4_40 : decode method_6_code 40 = .ok (.iload 7, 2) := by decide +kernel
theorem d4_42 : decode method_6_code 42 = .ok (.ireturn, 1) := by decide +kernel
theorem d4_59 : decode method_6_code 59 = .ok (.iconst 1, 1) := by decide +kernel
theorem d4_60 : decode method_6_code 60 = .ok (.ireturn, 1) := by decide +kernel
theorem d4_48 : decode method_6_code 48 = .ok (.iload 7, 2) := by decide +kernel
theorem d4_50 : decode method_6_code 50 = .ok (.ifCond .ne 7, 3) := by decide +kernel
theorem d4_53 : decode method_6_code 53 = .ok (.iconst 1, 1) := by decide +kernel
theorem d4_54 : decode method_6_code 54 = .ok (.goto 4, 3) := by decide +kernel
theorem d4_58 : decode method_6_code 58 = .ok (.ireturn, 1) := by decide +kernel
theorem d4_25 : decode method_6_code 25 = .ok (.iconst 1, 1) := by decide +kernel
theorem d4_26 : decode method_6_code 26 = .ok (.goto 4, 3) := by decide +kernel
theorem d4_57 : decode method_6_code 57 = .ok (.iconst 0, 1) := by decide +kernel
theorem pd_2 : parseMethodDescriptor "(JI)J" = some ⟨[.long, .int], some .long⟩ := by decide +kernel
theorem pd_3 : parseMethodDescriptor "(J)J" = some ⟨[.long], some .long⟩ := by decide +kernel
theorem pd_4 : parseMethodDescriptor "(JJIZ)Z" = some ⟨[.long, .long, .int, .boolean], some .boolean⟩ := by decide +kernel
def npV (x : Int64) : Int64 := ((((x - (2314885530818453536 : Int64)) ||| ((x ^^^ (2459565876494606882 : Int64)) - (72340172838076673 : Int64))) ||| ((x ^^^ (6655295901103053916 : Int64)) - (72340172838076673 : Int64))) &&& (-9187201950435737472 : Int64))
def dS (A B : Nat) : Nat := (18446744073709551616 - B + A) % 18446744073709551616
theorem npV_nat (x : Int64) : (npV x).toBitVec.toNat = ((dS x.toBitVec.toNat 2314885530818453536 ||| dS (x.toBitVec.toNat ^^^ 2459565876494606882) 72340172838076673) ||| dS (x.toBitVec.toNat ^^^ 6655295901103053916) 72340172838076673) &&& 9259542123273814144 := by
  simp only [npV, Int64.toBitVec_and, Int64.toBitVec_or, Int64.toBitVec_sub, Int64.toBitVec_xor, BitVec.toNat_and, BitVec.toNat_or, BitVec.toNat_xor, BitVec.toNat_sub, dS]
  rfl
def flag (b c1 c2 c3 : Nat) : Bool := (128 ≤ (b + 256 - 32 - c1) % 256) || (128 ≤ ((b ^^^ 34) + 256 - 1 - c2) % 256) || (128 ≤ ((b ^^^ 92) + 256 - 1 - c3) % 256)
def plB (b : Nat) : Bool := 32 ≤ b && b < 128 && b != 34 && b != 92
theorem fl1 : ∀ b, b < 256 → plB b = false → ∀ c1, c1 < 2 → ∀ c2, c2 < 2 → ∀ c3, c3 < 2 → flag b c1 c2 c3 = true := by decide +kernel
theorem fl0 : ∀ b, b < 256 → plB b = true → flag b 0 0 0 = false ∧ 32 ≤ b ∧ 1 ≤ (b ^^^ 34) ∧ 1 ≤ (b ^^^ 92) := by decide +kernel
def bw (A B P : Nat) : Nat := if A % P < B % P then 1 else 0
theorem bw2 (A B P : Nat) : bw A B P < 2 := by unfold bw; split <;> omega
theorem bw0 {A B P : Nat} (h : B % P ≤ A % P) : bw A B P = 0 := if_neg (by omega)
theorem bit_of (D1 D2 D3 K k : Nat) (hk : K.testBit k = true) : (((D1 ||| D2) ||| D3) &&& K) / 2 ^ k % 2 = 1 ↔ (D1 / 2 ^ k % 2 = 1 ∨ D2 / 2 ^ k % 2 = 1) ∨ D3 / 2 ^ k % 2 = 1 := by
  have h : ∀ N : Nat, N / 2 ^ k % 2 = 1 ↔ N.testBit k = true := fun N => by rw [Nat.testBit_eq_decide_div_mod_eq, decide_eq_true_iff]
  rw [h, h, h, h, Nat.testBit_and, Nat.testBit_or, Nat.testBit_or, hk, Bool.and_true, Bool.or_eq_true, Bool.or_eq_true]
theorem xb0 (X K : Nat) : (X ^^^ K) / 1 % 256 = (X / 1 % 256) ^^^ (K / 1 % 256) := by
  have h1 : (X ^^^ K) / 2 ^ 0 = X / 2 ^ 0 ^^^ K / 2 ^ 0 := Nat.xor_div_two_pow
  have h2 : (X / 2 ^ 0 ^^^ K / 2 ^ 0) % 2 ^ 8 = (X / 2 ^ 0) % 2 ^ 8 ^^^ (K / 2 ^ 0) % 2 ^ 8 := Nat.xor_mod_two_pow
  rw [← h1] at h2
  exact h2
theorem sb0 (A B : Nat) (hB : B < 18446744073709551616) : dS A B / 1 % 256 = (A / 1 % 256 + 256 - B / 1 % 256 - bw A B 1) % 256 := by
  unfold dS bw; split <;> omega
theorem mb0 (D : Nat) : D / 2 ^ 7 % 2 = 1 ↔ 128 ≤ D / 1 % 256 := by
  rw [show 2 ^ 7 = 128 from rfl]; omega
theorem nx0 (A B : Nat) (h : B % 1 ≤ A % 1) (q : B / 1 % 256 ≤ A / 1 % 256) : B % 256 ≤ A % 256 := by omega
theorem mk0 (X : Nat) : (((dS X 2314885530818453536 ||| dS (X ^^^ 2459565876494606882) 72340172838076673) ||| dS (X ^^^ 6655295901103053916) 72340172838076673) &&& 9259542123273814144) / 2 ^ 7 % 2 = 1 ↔ flag (X / 1 % 256) (bw X 2314885530818453536 1) (bw (X ^^^ 2459565876494606882) 72340172838076673 1) (bw (X ^^^ 6655295901103053916) 72340172838076673 1) = true := by
  rw [bit_of _ _ _ _ _ (by decide), mb0, mb0, mb0, sb0 _ _ (by decide), sb0 _ _ (by decide), sb0 _ _ (by decide), xb0, xb0]
  rw [show 2314885530818453536 / 1 % 256 = 32 from rfl, show 2459565876494606882 / 1 % 256 = 34 from rfl, show 72340172838076673 / 1 % 256 = 1 from rfl, show 6655295901103053916 / 1 % 256 = 92 from rfl]
  simp only [flag, Bool.or_eq_true, decide_eq_true_iff]
theorem xb1 (X K : Nat) : (X ^^^ K) / 256 % 256 = (X / 256 % 256) ^^^ (K / 256 % 256) := by
  have h1 : (X ^^^ K) / 2 ^ 8 = X / 2 ^ 8 ^^^ K / 2 ^ 8 := Nat.xor_div_two_pow
  have h2 : (X / 2 ^ 8 ^^^ K / 2 ^ 8) % 2 ^ 8 = (X / 2 ^ 8) % 2 ^ 8 ^^^ (K / 2 ^ 8) % 2 ^ 8 := Nat.xor_mod_two_pow
  rw [← h1] at h2
  exact h2
theorem sb1 (A B : Nat) (hB : B < 18446744073709551616) : dS A B / 256 % 256 = (A / 256 % 256 + 256 - B / 256 % 256 - bw A B 256) % 256 := by
  unfold dS bw; split <;> omega
theorem mb1 (D : Nat) : D / 2 ^ 15 % 2 = 1 ↔ 128 ≤ D / 256 % 256 := by
  rw [show 2 ^ 15 = 32768 from rfl]; omega
theorem nx1 (A B : Nat) (h : B % 256 ≤ A % 256) (q : B / 256 % 256 ≤ A / 256 % 256) : B % 65536 ≤ A % 65536 := by omega
theorem mk1 (X : Nat) : (((dS X 2314885530818453536 ||| dS (X ^^^ 2459565876494606882) 72340172838076673) ||| dS (X ^^^ 6655295901103053916) 72340172838076673) &&& 9259542123273814144) / 2 ^ 15 % 2 = 1 ↔ flag (X / 256 % 256) (bw X 2314885530818453536 256) (bw (X ^^^ 2459565876494606882) 72340172838076673 256) (bw (X ^^^ 6655295901103053916) 72340172838076673 256) = true := by
  rw [bit_of _ _ _ _ _ (by decide), mb1, mb1, mb1, sb1 _ _ (by decide), sb1 _ _ (by decide), sb1 _ _ (by decide), xb1, xb1]
  rw [show 2314885530818453536 / 256 % 256 = 32 from rfl, show 2459565876494606882 / 256 % 256 = 34 from rfl, show 72340172838076673 / 256 % 256 = 1 from rfl, show 6655295901103053916 / 256 % 256 = 92 from rfl]
  simp only [flag, Bool.or_eq_true, decide_eq_true_iff]
theorem xb2 (X K : Nat) : (X ^^^ K) / 65536 % 256 = (X / 65536 % 256) ^^^ (K / 65536 % 256) := by
  have h1 : (X ^^^ K) / 2 ^ 16 = X / 2 ^ 16 ^^^ K / 2 ^ 16 := Nat.xor_div_two_pow
  have h2 : (X / 2 ^ 16 ^^^ K / 2 ^ 16) % 2 ^ 8 = (X / 2 ^ 16) % 2 ^ 8 ^^^ (K / 2 ^ 16) % 2 ^ 8 := Nat.xor_mod_two_pow
  rw [← h1] at h2
  exact h2
theorem sb2 (A B : Nat) (hB : B < 18446744073709551616) : dS A B / 65536 % 256 = (A / 65536 % 256 + 256 - B / 65536 % 256 - bw A B 65536) % 256 := by
  unfold dS bw; split <;> omega
theorem mb2 (D : Nat) : D / 2 ^ 23 % 2 = 1 ↔ 128 ≤ D / 65536 % 256 := by
  rw [show 2 ^ 23 = 8388608 from rfl]; omega
theorem nx2 (A B : Nat) (h : B % 65536 ≤ A % 65536) (q : B / 65536 % 256 ≤ A / 65536 % 256) : B % 16777216 ≤ A % 16777216 := by omega
theorem mk2 (X : Nat) : (((dS X 2314885530818453536 ||| dS (X ^^^ 2459565876494606882) 72340172838076673) ||| dS (X ^^^ 6655295901103053916) 72340172838076673) &&& 9259542123273814144) / 2 ^ 23 % 2 = 1 ↔ flag (X / 65536 % 256) (bw X 2314885530818453536 65536) (bw (X ^^^ 2459565876494606882) 72340172838076673 65536) (bw (X ^^^ 6655295901103053916) 72340172838076673 65536) = true := by
  rw [bit_of _ _ _ _ _ (by decide), mb2, mb2, mb2, sb2 _ _ (by decide), sb2 _ _ (by decide), sb2 _ _ (by decide), xb2, xb2]
  rw [show 2314885530818453536 / 65536 % 256 = 32 from rfl, show 2459565876494606882 / 65536 % 256 = 34 from rfl, show 72340172838076673 / 65536 % 256 = 1 from rfl, show 6655295901103053916 / 65536 % 256 = 92 from rfl]
  simp only [flag, Bool.or_eq_true, decide_eq_true_iff]
theorem xb3 (X K : Nat) : (X ^^^ K) / 16777216 % 256 = (X / 16777216 % 256) ^^^ (K / 16777216 % 256) := by
  have h1 : (X ^^^ K) / 2 ^ 24 = X / 2 ^ 24 ^^^ K / 2 ^ 24 := Nat.xor_div_two_pow
  have h2 : (X / 2 ^ 24 ^^^ K / 2 ^ 24) % 2 ^ 8 = (X / 2 ^ 24) % 2 ^ 8 ^^^ (K / 2 ^ 24) % 2 ^ 8 := Nat.xor_mod_two_pow
  rw [← h1] at h2
  exact h2
theorem sb3 (A B : Nat) (hB : B < 18446744073709551616) : dS A B / 16777216 % 256 = (A / 16777216 % 256 + 256 - B / 16777216 % 256 - bw A B 16777216) % 256 := by
  unfold dS bw; split <;> omega
theorem mb3 (D : Nat) : D / 2 ^ 31 % 2 = 1 ↔ 128 ≤ D / 16777216 % 256 := by
  rw [show 2 ^ 31 = 2147483648 from rfl]; omega
theorem nx3 (A B : Nat) (h : B % 16777216 ≤ A % 16777216) (q : B / 16777216 % 256 ≤ A / 16777216 % 256) : B % 4294967296 ≤ A % 4294967296 := by omega
theorem mk3 (X : Nat) : (((dS X 2314885530818453536 ||| dS (X ^^^ 2459565876494606882) 72340172838076673) ||| dS (X ^^^ 6655295901103053916) 72340172838076673) &&& 9259542123273814144) / 2 ^ 31 % 2 = 1 ↔ flag (X / 16777216 % 256) (bw X 2314885530818453536 16777216) (bw (X ^^^ 2459565876494606882) 72340172838076673 16777216) (bw (X ^^^ 6655295901103053916) 72340172838076673 16777216) = true := by
  rw [bit_of _ _ _ _ _ (by decide), mb3, mb3, mb3, sb3 _ _ (by decide), sb3 _ _ (by decide), sb3 _ _ (by decide), xb3, xb3]
  rw [show 2314885530818453536 / 16777216 % 256 = 32 from rfl, show 2459565876494606882 / 16777216 % 256 = 34 from rfl, show 72340172838076673 / 16777216 % 256 = 1 from rfl, show 6655295901103053916 / 16777216 % 256 = 92 from rfl]
  simp only [flag, Bool.or_eq_true, decide_eq_true_iff]
theorem xb4 (X K : Nat) : (X ^^^ K) / 4294967296 % 256 = (X / 4294967296 % 256) ^^^ (K / 4294967296 % 256) := by
  have h1 : (X ^^^ K) / 2 ^ 32 = X / 2 ^ 32 ^^^ K / 2 ^ 32 := Nat.xor_div_two_pow
  have h2 : (X / 2 ^ 32 ^^^ K / 2 ^ 32) % 2 ^ 8 = (X / 2 ^ 32) % 2 ^ 8 ^^^ (K / 2 ^ 32) % 2 ^ 8 := Nat.xor_mod_two_pow
  rw [← h1] at h2
  exact h2
theorem sb4 (A B : Nat) (hB : B < 18446744073709551616) : dS A B / 4294967296 % 256 = (A / 4294967296 % 256 + 256 - B / 4294967296 % 256 - bw A B 4294967296) % 256 := by
  unfold dS bw; split <;> omega
theorem mb4 (D : Nat) : D / 2 ^ 39 % 2 = 1 ↔ 128 ≤ D / 4294967296 % 256 := by
  rw [show 2 ^ 39 = 549755813888 from rfl]; omega
theorem nx4 (A B : Nat) (h : B % 4294967296 ≤ A % 4294967296) (q : B / 4294967296 % 256 ≤ A / 4294967296 % 256) : B % 1099511627776 ≤ A % 1099511627776 := by omega
theorem mk4 (X : Nat) : (((dS X 2314885530818453536 ||| dS (X ^^^ 2459565876494606882) 72340172838076673) ||| dS (X ^^^ 6655295901103053916) 72340172838076673) &&& 9259542123273814144) / 2 ^ 39 % 2 = 1 ↔ flag (X / 4294967296 % 256) (bw X 2314885530818453536 4294967296) (bw (X ^^^ 2459565876494606882) 72340172838076673 4294967296) (bw (X ^^^ 6655295901103053916) 72340172838076673 4294967296) = true := by
  rw [bit_of _ _ _ _ _ (by decide), mb4, mb4, mb4, sb4 _ _ (by decide), sb4 _ _ (by decide), sb4 _ _ (by decide), xb4, xb4]
  rw [show 2314885530818453536 / 4294967296 % 256 = 32 from rfl, show 2459565876494606882 / 4294967296 % 256 = 34 from rfl, show 72340172838076673 / 4294967296 % 256 = 1 from rfl, show 6655295901103053916 / 4294967296 % 256 = 92 from rfl]
  simp only [flag, Bool.or_eq_true, decide_eq_true_iff]
theorem xb5 (X K : Nat) : (X ^^^ K) / 1099511627776 % 256 = (X / 1099511627776 % 256) ^^^ (K / 1099511627776 % 256) := by
  have h1 : (X ^^^ K) / 2 ^ 40 = X / 2 ^ 40 ^^^ K / 2 ^ 40 := Nat.xor_div_two_pow
  have h2 : (X / 2 ^ 40 ^^^ K / 2 ^ 40) % 2 ^ 8 = (X / 2 ^ 40) % 2 ^ 8 ^^^ (K / 2 ^ 40) % 2 ^ 8 := Nat.xor_mod_two_pow
  rw [← h1] at h2
  exact h2
theorem sb5 (A B : Nat) (hB : B < 18446744073709551616) : dS A B / 1099511627776 % 256 = (A / 1099511627776 % 256 + 256 - B / 1099511627776 % 256 - bw A B 1099511627776) % 256 := by
  unfold dS bw; split <;> omega
theorem mb5 (D : Nat) : D / 2 ^ 47 % 2 = 1 ↔ 128 ≤ D / 1099511627776 % 256 := by
  rw [show 2 ^ 47 = 140737488355328 from rfl]; omega
theorem nx5 (A B : Nat) (h : B % 1099511627776 ≤ A % 1099511627776) (q : B / 1099511627776 % 256 ≤ A / 1099511627776 % 256) : B % 281474976710656 ≤ A % 281474976710656 := by omega
theorem mk5 (X : Nat) : (((dS X 2314885530818453536 ||| dS (X ^^^ 2459565876494606882) 72340172838076673) ||| dS (X ^^^ 6655295901103053916) 72340172838076673) &&& 9259542123273814144) / 2 ^ 47 % 2 = 1 ↔ flag (X / 1099511627776 % 256) (bw X 2314885530818453536 1099511627776) (bw (X ^^^ 2459565876494606882) 72340172838076673 1099511627776) (bw (X ^^^ 6655295901103053916) 72340172838076673 1099511627776) = true := by
  rw [bit_of _ _ _ _ _ (by decide), mb5, mb5, mb5, sb5 _ _ (by decide), sb5 _ _ (by decide), sb5 _ _ (by decide), xb5, xb5]
  rw [show 2314885530818453536 / 1099511627776 % 256 = 32 from rfl, show 2459565876494606882 / 1099511627776 % 256 = 34 from rfl, show 72340172838076673 / 1099511627776 % 256 = 1 from rfl, show 6655295901103053916 / 1099511627776 % 256 = 92 from rfl]
  simp only [flag, Bool.or_eq_true, decide_eq_true_iff]
theorem xb6 (X K : Nat) : (X ^^^ K) / 281474976710656 % 256 = (X / 281474976710656 % 256) ^^^ (K / 281474976710656 % 256) := by
  have h1 : (X ^^^ K) / 2 ^ 48 = X / 2 ^ 48 ^^^ K / 2 ^ 48 := Nat.xor_div_two_pow
  have h2 : (X / 2 ^ 48 ^^^ K / 2 ^ 48) % 2 ^ 8 = (X / 2 ^ 48) % 2 ^ 8 ^^^ (K / 2 ^ 48) % 2 ^ 8 := Nat.xor_mod_two_pow
  rw [← h1] at h2
  exact h2
theorem sb6 (A B : Nat) (hB : B < 18446744073709551616) : dS A B / 281474976710656 % 256 = (A / 281474976710656 % 256 + 256 - B / 281474976710656 % 256 - bw A B 281474976710656) % 256 := by
  unfold dS bw; split <;> omega
theorem mb6 (D : Nat) : D / 2 ^ 55 % 2 = 1 ↔ 128 ≤ D / 281474976710656 % 256 := by
  rw [show 2 ^ 55 = 36028797018963968 from rfl]; omega
theorem nx6 (A B : Nat) (h : B % 281474976710656 ≤ A % 281474976710656) (q : B / 281474976710656 % 256 ≤ A / 281474976710656 % 256) : B % 72057594037927936 ≤ A % 72057594037927936 := by omega
theorem mk6 (X : Nat) : (((dS X 2314885530818453536 ||| dS (X ^^^ 2459565876494606882) 72340172838076673) ||| dS (X ^^^ 6655295901103053916) 72340172838076673) &&& 9259542123273814144) / 2 ^ 55 % 2 = 1 ↔ flag (X / 281474976710656 % 256) (bw X 2314885530818453536 281474976710656) (bw (X ^^^ 2459565876494606882) 72340172838076673 281474976710656) (bw (X ^^^ 6655295901103053916) 72340172838076673 281474976710656) = true := by
  rw [bit_of _ _ _ _ _ (by decide), mb6, mb6, mb6, sb6 _ _ (by decide), sb6 _ _ (by decide), sb6 _ _ (by decide), xb6, xb6]
  rw [show 2314885530818453536 / 281474976710656 % 256 = 32 from rfl, show 2459565876494606882 / 281474976710656 % 256 = 34 from rfl, show 72340172838076673 / 281474976710656 % 256 = 1 from rfl, show 6655295901103053916 / 281474976710656 % 256 = 92 from rfl]
  simp only [flag, Bool.or_eq_true, decide_eq_true_iff]
theorem xb7 (X K : Nat) : (X ^^^ K) / 72057594037927936 % 256 = (X / 72057594037927936 % 256) ^^^ (K / 72057594037927936 % 256) := by
  have h1 : (X ^^^ K) / 2 ^ 56 = X / 2 ^ 56 ^^^ K / 2 ^ 56 := Nat.xor_div_two_pow
  have h2 : (X / 2 ^ 56 ^^^ K / 2 ^ 56) % 2 ^ 8 = (X / 2 ^ 56) % 2 ^ 8 ^^^ (K / 2 ^ 56) % 2 ^ 8 := Nat.xor_mod_two_pow
  rw [← h1] at h2
  exact h2
theorem sb7 (A B : Nat) (hB : B < 18446744073709551616) : dS A B / 72057594037927936 % 256 = (A / 72057594037927936 % 256 + 256 - B / 72057594037927936 % 256 - bw A B 72057594037927936) % 256 := by
  unfold dS bw; split <;> omega
theorem mb7 (D : Nat) : D / 2 ^ 63 % 2 = 1 ↔ 128 ≤ D / 72057594037927936 % 256 := by
  rw [show 2 ^ 63 = 9223372036854775808 from rfl]; omega
theorem nx7 (A B : Nat) (h : B % 72057594037927936 ≤ A % 72057594037927936) (q : B / 72057594037927936 % 256 ≤ A / 72057594037927936 % 256) : B % 18446744073709551616 ≤ A % 18446744073709551616 := by omega
theorem mk7 (X : Nat) : (((dS X 2314885530818453536 ||| dS (X ^^^ 2459565876494606882) 72340172838076673) ||| dS (X ^^^ 6655295901103053916) 72340172838076673) &&& 9259542123273814144) / 2 ^ 63 % 2 = 1 ↔ flag (X / 72057594037927936 % 256) (bw X 2314885530818453536 72057594037927936) (bw (X ^^^ 2459565876494606882) 72340172838076673 72057594037927936) (bw (X ^^^ 6655295901103053916) 72340172838076673 72057594037927936) = true := by
  rw [bit_of _ _ _ _ _ (by decide), mb7, mb7, mb7, sb7 _ _ (by decide), sb7 _ _ (by decide), sb7 _ _ (by decide), xb7, xb7]
  rw [show 2314885530818453536 / 72057594037927936 % 256 = 32 from rfl, show 2459565876494606882 / 72057594037927936 % 256 = 34 from rfl, show 72340172838076673 / 72057594037927936 % 256 = 1 from rfl, show 6655295901103053916 / 72057594037927936 % 256 = 92 from rfl]
  simp only [flag, Bool.or_eq_true, decide_eq_true_iff]
def ClB (X : Nat) : Nat → Prop
  | 0 => True
  | i + 1 => ClB X i ∧ plB (X / 256 ^ i % 256) = true
def NoB (X P : Nat) : Prop := 2314885530818453536 % P ≤ X % P ∧ 72340172838076673 % P ≤ (X ^^^ 2459565876494606882) % P ∧ 72340172838076673 % P ≤ (X ^^^ 6655295901103053916) % P
theorem nb0 (X : Nat) (h : ClB X 0) : NoB X 1 := by
  simp only [NoB, Nat.mod_one]; omega
theorem nb1 (X : Nat) (h : ClB X 1) : NoB X 256 := by
  obtain ⟨h1, h2, h3⟩ := nb0 X h.1
  have hp : plB (X / 1 % 256) = true := h.2
  obtain ⟨-, f1, f2, f3⟩ := fl0 _ (Nat.mod_lt _ (by decide)) hp
  refine ⟨nx0 _ _ h1 ?_, nx0 _ _ h2 ?_, nx0 _ _ h3 ?_⟩
  · rw [show 2314885530818453536 / 1 % 256 = 32 from rfl]; exact f1
  · rw [xb0, show 72340172838076673 / 1 % 256 = 1 from rfl, show 2459565876494606882 / 1 % 256 = 34 from rfl]; exact f2
  · rw [xb0, show 72340172838076673 / 1 % 256 = 1 from rfl, show 6655295901103053916 / 1 % 256 = 92 from rfl]; exact f3
theorem nb2 (X : Nat) (h : ClB X 2) : NoB X 65536 := by
  obtain ⟨h1, h2, h3⟩ := nb1 X h.1
  have hp : plB (X / 256 % 256) = true := h.2
  obtain ⟨-, f1, f2, f3⟩ := fl0 _ (Nat.mod_lt _ (by decide)) hp
  refine ⟨nx1 _ _ h1 ?_, nx1 _ _ h2 ?_, nx1 _ _ h3 ?_⟩
  · rw [show 2314885530818453536 / 256 % 256 = 32 from rfl]; exact f1
  · rw [xb1, show 72340172838076673 / 256 % 256 = 1 from rfl, show 2459565876494606882 / 256 % 256 = 34 from rfl]; exact f2
  · rw [xb1, show 72340172838076673 / 256 % 256 = 1 from rfl, show 6655295901103053916 / 256 % 256 = 92 from rfl]; exact f3
theorem nb3 (X : Nat) (h : ClB X 3) : NoB X 16777216 := by
  obtain ⟨h1, h2, h3⟩ := nb2 X h.1
  have hp : plB (X / 65536 % 256) = true := h.2
  obtain ⟨-, f1, f2, f3⟩ := fl0 _ (Nat.mod_lt _ (by decide)) hp
  refine ⟨nx2 _ _ h1 ?_, nx2 _ _ h2 ?_, nx2 _ _ h3 ?_⟩
  · rw [show 2314885530818453536 / 65536 % 256 = 32 from rfl]; exact f1
  · rw [xb2, show 72340172838076673 / 65536 % 256 = 1 from rfl, show 2459565876494606882 / 65536 % 256 = 34 from rfl]; exact f2
  · rw [xb2, show 72340172838076673 / 65536 % 256 = 1 from rfl, show 6655295901103053916 / 65536 % 256 = 92 from rfl]; exact f3
theorem nb4 (X : Nat) (h : ClB X 4) : NoB X 4294967296 := by
  obtain ⟨h1, h2, h3⟩ := nb3 X h.1
  have hp : plB (X / 16777216 % 256) = true := h.2
  obtain ⟨-, f1, f2, f3⟩ := fl0 _ (Nat.mod_lt _ (by decide)) hp
  refine ⟨nx3 _ _ h1 ?_, nx3 _ _ h2 ?_, nx3 _ _ h3 ?_⟩
  · rw [show 2314885530818453536 / 16777216 % 256 = 32 from rfl]; exact f1
  · rw [xb3, show 72340172838076673 / 16777216 % 256 = 1 from rfl, show 2459565876494606882 / 16777216 % 256 = 34 from rfl]; exact f2
  · rw [xb3, show 72340172838076673 / 16777216 % 256 = 1 from rfl, show 6655295901103053916 / 16777216 % 256 = 92 from rfl]; exact f3
theorem nb5 (X : Nat) (h : ClB X 5) : NoB X 1099511627776 := by
  obtain ⟨h1, h2, h3⟩ := nb4 X h.1
  have hp : plB (X / 4294967296 % 256) = true := h.2
  obtain ⟨-, f1, f2, f3⟩ := fl0 _ (Nat.mod_lt _ (by decide)) hp
  refine ⟨nx4 _ _ h1 ?_, nx4 _ _ h2 ?_, nx4 _ _ h3 ?_⟩
  · rw [show 2314885530818453536 / 4294967296 % 256 = 32 from rfl]; exact f1
  · rw [xb4, show 72340172838076673 / 4294967296 % 256 = 1 from rfl, show 2459565876494606882 / 4294967296 % 256 = 34 from rfl]; exact f2
  · rw [xb4, show 72340172838076673 / 4294967296 % 256 = 1 from rfl, show 6655295901103053916 / 4294967296 % 256 = 92 from rfl]; exact f3
theorem nb6 (X : Nat) (h : ClB X 6) : NoB X 281474976710656 := by
  obtain ⟨h1, h2, h3⟩ := nb5 X h.1
  have hp : plB (X / 1099511627776 % 256) = true := h.2
  obtain ⟨-, f1, f2, f3⟩ := fl0 _ (Nat.mod_lt _ (by decide)) hp
  refine ⟨nx5 _ _ h1 ?_, nx5 _ _ h2 ?_, nx5 _ _ h3 ?_⟩
  · rw [show 2314885530818453536 / 1099511627776 % 256 = 32 from rfl]; exact f1
  · rw [xb5, show 72340172838076673 / 1099511627776 % 256 = 1 from rfl, show 2459565876494606882 / 1099511627776 % 256 = 34 from rfl]; exact f2
  · rw [xb5, show 72340172838076673 / 1099511627776 % 256 = 1 from rfl, show 6655295901103053916 / 1099511627776 % 256 = 92 from rfl]; exact f3
theorem nb7 (X : Nat) (h : ClB X 7) : NoB X 72057594037927936 := by
  obtain ⟨h1, h2, h3⟩ := nb6 X h.1
  have hp : plB (X / 281474976710656 % 256) = true := h.2
  obtain ⟨-, f1, f2, f3⟩ := fl0 _ (Nat.mod_lt _ (by decide)) hp
  refine ⟨nx6 _ _ h1 ?_, nx6 _ _ h2 ?_, nx6 _ _ h3 ?_⟩
  · rw [show 2314885530818453536 / 281474976710656 % 256 = 32 from rfl]; exact f1
  · rw [xb6, show 72340172838076673 / 281474976710656 % 256 = 1 from rfl, show 2459565876494606882 / 281474976710656 % 256 = 34 from rfl]; exact f2
  · rw [xb6, show 72340172838076673 / 281474976710656 % 256 = 1 from rfl, show 6655295901103053916 / 281474976710656 % 256 = 92 from rfl]; exact f3
theorem ok0 (x : Int64) : (plB (x.toBitVec.toNat / 1 % 256) = false → (npV x).toBitVec.toNat / 2 ^ 7 % 2 = 1) ∧ (plB (x.toBitVec.toNat / 1 % 256) = true → ClB x.toBitVec.toNat 0 → ¬ (npV x).toBitVec.toNat / 2 ^ 7 % 2 = 1) := by
  rw [npV_nat, mk0]
  refine ⟨fun h => fl1 _ (Nat.mod_lt _ (by decide)) h _ (bw2 _ _ _) _ (bw2 _ _ _) _ (bw2 _ _ _), fun h hc => ?_⟩
  obtain ⟨h1, h2, h3⟩ := nb0 _ hc
  rw [bw0 h1, bw0 h2, bw0 h3, (fl0 _ (Nat.mod_lt _ (by decide)) h).1]
  decide
theorem ok1 (x : Int64) : (plB (x.toBitVec.toNat / 256 % 256) = false → (npV x).toBitVec.toNat / 2 ^ 15 % 2 = 1) ∧ (plB (x.toBitVec.toNat / 256 % 256) = true → ClB x.toBitVec.toNat 1 → ¬ (npV x).toBitVec.toNat / 2 ^ 15 % 2 = 1) := by
  rw [npV_nat, mk1]
  refine ⟨fun h => fl1 _ (Nat.mod_lt _ (by decide)) h _ (bw2 _ _ _) _ (bw2 _ _ _) _ (bw2 _ _ _), fun h hc => ?_⟩
  obtain ⟨h1, h2, h3⟩ := nb1 _ hc
  rw [bw0 h1, bw0 h2, bw0 h3, (fl0 _ (Nat.mod_lt _ (by decide)) h).1]
  decide
theorem ok2 (x : Int64) : (plB (x.toBitVec.toNat / 65536 % 256) = false → (npV x).toBitVec.toNat / 2 ^ 23 % 2 = 1) ∧ (plB (x.toBitVec.toNat / 65536 % 256) = true → ClB x.toBitVec.toNat 2 → ¬ (npV x).toBitVec.toNat / 2 ^ 23 % 2 = 1) := by
  rw [npV_nat, mk2]
  refine ⟨fun h => fl1 _ (Nat.mod_lt _ (by decide)) h _ (bw2 _ _ _) _ (bw2 _ _ _) _ (bw2 _ _ _), fun h hc => ?_⟩
  obtain ⟨h1, h2, h3⟩ := nb2 _ hc
  rw [bw0 h1, bw0 h2, bw0 h3, (fl0 _ (Nat.mod_lt _ (by decide)) h).1]
  decide
theorem ok3 (x : Int64) : (plB (x.toBitVec.toNat / 16777216 % 256) = false → (npV x).toBitVec.toNat / 2 ^ 31 % 2 = 1) ∧ (plB (x.toBitVec.toNat / 16777216 % 256) = true → ClB x.toBitVec.toNat 3 → ¬ (npV x).toBitVec.toNat / 2 ^ 31 % 2 = 1) := by
  rw [npV_nat, mk3]
  refine ⟨fun h => fl1 _ (Nat.mod_lt _ (by decide)) h _ (bw2 _ _ _) _ (bw2 _ _ _) _ (bw2 _ _ _), fun h hc => ?_⟩
  obtain ⟨h1, h2, h3⟩ := nb3 _ hc
  rw [bw0 h1, bw0 h2, bw0 h3, (fl0 _ (Nat.mod_lt _ (by decide)) h).1]
  decide
theorem ok4 (x : Int64) : (plB (x.toBitVec.toNat / 4294967296 % 256) = false → (npV x).toBitVec.toNat / 2 ^ 39 % 2 = 1) ∧ (plB (x.toBitVec.toNat / 4294967296 % 256) = true → ClB x.toBitVec.toNat 4 → ¬ (npV x).toBitVec.toNat / 2 ^ 39 % 2 = 1) := by
  rw [npV_nat, mk4]
  refine ⟨fun h => fl1 _ (Nat.mod_lt _ (by decide)) h _ (bw2 _ _ _) _ (bw2 _ _ _) _ (bw2 _ _ _), fun h hc => ?_⟩
  obtain ⟨h1, h2, h3⟩ := nb4 _ hc
  rw [bw0 h1, bw0 h2, bw0 h3, (fl0 _ (Nat.mod_lt _ (by decide)) h).1]
  decide
theorem ok5 (x : Int64) : (plB (x.toBitVec.toNat / 1099511627776 % 256) = false → (npV x).toBitVec.toNat / 2 ^ 47 % 2 = 1) ∧ (plB (x.toBitVec.toNat / 1099511627776 % 256) = true → ClB x.toBitVec.toNat 5 → ¬ (npV x).toBitVec.toNat / 2 ^ 47 % 2 = 1) := by
  rw [npV_nat, mk5]
  refine ⟨fun h => fl1 _ (Nat.mod_lt _ (by decide)) h _ (bw2 _ _ _) _ (bw2 _ _ _) _ (bw2 _ _ _), fun h hc => ?_⟩
  obtain ⟨h1, h2, h3⟩ := nb5 _ hc
  rw [bw0 h1, bw0 h2, bw0 h3, (fl0 _ (Nat.mod_lt _ (by decide)) h).1]
  decide
theorem ok6 (x : Int64) : (plB (x.toBitVec.toNat / 281474976710656 % 256) = false → (npV x).toBitVec.toNat / 2 ^ 55 % 2 = 1) ∧ (plB (x.toBitVec.toNat / 281474976710656 % 256) = true → ClB x.toBitVec.toNat 6 → ¬ (npV x).toBitVec.toNat / 2 ^ 55 % 2 = 1) := by
  rw [npV_nat, mk6]
  refine ⟨fun h => fl1 _ (Nat.mod_lt _ (by decide)) h _ (bw2 _ _ _) _ (bw2 _ _ _) _ (bw2 _ _ _), fun h hc => ?_⟩
  obtain ⟨h1, h2, h3⟩ := nb6 _ hc
  rw [bw0 h1, bw0 h2, bw0 h3, (fl0 _ (Nat.mod_lt _ (by decide)) h).1]
  decide
theorem ok7 (x : Int64) : (plB (x.toBitVec.toNat / 72057594037927936 % 256) = false → (npV x).toBitVec.toNat / 2 ^ 63 % 2 = 1) ∧ (plB (x.toBitVec.toNat / 72057594037927936 % 256) = true → ClB x.toBitVec.toNat 7 → ¬ (npV x).toBitVec.toNat / 2 ^ 63 % 2 = 1) := by
  rw [npV_nat, mk7]
  refine ⟨fun h => fl1 _ (Nat.mod_lt _ (by decide)) h _ (bw2 _ _ _) _ (bw2 _ _ _) _ (bw2 _ _ _), fun h hc => ?_⟩
  obtain ⟨h1, h2, h3⟩ := nb7 _ hc
  rw [bw0 h1, bw0 h2, bw0 h3, (fl0 _ (Nat.mod_lt _ (by decide)) h).1]
  decide
theorem n_ushr (x : Int64) (u : Int32) (k : Nat) (hk : (u &&& 0x3f).toInt64.toUInt64.toNat % 64 = k) : ((x.toUInt64 >>> (u &&& 0x3f).toInt64.toUInt64).toInt64).toBitVec.toNat = x.toBitVec.toNat / 2 ^ k := by
  have e : ((x.toUInt64 >>> (u &&& 0x3f).toInt64.toUInt64).toInt64).toBitVec.toNat = (x.toUInt64 >>> (u &&& 0x3f).toInt64.toUInt64).toNat := rfl
  rw [e, UInt64.toNat_shiftRight, hk, Nat.shiftRight_eq_div_pow]; rfl
theorem n_mark (r : Int64) (u : Int32) (k : Nat) (hk : (u &&& 0x3f).toInt64.toUInt64.toNat % 64 = k) : ((((r.toUInt64 >>> (u &&& 0x3f).toInt64.toUInt64).toInt64) &&& (1 : Int64)) = (0 : Int64)) ↔ ¬ r.toBitVec.toNat / 2 ^ k % 2 = 1 := by
  rw [← Int64.toBitVec_inj, ← BitVec.toNat_inj, Int64.toBitVec_and, BitVec.toNat_and, n_ushr r u k hk, show (1 : Int64).toBitVec.toNat = 1 from rfl, show (0 : Int64).toBitVec.toNat = 0 from rfl, Nat.and_one_is_mod]
  omega
theorem n_byte (x : Int64) (u : Int32) (k : Nat) (hk : (u &&& 0x3f).toInt64.toUInt64.toNat % 64 = k) : ((((x.toUInt64 >>> (u &&& 0x3f).toInt64.toUInt64).toInt64) &&& (255 : Int64)).toInt32).toInt = ((x.toBitVec.toNat / 2 ^ k % 256 : Nat) : Int) := by
  have h1 : ((((x.toUInt64 >>> (u &&& 0x3f).toInt64.toUInt64).toInt64) &&& (255 : Int64))).toBitVec.toNat = x.toBitVec.toNat / 2 ^ k % 256 := by
    rw [Int64.toBitVec_and, BitVec.toNat_and, n_ushr x u k hk, show (255 : Int64).toBitVec.toNat = 2 ^ 8 - 1 from rfl, Nat.and_two_pow_sub_one_eq_mod]
  generalize ((((x.toUInt64 >>> (u &&& 0x3f).toInt64.toUInt64).toInt64) &&& (255 : Int64))) = y at h1 ⊢
  have h2 := c_l2i y; have h3 := rng32 y.toInt32
  have h4 : y.toInt = y.toBitVec.toInt := rfl
  rw [BitVec.toInt_eq_toNat_cond, h1] at h4
  have := Nat.mod_lt (x.toBitVec.toNat / 2 ^ k) (show 256 > 0 by decide)
  split at h4 <;> omega
theorem np_high (x : Int64) : (npV x &&& ((-9187201950435737472 : Int64) ^^^ (-1 : Int64))) = 0 := by
  unfold npV
  generalize (((x - (2314885530818453536 : Int64)) ||| ((x ^^^ (2459565876494606882 : Int64)) - (72340172838076673 : Int64))) ||| ((x ^^^ (6655295901103053916 : Int64)) - (72340172838076673 : Int64))) = y
  rw [Int64.and_assoc, show ((-9187201950435737472 : Int64) &&& ((-9187201950435737472 : Int64) ^^^ (-1 : Int64))) = 0 from by decide]
  exact Int64.and_zero
def bO (x : Int64) (i : Int32) : Int32 := ((((x.toUInt64 >>> (((8 : Int32) * i) &&& 0x3f).toInt64.toUInt64).toInt64) &&& (255 : Int64)).toInt32)
def pV (b : Int32) : Int32 := if b < 32 then 0 else if b < 128 then (if b = 34 then 0 else if b = 92 then 0 else 1) else 0
def mT (r : Int64) (i : Int32) : Int64 := (((r.toUInt64 >>> ((((8 : Int32) * i) + (7 : Int32)) &&& 0x3f).toInt64.toUInt64).toInt64) &&& (1 : Int64))
def okV (x r : Int64) (i k : Int32) : Int32 := if pV (bO x i) = 0 then (if mT r i = 0 then 0 else 1) else if k = 0 then 1 else if mT r i = 0 then 1 else 0
def InvB (x : Int64) (i : Nat) (k : Int32) : Prop := k = 0 ∨ (k = 1 ∧ ClB x.toBitVec.toNat i)
theorem pV_iff (b : Int32) (n : Nat) (h : b.toInt = n) : pV b = if plB n = true then 1 else 0 := by
  have k1 : b < 32 ↔ n < 32 := by rw [Int32.lt_iff_toInt_lt, h, show (32 : Int32).toInt = 32 from by decide]; omega
  have k2 : b < 128 ↔ n < 128 := by rw [Int32.lt_iff_toInt_lt, h, show (128 : Int32).toInt = 128 from by decide]; omega
  have k3 : b = 34 ↔ n = 34 := by rw [← Int32.toInt_inj, h, show (34 : Int32).toInt = 34 from by decide]; omega
  have k4 : b = 92 ↔ n = 92 := by rw [← Int32.toInt_inj, h, show (92 : Int32).toInt = 92 from by decide]; omega
  simp only [pV, k1, k2, k3, k4, plB, Bool.and_eq_true, decide_eq_true_iff, bne_iff_ne, ne_eq]
  by_cases a1 : n < 32
  · rw [if_pos a1, if_neg (by omega)]
  · rw [if_neg a1]
    by_cases a2 : n < 128
    · rw [if_pos a2]
      by_cases a3 : n = 34
      · rw [if_pos a3, if_neg (by omega)]
      · rw [if_neg a3]
        by_cases a4 : n = 92
        · rw [if_pos a4, if_neg (by omega)]
        · rw [if_neg a4, if_pos (by omega)]
    · rw [if_neg a2, if_neg (by omega)]
theorem okV_ne (x r : Int64) (i k : Int32) (n : Nat) (M : Prop) (hb : (bO x i).toInt = n) (hm : mT r i = 0 ↔ ¬ M) (h1 : plB n = false → M) (h2 : plB n = true → k ≠ 0 → ¬ M) : ¬ okV x r i k = 0 := by
  rw [okV, pV_iff _ n hb]
  cases hp : plB n
  · rw [if_neg (show ¬ false = true by simp), if_pos rfl, if_neg (fun q => hm.mp q (h1 hp))]; decide
  · rw [if_pos (show true = true from rfl), if_neg (show ¬ (1 : Int32) = 0 by decide)]
    by_cases hk : k = 0
    · rw [if_pos hk]; decide
    · rw [if_neg hk, if_pos (hm.mpr (h2 hp hk))]; decide
theorem inv_next (x : Int64) (j : Nat) (i k : Int32) (h : InvB x j k) (hk : ¬ k = 0) (hp : ¬ pV (bO x i) = 0) (hb : (bO x i).toInt = ((x.toBitVec.toNat / 256 ^ j % 256 : Nat) : Int)) : InvB x (j + 1) 1 := by
  rcases h with h | ⟨-, h⟩
  · exact absurd h hk
  · refine Or.inr ⟨rfl, h, ?_⟩
    rw [pV_iff _ _ hb] at hp
    cases hq : plB (x.toBitVec.toNat / 256 ^ j % 256)
    · rw [hq] at hp; exact absurd rfl hp
    · rfl
theorem by0 (x : Int64) : (bO x (0 : Int32)).toInt = ((x.toBitVec.toNat / 256 ^ 0 % 256 : Nat) : Int) := n_byte x _ 0 (by decide)
theorem okn0 (x r : Int64) (hr : npV x = r) (k : Int32) (h : InvB x 0 k) : ¬ okV x r (0 : Int32) k = 0 := by
  subst hr
  refine okV_ne x _ _ k _ _ (by0 x) (n_mark _ _ 7 (by decide)) (ok0 x).1 (fun hp hk => (ok0 x).2 hp ?_)
  rcases h with h | ⟨-, h⟩
  · exact absurd h hk
  · exact h
theorem by1 (x : Int64) : (bO x (1 : Int32)).toInt = ((x.toBitVec.toNat / 256 ^ 1 % 256 : Nat) : Int) := n_byte x _ 8 (by decide)
theorem okn1 (x r : Int64) (hr : npV x = r) (k : Int32) (h : InvB x 1 k) : ¬ okV x r (1 : Int32) k = 0 := by
  subst hr
  refine okV_ne x _ _ k _ _ (by1 x) (n_mark _ _ 15 (by decide)) (ok1 x).1 (fun hp hk => (ok1 x).2 hp ?_)
  rcases h with h | ⟨-, h⟩
  · exact absurd h hk
  · exact h
theorem by2 (x : Int64) : (bO x (2 : Int32)).toInt = ((x.toBitVec.toNat / 256 ^ 2 % 256 : Nat) : Int) := n_byte x _ 16 (by decide)
theorem okn2 (x r : Int64) (hr : npV x = r) (k : Int32) (h : InvB x 2 k) : ¬ okV x r (2 : Int32) k = 0 := by
  subst hr
  refine okV_ne x _ _ k _ _ (by2 x) (n_mark _ _ 23 (by decide)) (ok2 x).1 (fun hp hk => (ok2 x).2 hp ?_)
  rcases h with h | ⟨-, h⟩
  · exact absurd h hk
  · exact h
theorem by3 (x : Int64) : (bO x (3 : Int32)).toInt = ((x.toBitVec.toNat / 256 ^ 3 % 256 : Nat) : Int) := n_byte x _ 24 (by decide)
theorem okn3 (x r : Int64) (hr : npV x = r) (k : Int32) (h : InvB x 3 k) : ¬ okV x r (3 : Int32) k = 0 := by
  subst hr
  refine okV_ne x _ _ k _ _ (by3 x) (n_mark _ _ 31 (by decide)) (ok3 x).1 (fun hp hk => (ok3 x).2 hp ?_)
  rcases h with h | ⟨-, h⟩
  · exact absurd h hk
  · exact h
theorem by4 (x : Int64) : (bO x (4 : Int32)).toInt = ((x.toBitVec.toNat / 256 ^ 4 % 256 : Nat) : Int) := n_byte x _ 32 (by decide)
theorem okn4 (x r : Int64) (hr : npV x = r) (k : Int32) (h : InvB x 4 k) : ¬ okV x r (4 : Int32) k = 0 := by
  subst hr
  refine okV_ne x _ _ k _ _ (by4 x) (n_mark _ _ 39 (by decide)) (ok4 x).1 (fun hp hk => (ok4 x).2 hp ?_)
  rcases h with h | ⟨-, h⟩
  · exact absurd h hk
  · exact h
theorem by5 (x : Int64) : (bO x (5 : Int32)).toInt = ((x.toBitVec.toNat / 256 ^ 5 % 256 : Nat) : Int) := n_byte x _ 40 (by decide)
theorem okn5 (x r : Int64) (hr : npV x = r) (k : Int32) (h : InvB x 5 k) : ¬ okV x r (5 : Int32) k = 0 := by
  subst hr
  refine okV_ne x _ _ k _ _ (by5 x) (n_mark _ _ 47 (by decide)) (ok5 x).1 (fun hp hk => (ok5 x).2 hp ?_)
  rcases h with h | ⟨-, h⟩
  · exact absurd h hk
  · exact h
theorem by6 (x : Int64) : (bO x (6 : Int32)).toInt = ((x.toBitVec.toNat / 256 ^ 6 % 256 : Nat) : Int) := n_byte x _ 48 (by decide)
theorem okn6 (x r : Int64) (hr : npV x = r) (k : Int32) (h : InvB x 6 k) : ¬ okV x r (6 : Int32) k = 0 := by
  subst hr
  refine okV_ne x _ _ k _ _ (by6 x) (n_mark _ _ 55 (by decide)) (ok6 x).1 (fun hp hk => (ok6 x).2 hp ?_)
  rcases h with h | ⟨-, h⟩
  · exact absurd h hk
  · exact h
theorem by7 (x : Int64) : (bO x (7 : Int32)).toInt = ((x.toBitVec.toNat / 256 ^ 7 % 256 : Nat) : Int) := n_byte x _ 56 (by decide)
theorem okn7 (x r : Int64) (hr : npV x = r) (k : Int32) (h : InvB x 7 k) : ¬ okV x r (7 : Int32) k = 0 := by
  subst hr
  refine okV_ne x _ _ k _ _ (by7 x) (n_mark _ _ 63 (by decide)) (ok7 x).1 (fun hp hk => (ok7 x).2 hp ?_)
  rcases h with h | ⟨-, h⟩
  · exact absurd h hk
  · exact h
theorem ef_c_bo (m : MethodId) (x0 : Int64) (x1 : Int32) : entryFrame m #[(.long x0), (.int x1)] 3 = mkF m 0 #[.val (.long x0), .second, .val (.int x1)] [] := by first | (simp [entryFrame, mkF, argsToLocals, Value.category]; done) | rfl
set_option maxRecDepth 65536 in
set_option maxHeartbeats 40000000 in
theorem c_bo (l : Launch) (Z : State) (a0 : Array Value) (hw : ∀ d ∈ tables_1, d.before a0 Z = true) (x : Int64) (i : Int32) (h0 : Heap)  :
    Con l Z (⟨"com/example/austere_log/austerelog/http/ObjectBodyNotPlainPinLaw", "byteOf", "(JI)I"⟩ : MethodName) method_3_code 3 (some .int) ({ frames := 0, cells := 0, slots := 0, locals := 0 } : Room) #[(.long x), (.int i)] h0 (PQ (some (.int (bO x i))) h0) := by
  refine Con.intro (plainFor_of_name pn_0) ?_
  intro p e s m below meth c s₁ hx hby hml hrt hlk hZ hown hnm X0 e0
  replace hown : s.vm.findClass "com/example/austere_log/austerelog/http/ObjectBodyNotPlainPinLaw" = some m.cls := hown
  refine GoOn.cast (ef_c_bo m x i) ?_
  show GoOn p e below _ (s₁.setTop (mkF m 0 #[.val (.long x), .second, .val (.int i)] []))
  refine GoOn.step (fun t₀ k₀ => XS.lloadN X0.here hx rfl (hb hby d2_0) rfl k₀) ?_
  show GoOn p e below _ (s₁.setTop (mkF m 1 #[.val (.long x), .second, .val (.int i)] [(.long x)]))
  refine GoOn.step (fun t₀ k₀ => XS.bipush X0.here hx rfl (hb hby d2_1) k₀) ?_
  show GoOn p e below _ (s₁.setTop (mkF m 3 #[.val (.long x), .second, .val (.int i)] [(.int (8 : Int32)), (.long x)]))
  refine GoOn.step (fun t₀ k₀ => XS.iloadN X0.here hx rfl (hb hby d2_3) rfl k₀) ?_
  show GoOn p e below _ (s₁.setTop (mkF m 4 #[.val (.long x), .second, .val (.int i)] [(.int i), (.int (8 : Int32)), (.long x)]))
  refine GoOn.step (fun t₀ k₀ => XS.imul X0.here hx rfl (hb hby d2_4) rfl k₀) ?_
  show GoOn p e below _ (s₁.setTop (mkF m 5 #[.val (.long x), .second, .val (.int i)] [(.int ((8 : Int32) * i)), (.long x)]))
  refine GoOn.step (fun t₀ k₀ => XS.lushr X0.here hx rfl (hb hby d2_5) rfl k₀) ?_
  show GoOn p e below _ (s₁.setTop (mkF m 6 #[.val (.long x), .second, .val (.int i)] [(.long ((x.toUInt64 >>> (((8 : Int32) * i) &&& 0x3f).toInt64.toUInt64).toInt64))]))
  refine GoOn.step (fun t₀ k₀ => X0.ldc2Long hx hown (mvT hZ (hw _ (List.mem_of_getElem? (i := 8) rfl))) (g := (mkF m 6 #[.val (.long x), .second, .val (.int i)] [(.long ((x.toUInt64 >>> (((8 : Int32) * i) &&& 0x3f).toInt64.toUInt64).toInt64))])) rfl (hb hby d2_6) t₀ k₀) ?_
  show GoOn p e below _ (s₁.setTop (mkF m 9 #[.val (.long x), .second, .val (.int i)] [(.long (255 : Int64)), (.long ((x.toUInt64 >>> (((8 : Int32) * i) &&& 0x3f).toInt64.toUInt64).toInt64))]))
  refine GoOn.step (fun t₀ k₀ => XS.land X0.here hx rfl (hb hby d2_9) rfl k₀) ?_
  show GoOn p e below _ (s₁.setTop (mkF m 10 #[.val (.long x), .second, .val (.int i)] [(.long (((x.toUInt64 >>> (((8 : Int32) * i) &&& 0x3f).toInt64.toUInt64).toInt64) &&& (255 : Int64)))]))
  refine GoOn.step (fun t₀ k₀ => XS.l2i X0.here hx rfl (hb hby d2_10) rfl k₀) ?_
  show GoOn p e below _ (s₁.setTop (mkF m 11 #[.val (.long x), .second, .val (.int i)] [(.int ((((x.toUInt64 >>> (((8 : Int32) * i) &&& 0x3f).toInt64.toUInt64).toInt64) &&& (255 : Int64)).toInt32))]))
  exact GoOn.retI X0 hx hrt hlk (hb hby d2_11) (by decide) (by decide) (by first | exact ⟨rfl, rfl, rfl⟩ | (rw [e0]; exact ⟨rfl, rfl, rfl⟩))
theorem ef_c_pl (m : MethodId) (x0 : Int32) : entryFrame m #[(.int x0)] 1 = mkF m 0 #[.val (.int x0)] [] := by first | (simp [entryFrame, mkF, argsToLocals, Value.category]; done) | rfl
set_option maxRecDepth 65536 in
set_option maxHeartbeats 40000000 in
theorem c_pl (l : Launch) (Z : State) (a0 : Array Value) (hw : ∀ d ∈ tables_1, d.before a0 Z = true) (b : Int32) (h0 : Heap)  :
    Con l Z (⟨"com/example/austere_log/austerelog/http/ObjectBodyNotPlainPinLaw", "plain", "(I)Z"⟩ : MethodName) method_4_code 1 (some .boolean) ({ frames := 0, cells := 0, slots := 0, locals := 0 } : Room) #[(.int b)] h0 (PQ (some (.int (pV b))) h0) := by
  refine Con.intro (plainFor_of_name pn_0) ?_
  intro p e s m below meth c s₁ hx hby hml hrt hlk hZ hown hnm X0 e0
  replace hown : s.vm.findClass "com/example/austere_log/austerelog/http/ObjectBodyNotPlainPinLaw" = some m.cls := hown
  refine GoOn.cast (ef_c_pl m b) ?_
  show GoOn p e below _ (s₁.setTop (mkF m 0 #[.val (.int b)] []))
  refine GoOn.step (fun t₀ k₀ => XS.iloadN X0.here hx rfl (hb hby d5_0) rfl k₀) ?_
  show GoOn p e below _ (s₁.setTop (mkF m 1 #[.val (.int b)] [(.int b)]))
  refine GoOn.step (fun t₀ k₀ => XS.bipush X0.here hx rfl (hb hby d5_1) k₀) ?_
  show GoOn p e below _ (s₁.setTop (mkF m 3 #[.val (.int b)] [(.int (32 : Int32)), (.int b)]))
  by_cases c0 : b < (32 : Int32)
  · refine GoOn.step (fun t₀ k₀ => XS.icmpYes X0.here hx rfl (pc0 := 3) (pc' := 29) rfl (hb hby d5_3) rfl (tlt c0).1 (by decide) (by decide) k₀) ?_
    show GoOn p e below _ (s₁.setTop (mkF m 29 #[.val (.int b)] []))
    refine GoOn.step (fun t₀ k₀ => XS.iconst X0.here hx rfl (hb hby d5_29) k₀) ?_
    show GoOn p e below _ (s₁.setTop (mkF m 30 #[.val (.int b)] [(.int (0 : Int32))]))
    exact GoOn.retN X0 hx hrt hlk (by simp) (hb hby d5_30) (by decide) (by decide) (by first | exact ⟨by rw [pV, if_pos c0]; rfl, rfl, rfl⟩ | (rw [e0]; exact ⟨by rw [pV, if_pos c0]; rfl, rfl, rfl⟩))
  · refine GoOn.step (fun t₀ k₀ => XS.icmpNo X0.here hx rfl (hb hby d5_3) rfl (flt c0).1 k₀) ?_
    show GoOn p e below _ (s₁.setTop (mkF m 6 #[.val (.int b)] []))
    refine GoOn.step (fun t₀ k₀ => XS.iloadN X0.here hx rfl (hb hby d5_6) rfl k₀) ?_
    show GoOn p e below _ (s₁.setTop (mkF m 7 #[.val (.int b)] [(.int b)]))
    refine GoOn.step (fun t₀ k₀ => XS.sipush X0.here hx rfl (hb hby d5_7) k₀) ?_
    show GoOn p e below _ (s₁.setTop (mkF m 10 #[.val (.int b)] [(.int (128 : Int32)), (.int b)]))
    by_cases c1 : b < (128 : Int32)
    · refine GoOn.step (fun t₀ k₀ => XS.icmpNo X0.here hx rfl (hb hby d5_10) rfl (tlt c1).2.1 k₀) ?_
      show GoOn p e below _ (s₁.setTop (mkF m 13 #[.val (.int b)] []))
      refine GoOn.step (fun t₀ k₀ => XS.iloadN X0.here hx rfl (hb hby d5_13) rfl k₀) ?_
      show GoOn p e below _ (s₁.setTop (mkF m 14 #[.val (.int b)] [(.int b)]))
      refine GoOn.step (fun t₀ k₀ => XS.bipush X0.here hx rfl (hb hby d5_14) k₀) ?_
      show GoOn p e below _ (s₁.setTop (mkF m 16 #[.val (.int b)] [(.int (34 : Int32)), (.int b)]))
      by_cases c2 : b = (34 : Int32)
      · refine GoOn.step (fun t₀ k₀ => XS.icmpYes X0.here hx rfl (pc0 := 16) (pc' := 29) rfl (hb hby d5_16) rfl (teq c2).1 (by decide) (by decide) k₀) ?_
        show GoOn p e below _ (s₁.setTop (mkF m 29 #[.val (.int b)] []))
        refine GoOn.step (fun t₀ k₀ => XS.iconst X0.here hx rfl (hb hby d5_29) k₀) ?_
        show GoOn p e below _ (s₁.setTop (mkF m 30 #[.val (.int b)] [(.int (0 : Int32))]))
        exact GoOn.retN X0 hx hrt hlk (by simp) (hb hby d5_30) (by decide) (by decide) (by first | exact ⟨by rw [pV, if_neg c0, if_pos c1, if_pos c2]; rfl, rfl, rfl⟩ | (rw [e0]; exact ⟨by rw [pV, if_neg c0, if_pos c1, if_pos c2]; rfl, rfl, rfl⟩))
      · refine GoOn.step (fun t₀ k₀ => XS.icmpNo X0.here hx rfl (hb hby d5_16) rfl (feq c2).1 k₀) ?_
        show GoOn p e below _ (s₁.setTop (mkF m 19 #[.val (.int b)] []))
        refine GoOn.step (fun t₀ k₀ => XS.iloadN X0.here hx rfl (hb hby d5_19) rfl k₀) ?_
        show GoOn p e below _ (s₁.setTop (mkF m 20 #[.val (.int b)] [(.int b)]))
        refine GoOn.step (fun t₀ k₀ => XS.bipush X0.here hx rfl (hb hby d5_20) k₀) ?_
        show GoOn p e below _ (s₁.setTop (mkF m 22 #[.val (.int b)] [(.int (92 : Int32)), (.int b)]))
        by_cases c3 : b = (92 : Int32)
        · refine GoOn.step (fun t₀ k₀ => XS.icmpYes X0.here hx rfl (pc0 := 22) (pc' := 29) rfl (hb hby d5_22) rfl (teq c3).1 (by decide) (by decide) k₀) ?_
          show GoOn p e below _ (s₁.setTop (mkF m 29 #[.val (.int b)] []))
          refine GoOn.step (fun t₀ k₀ => XS.iconst X0.here hx rfl (hb hby d5_29) k₀) ?_
          show GoOn p e below _ (s₁.setTop (mkF m 30 #[.val (.int b)] [(.int (0 : Int32))]))
          exact GoOn.retN X0 hx hrt hlk (by simp) (hb hby d5_30) (by decide) (by decide) (by first | exact ⟨by rw [pV, if_neg c0, if_pos c1, if_neg c2, if_pos c3]; rfl, rfl, rfl⟩ | (rw [e0]; exact ⟨by rw [pV, if_neg c0, if_pos c1, if_neg c2, if_pos c3]; rfl, rfl, rfl⟩))
        · refine GoOn.step (fun t₀ k₀ => XS.icmpNo X0.here hx rfl (hb hby d5_22) rfl (feq c3).1 k₀) ?_
          show GoOn p e below _ (s₁.setTop (mkF m 25 #[.val (.int b)] []))
          refine GoOn.step (fun t₀ k₀ => XS.iconst X0.here hx rfl (hb hby d5_25) k₀) ?_
          show GoOn p e below _ (s₁.setTop (mkF m 26 #[.val (.int b)] [(.int (1 : Int32))]))
          refine GoOn.step (fun t₀ k₀ => XS.goto X0.here hx rfl (pc0 := 26) (pc' := 30) rfl (hb hby d5_26) (by decide) (by decide) k₀) ?_
          show GoOn p e below _ (s₁.setTop (mkF m 30 #[.val (.int b)] [(.int (1 : Int32))]))
          exact GoOn.retN X0 hx hrt hlk (by simp) (hb hby d5_30) (by decide) (by decide) (by first | exact ⟨by rw [pV, if_neg c0, if_pos c1, if_neg c2, if_neg c3]; rfl, rfl, rfl⟩ | (rw [e0]; exact ⟨by rw [pV, if_neg c0, if_pos c1, if_neg c2, if_neg c3]; rfl, rfl, rfl⟩))
    · refine GoOn.step (fun t₀ k₀ => XS.icmpYes X0.here hx rfl (pc0 := 10) (pc' := 29) rfl (hb hby d5_10) rfl (flt c1).2.1 (by decide) (by decide) k₀) ?_
      show GoOn p e below _ (s₁.setTop (mkF m 29 #[.val (.int b)] []))
      refine GoOn.step (fun t₀ k₀ => XS.iconst X0.here hx rfl (hb hby d5_29) k₀) ?_
      show GoOn p e below _ (s₁.setTop (mkF m 30 #[.val (.int b)] [(.int (0 : Int32))]))
      exact GoOn.retN X0 hx hrt hlk (by simp) (hb hby d5_30) (by decide) (by decide) (by first | exact ⟨by rw [pV, if_neg c0, if_neg c1]; rfl, rfl, rfl⟩ | (rw [e0]; exact ⟨by rw [pV, if_neg c0, if_neg c1]; rfl, rfl, rfl⟩))
def ExJ (h0 : Heap) : Option Value → Heap → List Loc → Prop := fun v h L => ∃ z : Int64, v = some (.long z) ∧ L = [] ∧ h = h0
theorem ef_c_pa (m : MethodId) (x0 : Int64) (x1 : Int32) : entryFrame m #[(.long x0), (.int x1)] 5 = mkF m 0 #[.val (.long x0), .second, .val (.int x1), .unset, .unset] [] := by first | (simp [entryFrame, mkF, argsToLocals, Value.category]; done) | rfl
set_option maxRecDepth 65536 in
set_option maxHeartbeats 40000000 in
theorem c_pa (l : Launch) (Z : State) (a0 : Array Value) (hw : ∀ d ∈ tables_1, d.before a0 Z = true) (x : Int64) (i : Int32) (h0 : Heap)  :
    Con l Z (⟨"com/example/austere_log/austerelog/http/ObjectBodyNotPlainPinLaw", "plainAt", "(JI)J"⟩ : MethodName) method_5_code 5 (some .long) ({ frames := 1, cells := 0, slots := 0, locals := 16 } : Room) #[(.long x), (.int i)] h0 (ExJ h0) := by
  refine Con.intro (plainFor_of_name pn_0) ?_
  intro p e s m below meth c s₁ hx hby hml hrt hlk hZ hown hnm X0 e0
  replace hown : s.vm.findClass "com/example/austere_log/austerelog/http/ObjectBodyNotPlainPinLaw" = some m.cls := hown
  refine GoOn.cast (ef_c_pa m x i) ?_
  show GoOn p e below _ (s₁.setTop (mkF m 0 #[.val (.long x), .second, .val (.int i), .unset, .unset] []))
  refine GoOn.step (fun t₀ k₀ => XS.lloadN X0.here hx rfl (hb hby d1_0) rfl k₀) ?_
  show GoOn p e below _ (s₁.setTop (mkF m 1 #[.val (.long x), .second, .val (.int i), .unset, .unset] [(.long x)]))
  refine GoOn.step (fun t₀ k₀ => XS.iloadN X0.here hx rfl (hb hby d1_1) rfl k₀) ?_
  show GoOn p e below _ (s₁.setTop (mkF m 2 #[.val (.long x), .second, .val (.int i), .unset, .unset] [(.int i), (.long x)]))
  obtain ⟨_, T1, L1, X1, hQ1, st1⟩ := kCallS X0 hx hZ (argsL := [(.long x), (.int i)]) (rest := []) (c_bo l Z a0 hw x i h0) hown (hw _ (List.mem_of_getElem? (i := 5) rfl)) (hw _ (List.mem_of_getElem? (i := 6) rfl)) (hw _ (List.mem_of_getElem? (i := 3) rfl)) (hw _ (List.mem_of_getElem? (i := 7) rfl)) (by decide) e0 (g := (mkF m 2 #[.val (.long x), .second, .val (.int i), .unset, .unset] [(.int i), (.long x)])) rfl (by rw [hml]; rfl) (lenOf pd_0 rfl) rfl (W := 0) (by show 2 * 0 + _ ≤ _; exact Nat.le_of_eq rfl) (hb hby d1_2) (by decide) (by decide) (by decide) (by decide)
  obtain ⟨rfl, rfl, e1⟩ := hQ1
  rw [List.append_nil] at X1
  refine GoOn.step st1 ?_
  show GoOn p e below _ (T1.setTop (mkF m 5 #[.val (.long x), .second, .val (.int i), .unset, .unset] [(.int (bO x i))]))
  generalize hbb : (bO x i) = bb
  have hbbI := congrArg Int32.toInt hbb
  refine GoOn.step (fun t₀ k₀ => XS.istoreN X1.here hx rfl (hb hby d1_5) rfl (l' := #[.val (.long x), .second, .val (.int i), .val (.int bb), .unset]) rfl k₀) ?_
  show GoOn p e below _ (T1.setTop (mkF m 6 #[.val (.long x), .second, .val (.int i), .val (.int bb), .unset] []))
  refine GoOn.step (fun t₀ k₀ => XS.bipush X1.here hx rfl (hb hby d1_6) k₀) ?_
  show GoOn p e below _ (T1.setTop (mkF m 8 #[.val (.long x), .second, .val (.int i), .val (.int bb), .unset] [(.int (32 : Int32))]))
  refine GoOn.step (fun t₀ k₀ => XS.iloadN X1.here hx rfl (hb hby d1_8) rfl k₀) ?_
  show GoOn p e below _ (T1.setTop (mkF m 9 #[.val (.long x), .second, .val (.int i), .val (.int bb), .unset] [(.int bb), (.int (32 : Int32))]))
  refine GoOn.step (fun t₀ k₀ => XS.bipush X1.here hx rfl (hb hby d1_9) k₀) ?_
  show GoOn p e below _ (T1.setTop (mkF m 11 #[.val (.long x), .second, .val (.int i), .val (.int bb), .unset] [(.int (96 : Int32)), (.int bb), (.int (32 : Int32))]))
  refine GoOn.step (fun t₀ k₀ => iremM X1 hx rfl (hb hby d1_11) rfl (by decide) k₀) ?_
  show GoOn p e below _ (T1.setTop (mkF m 12 #[.val (.long x), .second, .val (.int i), .val (.int bb), .unset] [(.int (bb % (96 : Int32))), (.int (32 : Int32))]))
  refine GoOn.step (fun t₀ k₀ => XS.iadd X1.here hx rfl (hb hby d1_12) rfl k₀) ?_
  show GoOn p e below _ (T1.setTop (mkF m 13 #[.val (.long x), .second, .val (.int i), .val (.int bb), .unset] [(.int ((32 : Int32) + (bb % (96 : Int32))))]))
  generalize hqq : ((32 : Int32) + (bb % (96 : Int32))) = qq
  have hqqI := congrArg Int32.toInt hqq
  refine GoOn.step (fun t₀ k₀ => XS.istore X1.here hx rfl (hb hby d1_13) rfl (l' := #[.val (.long x), .second, .val (.int i), .val (.int bb), .val (.int qq)]) rfl k₀) ?_
  show GoOn p e below _ (T1.setTop (mkF m 15 #[.val (.long x), .second, .val (.int i), .val (.int bb), .val (.int qq)] []))
  refine GoOn.step (fun t₀ k₀ => XS.iload X1.here hx rfl (hb hby d1_15) rfl k₀) ?_
  show GoOn p e below _ (T1.setTop (mkF m 17 #[.val (.long x), .second, .val (.int i), .val (.int bb), .val (.int qq)] [(.int qq)]))
  refine GoOn.step (fun t₀ k₀ => XS.bipush X1.here hx rfl (hb hby d1_17) k₀) ?_
  show GoOn p e below _ (T1.setTop (mkF m 19 #[.val (.long x), .second, .val (.int i), .val (.int bb), .val (.int qq)] [(.int (34 : Int32)), (.int qq)]))
  by_cases c0 : qq = (34 : Int32)
  · refine GoOn.step (fun t₀ k₀ => XS.icmpYes X1.here hx rfl (pc0 := 19) (pc' := 29) rfl (hb hby d1_19) rfl (teq c0).1 (by decide) (by decide) k₀) ?_
    show GoOn p e below _ (T1.setTop (mkF m 29 #[.val (.long x), .second, .val (.int i), .val (.int bb), .val (.int qq)] []))
    refine GoOn.step (fun t₀ k₀ => XS.iload X1.here hx rfl (hb hby d1_29) rfl k₀) ?_
    show GoOn p e below _ (T1.setTop (mkF m 31 #[.val (.long x), .second, .val (.int i), .val (.int bb), .val (.int qq)] [(.int qq)]))
    refine GoOn.step (fun t₀ k₀ => XS.iconst X1.here hx rfl (hb hby d1_31) k₀) ?_
    show GoOn p e below _ (T1.setTop (mkF m 32 #[.val (.long x), .second, .val (.int i), .val (.int bb), .val (.int qq)] [(.int (1 : Int32)), (.int qq)]))
    refine GoOn.step (fun t₀ k₀ => XS.iadd X1.here hx rfl (hb hby d1_32) rfl k₀) ?_
    show GoOn p e below _ (T1.setTop (mkF m 33 #[.val (.long x), .second, .val (.int i), .val (.int bb), .val (.int qq)] [(.int (qq + (1 : Int32)))]))
    refine GoOn.step (fun t₀ k₀ => XS.istore X1.here hx rfl (hb hby d1_33) rfl (l' := #[.val (.long x), .second, .val (.int i), .val (.int bb), .val (.int (qq + (1 : Int32)))]) rfl k₀) ?_
    show GoOn p e below _ (T1.setTop (mkF m 35 #[.val (.long x), .second, .val (.int i), .val (.int bb), .val (.int (qq + (1 : Int32)))] []))
    refine GoOn.step (fun t₀ k₀ => XS.iload X1.here hx rfl (hb hby d1_35) rfl k₀) ?_
    show GoOn p e below _ (T1.setTop (mkF m 37 #[.val (.long x), .second, .val (.int i), .val (.int bb), .val (.int (qq + (1 : Int32)))] [(.int (qq + (1 : Int32)))]))
    refine GoOn.step (fun t₀ k₀ => XS.i2l X1.here hx rfl (hb hby d1_37) rfl k₀) ?_
    show GoOn p e below _ (T1.setTop (mkF m 38 #[.val (.long x), .second, .val (.int i), .val (.int bb), .val (.int (qq + (1 : Int32)))] [(.long ((qq + (1 : Int32)).toInt64))]))
    refine GoOn.step (fun t₀ k₀ => XS.bipush X1.here hx rfl (hb hby d1_38) k₀) ?_
    show GoOn p e below _ (T1.setTop (mkF m 40 #[.val (.long x), .second, .val (.int i), .val (.int bb), .val (.int (qq + (1 : Int32)))] [(.int (8 : Int32)), (.long ((qq + (1 : Int32)).toInt64))]))
    refine GoOn.step (fun t₀ k₀ => XS.iloadN X1.here hx rfl (hb hby d1_40) rfl k₀) ?_
    show GoOn p e below _ (T1.setTop (mkF m 41 #[.val (.long x), .second, .val (.int i), .val (.int bb), .val (.int (qq + (1 : Int32)))] [(.int i), (.int (8 : Int32)), (.long ((qq + (1 : Int32)).toInt64))]))
    refine GoOn.step (fun t₀ k₀ => XS.imul X1.here hx rfl (hb hby d1_41) rfl k₀) ?_
    show GoOn p e below _ (T1.setTop (mkF m 42 #[.val (.long x), .second, .val (.int i), .val (.int bb), .val (.int (qq + (1 : Int32)))] [(.int ((8 : Int32) * i)), (.long ((qq + (1 : Int32)).toInt64))]))
    refine GoOn.step (fun t₀ k₀ => XS.lshl X1.here hx rfl (hb hby d1_42) rfl k₀) ?_
    show GoOn p e below _ (T1.setTop (mkF m 43 #[.val (.long x), .second, .val (.int i), .val (.int bb), .val (.int (qq + (1 : Int32)))] [(.long (((qq + (1 : Int32)).toInt64) <<< (((8 : Int32) * i) &&& 0x3f).toInt64))]))
    exact GoOn.retJ X1 hx hrt hlk (hb hby d1_43) (by decide) (by decide) (by first | exact ⟨_, rfl, rfl, rfl⟩ | (rw [e1]; exact ⟨_, rfl, rfl, rfl⟩))
  · refine GoOn.step (fun t₀ k₀ => XS.icmpNo X1.here hx rfl (hb hby d1_19) rfl (feq c0).1 k₀) ?_
    show GoOn p e below _ (T1.setTop (mkF m 22 #[.val (.long x), .second, .val (.int i), .val (.int bb), .val (.int qq)] []))
    refine GoOn.step (fun t₀ k₀ => XS.iload X1.here hx rfl (hb hby d1_22) rfl k₀) ?_
    show GoOn p e below _ (T1.setTop (mkF m 24 #[.val (.long x), .second, .val (.int i), .val (.int bb), .val (.int qq)] [(.int qq)]))
    refine GoOn.step (fun t₀ k₀ => XS.bipush X1.here hx rfl (hb hby d1_24) k₀) ?_
    show GoOn p e below _ (T1.setTop (mkF m 26 #[.val (.long x), .second, .val (.int i), .val (.int bb), .val (.int qq)] [(.int (92 : Int32)), (.int qq)]))
    by_cases c1 : qq = (92 : Int32)
    · refine GoOn.step (fun t₀ k₀ => XS.icmpNo X1.here hx rfl (hb hby d1_26) rfl (teq c1).2 k₀) ?_
      show GoOn p e below _ (T1.setTop (mkF m 29 #[.val (.long x), .second, .val (.int i), .val (.int bb), .val (.int qq)] []))
      refine GoOn.step (fun t₀ k₀ => XS.iload X1.here hx rfl (hb hby d1_29) rfl k₀) ?_
      show GoOn p e below _ (T1.setTop (mkF m 31 #[.val (.long x), .second, .val (.int i), .val (.int bb), .val (.int qq)] [(.int qq)]))
      refine GoOn.step (fun t₀ k₀ => XS.iconst X1.here hx rfl (hb hby d1_31) k₀) ?_
      show GoOn p e below _ (T1.setTop (mkF m 32 #[.val (.long x), .second, .val (.int i), .val (.int bb), .val (.int qq)] [(.int (1 : Int32)), (.int qq)]))
      refine GoOn.step (fun t₀ k₀ => XS.iadd X1.here hx rfl (hb hby d1_32) rfl k₀) ?_
      show GoOn p e below _ (T1.setTop (mkF m 33 #[.val (.long x), .second, .val (.int i), .val (.int bb), .val (.int qq)] [(.int (qq + (1 : Int32)))]))
      refine GoOn.step (fun t₀ k₀ => XS.istore X1.here hx rfl (hb hby d1_33) rfl (l' := #[.val (.long x), .second, .val (.int i), .val (.int bb), .val (.int (qq + (1 : Int32)))]) rfl k₀) ?_
      show GoOn p e below _ (T1.setTop (mkF m 35 #[.val (.long x), .second, .val (.int i), .val (.int bb), .val (.int (qq + (1 : Int32)))] []))
      refine GoOn.step (fun t₀ k₀ => XS.iload X1.here hx rfl (hb hby d1_35) rfl k₀) ?_
      show GoOn p e below _ (T1.setTop (mkF m 37 #[.val (.long x), .second, .val (.int i), .val (.int bb), .val (.int (qq + (1 : Int32)))] [(.int (qq + (1 : Int32)))]))
      refine GoOn.step (fun t₀ k₀ => XS.i2l X1.here hx rfl (hb hby d1_37) rfl k₀) ?_
      show GoOn p e below _ (T1.setTop (mkF m 38 #[.val (.long x), .second, .val (.int i), .val (.int bb), .val (.int (qq + (1 : Int32)))] [(.long ((qq + (1 : Int32)).toInt64))]))
      refine GoOn.step (fun t₀ k₀ => XS.bipush X1.here hx rfl (hb hby d1_38) k₀) ?_
      show GoOn p e below _ (T1.setTop (mkF m 40 #[.val (.long x), .second, .val (.int i), .val (.int bb), .val (.int (qq + (1 : Int32)))] [(.int (8 : Int32)), (.long ((qq + (1 : Int32)).toInt64))]))
      refine GoOn.step (fun t₀ k₀ => XS.iloadN X1.here hx rfl (hb hby d1_40) rfl k₀) ?_
      show GoOn p e below _ (T1.setTop (mkF m 41 #[.val (.long x), .second, .val (.int i), .val (.int bb), .val (.int (qq + (1 : Int32)))] [(.int i), (.int (8 : Int32)), (.long ((qq + (1 : Int32)).toInt64))]))
      refine GoOn.step (fun t₀ k₀ => XS.imul X1.here hx rfl (hb hby d1_41) rfl k₀) ?_
      show GoOn p e below _ (T1.setTop (mkF m 42 #[.val (.long x), .second, .val (.int i), .val (.int bb), .val (.int (qq + (1 : Int32)))] [(.int ((8 : Int32) * i)), (.long ((qq + (1 : Int32)).toInt64))]))
      refine GoOn.step (fun t₀ k₀ => XS.lshl X1.here hx rfl (hb hby d1_42) rfl k₀) ?_
      show GoOn p e below _ (T1.setTop (mkF m 43 #[.val (.long x), .second, .val (.int i), .val (.int bb), .val (.int (qq + (1 : Int32)))] [(.long (((qq + (1 : Int32)).toInt64) <<< (((8 : Int32) * i) &&& 0x3f).toInt64))]))
      exact GoOn.retJ X1 hx hrt hlk (hb hby d1_43) (by decide) (by decide) (by first | exact ⟨_, rfl, rfl, rfl⟩ | (rw [e1]; exact ⟨_, rfl, rfl, rfl⟩))
    · refine GoOn.step (fun t₀ k₀ => XS.icmpYes X1.here hx rfl (pc0 := 26) (pc' := 35) rfl (hb hby d1_26) rfl (feq c1).2 (by decide) (by decide) k₀) ?_
      show GoOn p e below _ (T1.setTop (mkF m 35 #[.val (.long x), .second, .val (.int i), .val (.int bb), .val (.int qq)] []))
      refine GoOn.step (fun t₀ k₀ => XS.iload X1.here hx rfl (hb hby d1_35) rfl k₀) ?_
      show GoOn p e below _ (T1.setTop (mkF m 37 #[.val (.long x), .second, .val (.int i), .val (.int bb), .val (.int qq)] [(.int qq)]))
      refine GoOn.step (fun t₀ k₀ => XS.i2l X1.here hx rfl (hb hby d1_37) rfl k₀) ?_
      show GoOn p e below _ (T1.setTop (mkF m 38 #[.val (.long x), .second, .val (.int i), .val (.int bb), .val (.int qq)] [(.long (qq.toInt64))]))
      refine GoOn.step (fun t₀ k₀ => XS.bipush X1.here hx rfl (hb hby d1_38) k₀) ?_
      show GoOn p e below _ (T1.setTop (mkF m 40 #[.val (.long x), .second, .val (.int i), .val (.int bb), .val (.int qq)] [(.int (8 : Int32)), (.long (qq.toInt64))]))
      refine GoOn.step (fun t₀ k₀ => XS.iloadN X1.here hx rfl (hb hby d1_40) rfl k₀) ?_
      show GoOn p e below _ (T1.setTop (mkF m 41 #[.val (.long x), .second, .val (.int i), .val (.int bb), .val (.int qq)] [(.int i), (.int (8 : Int32)), (.long (qq.toInt64))]))
      refine GoOn.step (fun t₀ k₀ => XS.imul X1.here hx rfl (hb hby d1_41) rfl k₀) ?_
      show GoOn p e below _ (T1.setTop (mkF m 42 #[.val (.long x), .second, .val (.int i), .val (.int bb), .val (.int qq)] [(.int ((8 : Int32) * i)), (.long (qq.toInt64))]))
      refine GoOn.step (fun t₀ k₀ => XS.lshl X1.here hx rfl (hb hby d1_42) rfl k₀) ?_
      show GoOn p e below _ (T1.setTop (mkF m 43 #[.val (.long x), .second, .val (.int i), .val (.int bb), .val (.int qq)] [(.long ((qq.toInt64) <<< (((8 : Int32) * i) &&& 0x3f).toInt64))]))
      exact GoOn.retJ X1 hx hrt hlk (hb hby d1_43) (by decide) (by decide) (by first | exact ⟨_, rfl, rfl, rfl⟩ | (rw [e1]; exact ⟨_, rfl, rfl, rfl⟩))
theorem ef_c_np (m : MethodId) (x0 : Int64) : entryFrame m #[(.long x0)] 8 = mkF m 0 #[.val (.long x0), .second, .unset, .unset, .unset, .unset, .unset, .unset] [] := by first | (simp [entryFrame, mkF, argsToLocals, Value.category]; done) | rfl
set_option maxRecDepth 65536 in
set_option maxHeartbeats 40000000 in
theorem c_np (l : Launch) (Z : State) (a0 : Array Value) (hw : ∀ d ∈ tables_1, d.before a0 Z = true) (x : Int64) (h0 : Heap)  :
    Con l Z (⟨"com/example/austere_log/austerelog/http/ObjectBody", "notPlain", "(J)J"⟩ : MethodName) prog_10_method_15_code 8 (some .long) ({ frames := 0, cells := 0, slots := 0, locals := 0 } : Room) #[(.long x)] h0 (PQ (some (.long (npV x))) h0) := by
  refine Con.intro (plainFor_of_name pn_1) ?_
  intro p e s m below meth c s₁ hx hby hml hrt hlk hZ hown hnm X0 e0
  replace hown : s.vm.findClass "com/example/austere_log/austerelog/http/ObjectBody" = some m.cls := hown
  refine GoOn.cast (ef_c_np m x) ?_
  show GoOn p e below _ (s₁.setTop (mkF m 0 #[.val (.long x), .second, .unset, .unset, .unset, .unset, .unset, .unset] []))
  refine GoOn.step (fun t₀ k₀ => XS.lloadN X0.here hx rfl (hb hby d3_0) rfl k₀) ?_
  show GoOn p e below _ (s₁.setTop (mkF m 1 #[.val (.long x), .second, .unset, .unset, .unset, .unset, .unset, .unset] [(.long x)]))
  refine GoOn.step (fun t₀ k₀ => X0.ldc2Long hx hown (mvT hZ (hw _ (List.mem_of_getElem? (i := 14) rfl))) (g := (mkF m 1 #[.val (.long x), .second, .unset, .unset, .unset, .unset, .unset, .unset] [(.long x)])) rfl (hb hby d3_1) t₀ k₀) ?_
  show GoOn p e below _ (s₁.setTop (mkF m 4 #[.val (.long x), .second, .unset, .unset, .unset, .unset, .unset, .unset] [(.long (2314885530818453536 : Int64)), (.long x)]))
  refine GoOn.step (fun t₀ k₀ => XS.lsub X0.here hx rfl (hb hby d3_4) rfl k₀) ?_
  show GoOn p e below _ (s₁.setTop (mkF m 5 #[.val (.long x), .second, .unset, .unset, .unset, .unset, .unset, .unset] [(.long (x - (2314885530818453536 : Int64)))]))
  refine GoOn.step (fun t₀ k₀ => XS.lstoreN X0.here hx rfl (hb hby d3_5) rfl (l' := #[.val (.long x), .second, .val (.long (x - (2314885530818453536 : Int64))), .second, .unset, .unset, .unset, .unset]) rfl k₀) ?_
  show GoOn p e below _ (s₁.setTop (mkF m 6 #[.val (.long x), .second, .val (.long (x - (2314885530818453536 : Int64))), .second, .unset, .unset, .unset, .unset] []))
  refine GoOn.step (fun t₀ k₀ => XS.lloadN X0.here hx rfl (hb hby d3_6) rfl k₀) ?_
  show GoOn p e below _ (s₁.setTop (mkF m 7 #[.val (.long x), .second, .val (.long (x - (2314885530818453536 : Int64))), .second, .unset, .unset, .unset, .unset] [(.long x)]))
  refine GoOn.step (fun t₀ k₀ => X0.ldc2Long hx hown (mvT hZ (hw _ (List.mem_of_getElem? (i := 15) rfl))) (g := (mkF m 7 #[.val (.long x), .second, .val (.long (x - (2314885530818453536 : Int64))), .second, .unset, .unset, .unset, .unset] [(.long x)])) rfl (hb hby d3_7) t₀ k₀) ?_
  show GoOn p e below _ (s₁.setTop (mkF m 10 #[.val (.long x), .second, .val (.long (x - (2314885530818453536 : Int64))), .second, .unset, .unset, .unset, .unset] [(.long (2459565876494606882 : Int64)), (.long x)]))
  refine GoOn.step (fun t₀ k₀ => XS.lxor X0.here hx rfl (hb hby d3_10) rfl k₀) ?_
  show GoOn p e below _ (s₁.setTop (mkF m 11 #[.val (.long x), .second, .val (.long (x - (2314885530818453536 : Int64))), .second, .unset, .unset, .unset, .unset] [(.long (x ^^^ (2459565876494606882 : Int64)))]))
  refine GoOn.step (fun t₀ k₀ => X0.ldc2Long hx hown (mvT hZ (hw _ (List.mem_of_getElem? (i := 16) rfl))) (g := (mkF m 11 #[.val (.long x), .second, .val (.long (x - (2314885530818453536 : Int64))), .second, .unset, .unset, .unset, .unset] [(.long (x ^^^ (2459565876494606882 : Int64)))])) rfl (hb hby d3_11) t₀ k₀) ?_
  show GoOn p e below _ (s₁.setTop (mkF m 14 #[.val (.long x), .second, .val (.long (x - (2314885530818453536 : Int64))), .second, .unset, .unset, .unset, .unset] [(.long (72340172838076673 : Int64)), (.long (x ^^^ (2459565876494606882 : Int64)))]))
  refine GoOn.step (fun t₀ k₀ => XS.lsub X0.here hx rfl (hb hby d3_14) rfl k₀) ?_
  show GoOn p e below _ (s₁.setTop (mkF m 15 #[.val (.long x), .second, .val (.long (x - (2314885530818453536 : Int64))), .second, .unset, .unset, .unset, .unset] [(.long ((x ^^^ (2459565876494606882 : Int64)) - (72340172838076673 : Int64)))]))
  refine GoOn.step (fun t₀ k₀ => XS.lstore X0.here hx rfl (hb hby d3_15) rfl (l' := #[.val (.long x), .second, .val (.long (x - (2314885530818453536 : Int64))), .second, .val (.long ((x ^^^ (2459565876494606882 : Int64)) - (72340172838076673 : Int64))), .second, .unset, .unset]) rfl k₀) ?_
  show GoOn p e below _ (s₁.setTop (mkF m 17 #[.val (.long x), .second, .val (.long (x - (2314885530818453536 : Int64))), .second, .val (.long ((x ^^^ (2459565876494606882 : Int64)) - (72340172838076673 : Int64))), .second, .unset, .unset] []))
  refine GoOn.step (fun t₀ k₀ => XS.lloadN X0.here hx rfl (hb hby d3_17) rfl k₀) ?_
  show GoOn p e below _ (s₁.setTop (mkF m 18 #[.val (.long x), .second, .val (.long (x - (2314885530818453536 : Int64))), .second, .val (.long ((x ^^^ (2459565876494606882 : Int64)) - (72340172838076673 : Int64))), .second, .unset, .unset] [(.long x)]))
  refine GoOn.step (fun t₀ k₀ => X0.ldc2Long hx hown (mvT hZ (hw _ (List.mem_of_getElem? (i := 17) rfl))) (g := (mkF m 18 #[.val (.long x), .second, .val (.long (x - (2314885530818453536 : Int64))), .second, .val (.long ((x ^^^ (2459565876494606882 : Int64)) - (72340172838076673 : Int64))), .second, .unset, .unset] [(.long x)])) rfl (hb hby d3_18) t₀ k₀) ?_
  show GoOn p e below _ (s₁.setTop (mkF m 21 #[.val (.long x), .second, .val (.long (x - (2314885530818453536 : Int64))), .second, .val (.long ((x ^^^ (2459565876494606882 : Int64)) - (72340172838076673 : Int64))), .second, .unset, .unset] [(.long (6655295901103053916 : Int64)), (.long x)]))
  refine GoOn.step (fun t₀ k₀ => XS.lxor X0.here hx rfl (hb hby d3_21) rfl k₀) ?_
  show GoOn p e below _ (s₁.setTop (mkF m 22 #[.val (.long x), .second, .val (.long (x - (2314885530818453536 : Int64))), .second, .val (.long ((x ^^^ (2459565876494606882 : Int64)) - (72340172838076673 : Int64))), .second, .unset, .unset] [(.long (x ^^^ (6655295901103053916 : Int64)))]))
  refine GoOn.step (fun t₀ k₀ => X0.ldc2Long hx hown (mvT hZ (hw _ (List.mem_of_getElem? (i := 16) rfl))) (g := (mkF m 22 #[.val (.long x), .second, .val (.long (x - (2314885530818453536 : Int64))), .second, .val (.long ((x ^^^ (2459565876494606882 : Int64)) - (72340172838076673 : Int64))), .second, .unset, .unset] [(.long (x ^^^ (6655295901103053916 : Int64)))])) rfl (hb hby d3_22) t₀ k₀) ?_
  show GoOn p e below _ (s₁.setTop (mkF m 25 #[.val (.long x), .second, .val (.long (x - (2314885530818453536 : Int64))), .second, .val (.long ((x ^^^ (2459565876494606882 : Int64)) - (72340172838076673 : Int64))), .second, .unset, .unset] [(.long (72340172838076673 : Int64)), (.long (x ^^^ (6655295901103053916 : Int64)))]))
  refine GoOn.step (fun t₀ k₀ => XS.lsub X0.here hx rfl (hb hby d3_25) rfl k₀) ?_
  show GoOn p e below _ (s₁.setTop (mkF m 26 #[.val (.long x), .second, .val (.long (x - (2314885530818453536 : Int64))), .second, .val (.long ((x ^^^ (2459565876494606882 : Int64)) - (72340172838076673 : Int64))), .second, .unset, .unset] [(.long ((x ^^^ (6655295901103053916 : Int64)) - (72340172838076673 : Int64)))]))
  refine GoOn.step (fun t₀ k₀ => XS.lstore X0.here hx rfl (hb hby d3_26) rfl (l' := #[.val (.long x), .second, .val (.long (x - (2314885530818453536 : Int64))), .second, .val (.long ((x ^^^ (2459565876494606882 : Int64)) - (72340172838076673 : Int64))), .second, .val (.long ((x ^^^ (6655295901103053916 : Int64)) - (72340172838076673 : Int64))), .second]) rfl k₀) ?_
  show GoOn p e below _ (s₁.setTop (mkF m 28 #[.val (.long x), .second, .val (.long (x - (2314885530818453536 : Int64))), .second, .val (.long ((x ^^^ (2459565876494606882 : Int64)) - (72340172838076673 : Int64))), .second, .val (.long ((x ^^^ (6655295901103053916 : Int64)) - (72340172838076673 : Int64))), .second] []))
  refine GoOn.step (fun t₀ k₀ => XS.lloadN X0.here hx rfl (hb hby d3_28) rfl k₀) ?_
  show GoOn p e below _ (s₁.setTop (mkF m 29 #[.val (.long x), .second, .val (.long (x - (2314885530818453536 : Int64))), .second, .val (.long ((x ^^^ (2459565876494606882 : Int64)) - (72340172838076673 : Int64))), .second, .val (.long ((x ^^^ (6655295901103053916 : Int64)) - (72340172838076673 : Int64))), .second] [(.long (x - (2314885530818453536 : Int64)))]))
  refine GoOn.step (fun t₀ k₀ => XS.lload X0.here hx rfl (hb hby d3_29) rfl k₀) ?_
  show GoOn p e below _ (s₁.setTop (mkF m 31 #[.val (.long x), .second, .val (.long (x - (2314885530818453536 : Int64))), .second, .val (.long ((x ^^^ (2459565876494606882 : Int64)) - (72340172838076673 : Int64))), .second, .val (.long ((x ^^^ (6655295901103053916 : Int64)) - (72340172838076673 : Int64))), .second] [(.long ((x ^^^ (2459565876494606882 : Int64)) - (72340172838076673 : Int64))), (.long (x - (2314885530818453536 : Int64)))]))
  refine GoOn.step (fun t₀ k₀ => XS.lor X0.here hx rfl (hb hby d3_31) rfl k₀) ?_
  show GoOn p e below _ (s₁.setTop (mkF m 32 #[.val (.long x), .second, .val (.long (x - (2314885530818453536 : Int64))), .second, .val (.long ((x ^^^ (2459565876494606882 : Int64)) - (72340172838076673 : Int64))), .second, .val (.long ((x ^^^ (6655295901103053916 : Int64)) - (72340172838076673 : Int64))), .second] [(.long ((x - (2314885530818453536 : Int64)) ||| ((x ^^^ (2459565876494606882 : Int64)) - (72340172838076673 : Int64))))]))
  refine GoOn.step (fun t₀ k₀ => XS.lload X0.here hx rfl (hb hby d3_32) rfl k₀) ?_
  show GoOn p e below _ (s₁.setTop (mkF m 34 #[.val (.long x), .second, .val (.long (x - (2314885530818453536 : Int64))), .second, .val (.long ((x ^^^ (2459565876494606882 : Int64)) - (72340172838076673 : Int64))), .second, .val (.long ((x ^^^ (6655295901103053916 : Int64)) - (72340172838076673 : Int64))), .second] [(.long ((x ^^^ (6655295901103053916 : Int64)) - (72340172838076673 : Int64))), (.long ((x - (2314885530818453536 : Int64)) ||| ((x ^^^ (2459565876494606882 : Int64)) - (72340172838076673 : Int64))))]))
  refine GoOn.step (fun t₀ k₀ => XS.lor X0.here hx rfl (hb hby d3_34) rfl k₀) ?_
  show GoOn p e below _ (s₁.setTop (mkF m 35 #[.val (.long x), .second, .val (.long (x - (2314885530818453536 : Int64))), .second, .val (.long ((x ^^^ (2459565876494606882 : Int64)) - (72340172838076673 : Int64))), .second, .val (.long ((x ^^^ (6655295901103053916 : Int64)) - (72340172838076673 : Int64))), .second] [(.long (((x - (2314885530818453536 : Int64)) ||| ((x ^^^ (2459565876494606882 : Int64)) - (72340172838076673 : Int64))) ||| ((x ^^^ (6655295901103053916 : Int64)) - (72340172838076673 : Int64))))]))
  refine GoOn.step (fun t₀ k₀ => X0.ldc2Long hx hown (mvT hZ (hw _ (List.mem_of_getElem? (i := 18) rfl))) (g := (mkF m 35 #[.val (.long x), .second, .val (.long (x - (2314885530818453536 : Int64))), .second, .val (.long ((x ^^^ (2459565876494606882 : Int64)) - (72340172838076673 : Int64))), .second, .val (.long ((x ^^^ (6655295901103053916 : Int64)) - (72340172838076673 : Int64))), .second] [(.long (((x - (2314885530818453536 : Int64)) ||| ((x ^^^ (2459565876494606882 : Int64)) - (72340172838076673 : Int64))) ||| ((x ^^^ (6655295901103053916 : Int64)) - (72340172838076673 : Int64))))])) rfl (hb hby d3_35) t₀ k₀) ?_
  show GoOn p e below _ (s₁.setTop (mkF m 38 #[.val (.long x), .second, .val (.long (x - (2314885530818453536 : Int64))), .second, .val (.long ((x ^^^ (2459565876494606882 : Int64)) - (72340172838076673 : Int64))), .second, .val (.long ((x ^^^ (6655295901103053916 : Int64)) - (72340172838076673 : Int64))), .second] [(.long (-9187201950435737472 : Int64)), (.long (((x - (2314885530818453536 : Int64)) ||| ((x ^^^ (2459565876494606882 : Int64)) - (72340172838076673 : Int64))) ||| ((x ^^^ (6655295901103053916 : Int64)) - (72340172838076673 : Int64))))]))
  refine GoOn.step (fun t₀ k₀ => XS.land X0.here hx rfl (hb hby d3_38) rfl k₀) ?_
  show GoOn p e below _ (s₁.setTop (mkF m 39 #[.val (.long x), .second, .val (.long (x - (2314885530818453536 : Int64))), .second, .val (.long ((x ^^^ (2459565876494606882 : Int64)) - (72340172838076673 : Int64))), .second, .val (.long ((x ^^^ (6655295901103053916 : Int64)) - (72340172838076673 : Int64))), .second] [(.long ((((x - (2314885530818453536 : Int64)) ||| ((x ^^^ (2459565876494606882 : Int64)) - (72340172838076673 : Int64))) ||| ((x ^^^ (6655295901103053916 : Int64)) - (72340172838076673 : Int64))) &&& (-9187201950435737472 : Int64)))]))
  exact GoOn.retJ X0 hx hrt hlk (hb hby d3_39) (by decide) (by decide) (by first | exact ⟨rfl, rfl, rfl⟩ | (rw [e0]; exact ⟨rfl, rfl, rfl⟩))
theorem ef_c_bk (m : MethodId) (x0 : Int64) (x1 : Int64) (x2 : Int32) (x3 : Int32) : entryFrame m #[(.long x0), (.long x1), (.int x2), (.int x3)] 8 = mkF m 0 #[.val (.long x0), .second, .val (.long x1), .second, .val (.int x2), .val (.int x3), .unset, .unset] [] := by first | (simp [entryFrame, mkF, argsToLocals, Value.category]; done) | rfl
set_option maxRecDepth 65536 in
set_option maxHeartbeats 40000000 in
theorem c_bk (l : Launch) (Z : State) (a0 : Array Value) (hw : ∀ d ∈ tables_1, d.before a0 Z = true) (x r : Int64) (i kk : Int32) (h0 : Heap)  :
    Con l Z (⟨"com/example/austere_log/austerelog/http/ObjectBodyNotPlainPinLaw", "byteOk", "(JJIZ)Z"⟩ : MethodName) method_6_code 8 (some .boolean) ({ frames := 1, cells := 0, slots := 0, locals := 16 } : Room) #[(.long x), (.long r), (.int i), (.int kk)] h0 (PQ (some (.int (okV x r i kk))) h0) := by
  refine Con.intro (plainFor_of_name pn_0) ?_
  intro p e s m below meth c s₁ hx hby hml hrt hlk hZ hown hnm X0 e0
  replace hown : s.vm.findClass "com/example/austere_log/austerelog/http/ObjectBodyNotPlainPinLaw" = some m.cls := hown
  refine GoOn.cast (ef_c_bk m x r i kk) ?_
  show GoOn p e below _ (s₁.setTop (mkF m 0 #[.val (.long x), .second, .val (.long r), .second, .val (.int i), .val (.int kk), .unset, .unset] []))
  refine GoOn.step (fun t₀ k₀ => XS.lloadN X0.here hx rfl (hb hby d4_0) rfl k₀) ?_
  show GoOn p e below _ (s₁.setTop (mkF m 1 #[.val (.long x), .second, .val (.long r), .second, .val (.int i), .val (.int kk), .unset, .unset] [(.long x)]))
  refine GoOn.step (fun t₀ k₀ => XS.iload X0.here hx rfl (hb hby d4_1) rfl k₀) ?_
  show GoOn p e below _ (s₁.setTop (mkF m 3 #[.val (.long x), .second, .val (.long r), .second, .val (.int i), .val (.int kk), .unset, .unset] [(.int i), (.long x)]))
  obtain ⟨_, T2, L2, X2, hQ2, st2⟩ := kCallS X0 hx hZ (argsL := [(.long x), (.int i)]) (rest := []) (c_bo l Z a0 hw x i h0) hown (hw _ (List.mem_of_getElem? (i := 5) rfl)) (hw _ (List.mem_of_getElem? (i := 6) rfl)) (hw _ (List.mem_of_getElem? (i := 3) rfl)) (hw _ (List.mem_of_getElem? (i := 7) rfl)) (by decide) e0 (g := (mkF m 3 #[.val (.long x), .second, .val (.long r), .second, .val (.int i), .val (.int kk), .unset, .unset] [(.int i), (.long x)])) rfl (by rw [hml]; rfl) (lenOf pd_0 rfl) rfl (W := 0) (by show 2 * 0 + _ ≤ _; exact Nat.le_of_eq rfl) (hb hby d4_3) (by decide) (by decide) (by decide) (by decide)
  obtain ⟨rfl, rfl, e2⟩ := hQ2
  rw [List.append_nil] at X2
  refine GoOn.step st2 ?_
  show GoOn p e below _ (T2.setTop (mkF m 6 #[.val (.long x), .second, .val (.long r), .second, .val (.int i), .val (.int kk), .unset, .unset] [(.int (bO x i))]))
  generalize hbb : (bO x i) = bb
  have hbbI := congrArg Int32.toInt hbb
  refine GoOn.step (fun t₀ k₀ => XS.istore X2.here hx rfl (hb hby d4_6) rfl (l' := #[.val (.long x), .second, .val (.long r), .second, .val (.int i), .val (.int kk), .val (.int bb), .unset]) rfl k₀) ?_
  show GoOn p e below _ (T2.setTop (mkF m 8 #[.val (.long x), .second, .val (.long r), .second, .val (.int i), .val (.int kk), .val (.int bb), .unset] []))
  refine GoOn.step (fun t₀ k₀ => XS.lloadN X2.here hx rfl (hb hby d4_8) rfl k₀) ?_
  show GoOn p e below _ (T2.setTop (mkF m 9 #[.val (.long x), .second, .val (.long r), .second, .val (.int i), .val (.int kk), .val (.int bb), .unset] [(.long r)]))
  refine GoOn.step (fun t₀ k₀ => XS.bipush X2.here hx rfl (hb hby d4_9) k₀) ?_
  show GoOn p e below _ (T2.setTop (mkF m 11 #[.val (.long x), .second, .val (.long r), .second, .val (.int i), .val (.int kk), .val (.int bb), .unset] [(.int (8 : Int32)), (.long r)]))
  refine GoOn.step (fun t₀ k₀ => XS.iload X2.here hx rfl (hb hby d4_11) rfl k₀) ?_
  show GoOn p e below _ (T2.setTop (mkF m 13 #[.val (.long x), .second, .val (.long r), .second, .val (.int i), .val (.int kk), .val (.int bb), .unset] [(.int i), (.int (8 : Int32)), (.long r)]))
  refine GoOn.step (fun t₀ k₀ => XS.imul X2.here hx rfl (hb hby d4_13) rfl k₀) ?_
  show GoOn p e below _ (T2.setTop (mkF m 14 #[.val (.long x), .second, .val (.long r), .second, .val (.int i), .val (.int kk), .val (.int bb), .unset] [(.int ((8 : Int32) * i)), (.long r)]))
  refine GoOn.step (fun t₀ k₀ => XS.bipush X2.here hx rfl (hb hby d4_14) k₀) ?_
  show GoOn p e below _ (T2.setTop (mkF m 16 #[.val (.long x), .second, .val (.long r), .second, .val (.int i), .val (.int kk), .val (.int bb), .unset] [(.int (7 : Int32)), (.int ((8 : Int32) * i)), (.long r)]))
  refine GoOn.step (fun t₀ k₀ => XS.iadd X2.here hx rfl (hb hby d4_16) rfl k₀) ?_
  show GoOn p e below _ (T2.setTop (mkF m 17 #[.val (.long x), .second, .val (.long r), .second, .val (.int i), .val (.int kk), .val (.int bb), .unset] [(.int (((8 : Int32) * i) + (7 : Int32))), (.long r)]))
  refine GoOn.step (fun t₀ k₀ => XS.lushr X2.here hx rfl (hb hby d4_17) rfl k₀) ?_
  show GoOn p e below _ (T2.setTop (mkF m 18 #[.val (.long x), .second, .val (.long r), .second, .val (.int i), .val (.int kk), .val (.int bb), .unset] [(.long ((r.toUInt64 >>> ((((8 : Int32) * i) + (7 : Int32)) &&& 0x3f).toInt64.toUInt64).toInt64))]))
  refine GoOn.step (fun t₀ k₀ => XS.lconst X2.here hx rfl (hb hby d4_18) k₀) ?_
  show GoOn p e below _ (T2.setTop (mkF m 19 #[.val (.long x), .second, .val (.long r), .second, .val (.int i), .val (.int kk), .val (.int bb), .unset] [(.long (1 : Int64)), (.long ((r.toUInt64 >>> ((((8 : Int32) * i) + (7 : Int32)) &&& 0x3f).toInt64.toUInt64).toInt64))]))
  refine GoOn.step (fun t₀ k₀ => XS.land X2.here hx rfl (hb hby d4_19) rfl k₀) ?_
  show GoOn p e below _ (T2.setTop (mkF m 20 #[.val (.long x), .second, .val (.long r), .second, .val (.int i), .val (.int kk), .val (.int bb), .unset] [(.long (((r.toUInt64 >>> ((((8 : Int32) * i) + (7 : Int32)) &&& 0x3f).toInt64.toUInt64).toInt64) &&& (1 : Int64)))]))
  refine GoOn.step (fun t₀ k₀ => XS.lconst X2.here hx rfl (hb hby d4_20) k₀) ?_
  show GoOn p e below _ (T2.setTop (mkF m 21 #[.val (.long x), .second, .val (.long r), .second, .val (.int i), .val (.int kk), .val (.int bb), .unset] [(.long (0 : Int64)), (.long (((r.toUInt64 >>> ((((8 : Int32) * i) + (7 : Int32)) &&& 0x3f).toInt64.toUInt64).toInt64) &&& (1 : Int64)))]))
  refine GoOn.step (fun t₀ k₀ => XS.lcmp X2.here hx rfl (hb hby d4_21) rfl k₀) ?_
  show GoOn p e below _ (T2.setTop (mkF m 22 #[.val (.long x), .second, .val (.long r), .second, .val (.int i), .val (.int kk), .val (.int bb), .unset] [(.int (lcmpW (((r.toUInt64 >>> ((((8 : Int32) * i) + (7 : Int32)) &&& 0x3f).toInt64.toUInt64).toInt64) &&& (1 : Int64)) (0 : Int64)))]))
  by_cases c0 : (((r.toUInt64 >>> ((((8 : Int32) * i) + (7 : Int32)) &&& 0x3f).toInt64.toUInt64).toInt64) &&& (1 : Int64)) = (0 : Int64)
  · refine GoOn.step (fun t₀ k₀ => XS.ifYes X2.here hx rfl (pc0 := 22) (pc' := 29) rfl (hb hby d4_22) rfl ((if0 _ _).trans (teq ((lw_eq _ _).mpr c0)).1) (by decide) (by decide) k₀) ?_
    show GoOn p e below _ (T2.setTop (mkF m 29 #[.val (.long x), .second, .val (.long r), .second, .val (.int i), .val (.int kk), .val (.int bb), .unset] []))
    have cm : mT r i = 0 := c0
    refine GoOn.step (fun t₀ k₀ => XS.iconst X2.here hx rfl (hb hby d4_29) k₀) ?_
    show GoOn p e below _ (T2.setTop (mkF m 30 #[.val (.long x), .second, .val (.long r), .second, .val (.int i), .val (.int kk), .val (.int bb), .unset] [(.int (0 : Int32))]))
    refine GoOn.step (fun t₀ k₀ => XS.istore X2.here hx rfl (hb hby d4_30) rfl (l' := #[.val (.long x), .second, .val (.long r), .second, .val (.int i), .val (.int kk), .val (.int bb), .val (.int (0 : Int32))]) rfl k₀) ?_
    show GoOn p e below _ (T2.setTop (mkF m 32 #[.val (.long x), .second, .val (.long r), .second, .val (.int i), .val (.int kk), .val (.int bb), .val (.int (0 : Int32))] []))
    refine GoOn.step (fun t₀ k₀ => XS.iload X2.here hx rfl (hb hby d4_32) rfl k₀) ?_
    show GoOn p e below _ (T2.setTop (mkF m 34 #[.val (.long x), .second, .val (.long r), .second, .val (.int i), .val (.int kk), .val (.int bb), .val (.int (0 : Int32))] [(.int bb)]))
    obtain ⟨_, T3, L3, X3, hQ3, st3⟩ := kCallS X2 hx hZ (argsL := [(.int bb)]) (rest := []) (c_pl l Z a0 hw bb h0) hown (hw _ (List.mem_of_getElem? (i := 23) rfl)) (hw _ (List.mem_of_getElem? (i := 24) rfl)) (hw _ (List.mem_of_getElem? (i := 3) rfl)) (hw _ (List.mem_of_getElem? (i := 25) rfl)) (by decide) e2 (g := (mkF m 34 #[.val (.long x), .second, .val (.long r), .second, .val (.int i), .val (.int kk), .val (.int bb), .val (.int (0 : Int32))] [(.int bb)])) rfl (by rw [hml]; rfl) (lenOf pd_1 rfl) rfl (W := 0) (by show 2 * 0 + _ ≤ _; exact Nat.le_of_eq rfl) (hb hby d4_34) (by decide) (by decide) (by decide) (by decide)
    obtain ⟨rfl, rfl, e3⟩ := hQ3
    rw [List.append_nil] at X3
    refine GoOn.step st3 ?_
    show GoOn p e below _ (T3.setTop (mkF m 37 #[.val (.long x), .second, .val (.long r), .second, .val (.int i), .val (.int kk), .val (.int bb), .val (.int (0 : Int32))] [(.int (pV bb))]))
    by_cases c1 : (pV bb) = (0 : Int32)
    · refine GoOn.step (fun t₀ k₀ => XS.ifNo X3.here hx rfl (hb hby d4_37) rfl ((if0 _ _).trans (teq c1).2) k₀) ?_
      show GoOn p e below _ (T3.setTop (mkF m 40 #[.val (.long x), .second, .val (.long r), .second, .val (.int i), .val (.int kk), .val (.int bb), .val (.int (0 : Int32))] []))
      refine GoOn.step (fun t₀ k₀ => XS.iload X3.here hx rfl (hb hby d4_40) rfl k₀) ?_
      show GoOn p e below _ (T3.setTop (mkF m 42 #[.val (.long x), .second, .val (.long r), .second, .val (.int i), .val (.int kk), .val (.int bb), .val (.int (0 : Int32))] [(.int (0 : Int32))]))
      exact GoOn.retN X3 hx hrt hlk (by simp) (hb hby d4_42) (by decide) (by decide) (by first | exact ⟨by rw [okV, hbb, if_pos c1, if_pos cm]; rfl, rfl, rfl⟩ | (rw [e3]; exact ⟨by rw [okV, hbb, if_pos c1, if_pos cm]; rfl, rfl, rfl⟩))
    · refine GoOn.step (fun t₀ k₀ => XS.ifYes X3.here hx rfl (pc0 := 37) (pc' := 43) rfl (hb hby d4_37) rfl ((if0 _ _).trans (feq c1).2) (by decide) (by decide) k₀) ?_
      show GoOn p e below _ (T3.setTop (mkF m 43 #[.val (.long x), .second, .val (.long r), .second, .val (.int i), .val (.int kk), .val (.int bb), .val (.int (0 : Int32))] []))
      refine GoOn.step (fun t₀ k₀ => XS.iload X3.here hx rfl (hb hby d4_43) rfl k₀) ?_
      show GoOn p e below _ (T3.setTop (mkF m 45 #[.val (.long x), .second, .val (.long r), .second, .val (.int i), .val (.int kk), .val (.int bb), .val (.int (0 : Int32))] [(.int kk)]))
      by_cases c2 : kk = (0 : Int32)
      · refine GoOn.step (fun t₀ k₀ => XS.ifYes X3.here hx rfl (pc0 := 45) (pc' := 59) rfl (hb hby d4_45) rfl ((if0 _ _).trans (teq c2).1) (by decide) (by decide) k₀) ?_
        show GoOn p e below _ (T3.setTop (mkF m 59 #[.val (.long x), .second, .val (.long r), .second, .val (.int i), .val (.int kk), .val (.int bb), .val (.int (0 : Int32))] []))
        refine GoOn.step (fun t₀ k₀ => XS.iconst X3.here hx rfl (hb hby d4_59) k₀) ?_
        show GoOn p e below _ (T3.setTop (mkF m 60 #[.val (.long x), .second, .val (.long r), .second, .val (.int i), .val (.int kk), .val (.int bb), .val (.int (0 : Int32))] [(.int (1 : Int32))]))
        exact GoOn.retN X3 hx hrt hlk (by simp) (hb hby d4_60) (by decide) (by decide) (by first | exact ⟨by rw [okV, hbb, if_neg c1, if_pos c2]; rfl, rfl, rfl⟩ | (rw [e3]; exact ⟨by rw [okV, hbb, if_neg c1, if_pos c2]; rfl, rfl, rfl⟩))
      · refine GoOn.step (fun t₀ k₀ => XS.ifNo X3.here hx rfl (hb hby d4_45) rfl ((if0 _ _).trans (feq c2).1) k₀) ?_
        show GoOn p e below _ (T3.setTop (mkF m 48 #[.val (.long x), .second, .val (.long r), .second, .val (.int i), .val (.int kk), .val (.int bb), .val (.int (0 : Int32))] []))
        refine GoOn.step (fun t₀ k₀ => XS.iload X3.here hx rfl (hb hby d4_48) rfl k₀) ?_
        show GoOn p e below _ (T3.setTop (mkF m 50 #[.val (.long x), .second, .val (.long r), .second, .val (.int i), .val (.int kk), .val (.int bb), .val (.int (0 : Int32))] [(.int (0 : Int32))]))
        have hf4 : (0 : Int32) = (0 : Int32) := (by decide)
        refine GoOn.step (fun t₀ k₀ => XS.ifNo X3.here hx rfl (hb hby d4_50) rfl ((if0 _ _).trans (teq hf4).2) k₀) ?_
        show GoOn p e below _ (T3.setTop (mkF m 53 #[.val (.long x), .second, .val (.long r), .second, .val (.int i), .val (.int kk), .val (.int bb), .val (.int (0 : Int32))] []))
        refine GoOn.step (fun t₀ k₀ => XS.iconst X3.here hx rfl (hb hby d4_53) k₀) ?_
        show GoOn p e below _ (T3.setTop (mkF m 54 #[.val (.long x), .second, .val (.long r), .second, .val (.int i), .val (.int kk), .val (.int bb), .val (.int (0 : Int32))] [(.int (1 : Int32))]))
        refine GoOn.step (fun t₀ k₀ => XS.goto X3.here hx rfl (pc0 := 54) (pc' := 58) rfl (hb hby d4_54) (by decide) (by decide) k₀) ?_
        show GoOn p e below _ (T3.setTop (mkF m 58 #[.val (.long x), .second, .val (.long r), .second, .val (.int i), .val (.int kk), .val (.int bb), .val (.int (0 : Int32))] [(.int (1 : Int32))]))
        exact GoOn.retN X3 hx hrt hlk (by simp) (hb hby d4_58) (by decide) (by decide) (by first | exact ⟨by rw [okV, hbb, if_neg c1, if_neg c2, if_pos cm]; rfl, rfl, rfl⟩ | (rw [e3]; exact ⟨by rw [okV, hbb, if_neg c1, if_neg c2, if_pos cm]; rfl, rfl, rfl⟩))
  · refine GoOn.step (fun t₀ k₀ => XS.ifNo X2.here hx rfl (hb hby d4_22) rfl ((if0 _ _).trans (feq (mt (lw_eq _ _).mp c0)).1) k₀) ?_
    show GoOn p e below _ (T2.setTop (mkF m 25 #[.val (.long x), .second, .val (.long r), .second, .val (.int i), .val (.int kk), .val (.int bb), .unset] []))
    have cm : ¬ mT r i = 0 := c0
    refine GoOn.step (fun t₀ k₀ => XS.iconst X2.here hx rfl (hb hby d4_25) k₀) ?_
    show GoOn p e below _ (T2.setTop (mkF m 26 #[.val (.long x), .second, .val (.long r), .second, .val (.int i), .val (.int kk), .val (.int bb), .unset] [(.int (1 : Int32))]))
    refine GoOn.step (fun t₀ k₀ => XS.goto X2.here hx rfl (pc0 := 26) (pc' := 30) rfl (hb hby d4_26) (by decide) (by decide) k₀) ?_
    show GoOn p e below _ (T2.setTop (mkF m 30 #[.val (.long x), .second, .val (.long r), .second, .val (.int i), .val (.int kk), .val (.int bb), .unset] [(.int (1 : Int32))]))
    refine GoOn.step (fun t₀ k₀ => XS.istore X2.here hx rfl (hb hby d4_30) rfl (l' := #[.val (.long x), .second, .val (.long r), .second, .val (.int i), .val (.int kk), .val (.int bb), .val (.int (1 : Int32))]) rfl k₀) ?_
    show GoOn p e below _ (T2.setTop (mkF m 32 #[.val (.long x), .second, .val (.long r), .second, .val (.int i), .val (.int kk), .val (.int bb), .val (.int (1 : Int32))] []))
    refine GoOn.step (fun t₀ k₀ => XS.iload X2.here hx rfl (hb hby d4_32) rfl k₀) ?_
    show GoOn p e below _ (T2.setTop (mkF m 34 #[.val (.long x), .second, .val (.long r), .second, .val (.int i), .val (.int kk), .val (.int bb), .val (.int (1 : Int32))] [(.int bb)]))
    obtain ⟨_, T5, L5, X5, hQ5, st5⟩ := kCallS X2 hx hZ (argsL := [(.int bb)]) (rest := []) (c_pl l Z a0 hw bb h0) hown (hw _ (List.mem_of_getElem? (i := 23) rfl)) (hw _ (List.mem_of_getElem? (i := 24) rfl)) (hw _ (List.mem_of_getElem? (i := 3) rfl)) (hw _ (List.mem_of_getElem? (i := 25) rfl)) (by decide) e2 (g := (mkF m 34 #[.val (.long x), .second, .val (.long r), .second, .val (.int i), .val (.int kk), .val (.int bb), .val (.int (1 : Int32))] [(.int bb)])) rfl (by rw [hml]; rfl) (lenOf pd_1 rfl) rfl (W := 0) (by show 2 * 0 + _ ≤ _; exact Nat.le_of_eq rfl) (hb hby d4_34) (by decide) (by decide) (by decide) (by decide)
    obtain ⟨rfl, rfl, e5⟩ := hQ5
    rw [List.append_nil] at X5
    refine GoOn.step st5 ?_
    show GoOn p e below _ (T5.setTop (mkF m 37 #[.val (.long x), .second, .val (.long r), .second, .val (.int i), .val (.int kk), .val (.int bb), .val (.int (1 : Int32))] [(.int (pV bb))]))
    by_cases c1 : (pV bb) = (0 : Int32)
    · refine GoOn.step (fun t₀ k₀ => XS.ifNo X5.here hx rfl (hb hby d4_37) rfl ((if0 _ _).trans (teq c1).2) k₀) ?_
      show GoOn p e below _ (T5.setTop (mkF m 40 #[.val (.long x), .second, .val (.long r), .second, .val (.int i), .val (.int kk), .val (.int bb), .val (.int (1 : Int32))] []))
      refine GoOn.step (fun t₀ k₀ => XS.iload X5.here hx rfl (hb hby d4_40) rfl k₀) ?_
      show GoOn p e below _ (T5.setTop (mkF m 42 #[.val (.long x), .second, .val (.long r), .second, .val (.int i), .val (.int kk), .val (.int bb), .val (.int (1 : Int32))] [(.int (1 : Int32))]))
      exact GoOn.retN X5 hx hrt hlk (by simp) (hb hby d4_42) (by decide) (by decide) (by first | exact ⟨by rw [okV, hbb, if_pos c1, if_neg cm]; rfl, rfl, rfl⟩ | (rw [e5]; exact ⟨by rw [okV, hbb, if_pos c1, if_neg cm]; rfl, rfl, rfl⟩))
    · refine GoOn.step (fun t₀ k₀ => XS.ifYes X5.here hx rfl (pc0 := 37) (pc' := 43) rfl (hb hby d4_37) rfl ((if0 _ _).trans (feq c1).2) (by decide) (by decide) k₀) ?_
      show GoOn p e below _ (T5.setTop (mkF m 43 #[.val (.long x), .second, .val (.long r), .second, .val (.int i), .val (.int kk), .val (.int bb), .val (.int (1 : Int32))] []))
      refine GoOn.step (fun t₀ k₀ => XS.iload X5.here hx rfl (hb hby d4_43) rfl k₀) ?_
      show GoOn p e below _ (T5.setTop (mkF m 45 #[.val (.long x), .second, .val (.long r), .second, .val (.int i), .val (.int kk), .val (.int bb), .val (.int (1 : Int32))] [(.int kk)]))
      by_cases c2 : kk = (0 : Int32)
      · refine GoOn.step (fun t₀ k₀ => XS.ifYes X5.here hx rfl (pc0 := 45) (pc' := 59) rfl (hb hby d4_45) rfl ((if0 _ _).trans (teq c2).1) (by decide) (by decide) k₀) ?_
        show GoOn p e below _ (T5.setTop (mkF m 59 #[.val (.long x), .second, .val (.long r), .second, .val (.int i), .val (.int kk), .val (.int bb), .val (.int (1 : Int32))] []))
        refine GoOn.step (fun t₀ k₀ => XS.iconst X5.here hx rfl (hb hby d4_59) k₀) ?_
        show GoOn p e below _ (T5.setTop (mkF m 60 #[.val (.long x), .second, .val (.long r), .second, .val (.int i), .val (.int kk), .val (.int bb), .val (.int (1 : Int32))] [(.int (1 : Int32))]))
        exact GoOn.retN X5 hx hrt hlk (by simp) (hb hby d4_60) (by decide) (by decide) (by first | exact ⟨by rw [okV, hbb, if_neg c1, if_pos c2]; rfl, rfl, rfl⟩ | (rw [e5]; exact ⟨by rw [okV, hbb, if_neg c1, if_pos c2]; rfl, rfl, rfl⟩))
      · refine GoOn.step (fun t₀ k₀ => XS.ifNo X5.here hx rfl (hb hby d4_45) rfl ((if0 _ _).trans (feq c2).1) k₀) ?_
        show GoOn p e below _ (T5.setTop (mkF m 48 #[.val (.long x), .second, .val (.long r), .second, .val (.int i), .val (.int kk), .val (.int bb), .val (.int (1 : Int32))] []))
        refine GoOn.step (fun t₀ k₀ => XS.iload X5.here hx rfl (hb hby d4_48) rfl k₀) ?_
        show GoOn p e below _ (T5.setTop (mkF m 50 #[.val (.long x), .second, .val (.long r), .second, .val (.int i), .val (.int kk), .val (.int bb), .val (.int (1 : Int32))] [(.int (1 : Int32))]))
        have hf6 : ¬ ((1 : Int32) = (0 : Int32)) := (by decide)
        refine GoOn.step (fun t₀ k₀ => XS.ifYes X5.here hx rfl (pc0 := 50) (pc' := 57) rfl (hb hby d4_50) rfl ((if0 _ _).trans (feq hf6).2) (by decide) (by decide) k₀) ?_
        show GoOn p e below _ (T5.setTop (mkF m 57 #[.val (.long x), .second, .val (.long r), .second, .val (.int i), .val (.int kk), .val (.int bb), .val (.int (1 : Int32))] []))
        refine GoOn.step (fun t₀ k₀ => XS.iconst X5.here hx rfl (hb hby d4_57) k₀) ?_
        show GoOn p e below _ (T5.setTop (mkF m 58 #[.val (.long x), .second, .val (.long r), .second, .val (.int i), .val (.int kk), .val (.int bb), .val (.int (1 : Int32))] [(.int (0 : Int32))]))
        exact GoOn.retN X5 hx hrt hlk (by simp) (hb hby d4_58) (by decide) (by decide) (by first | exact ⟨by rw [okV, hbb, if_neg c1, if_neg c2, if_neg cm]; rfl, rfl, rfl⟩ | (rw [e5]; exact ⟨by rw [okV, hbb, if_neg c1, if_neg c2, if_neg cm]; rfl, rfl, rfl⟩))
theorem ef_law_ok (m : MethodId) (x0 : Int64) (x1 : Int32) : entryFrame m #[(.long x0), (.int x1)] maxLocals = mkF m 0 #[.val (.long x0), .second, .val (.int x1), .unset, .unset, .unset, .unset, .unset, .unset, .unset, .unset, .unset, .unset, .unset, .unset, .unset] [] := by first | (simp [entryFrame, mkF, argsToLocals, Value.category, maxLocals]; done) | rfl
set_option maxRecDepth 65536 in
set_option maxHeartbeats 40000000 in
theorem law_ok (l : Launch) (Z : State) (a0 : Array Value) (hw : ∀ d ∈ tables_1, d.before a0 Z = true) (q0 : Int64) (q1 : Int32) (h0 : Heap) (n0 : Nat) (Z0 : n0 ≤ h0.size)  :
    Con l Z x code maxLocals ret room_1 #[(.long q0), (.int q1)] h0 (LQ n0) := by
  refine Con.intro (plainFor_of_name pn_0) ?_
  intro p e s m below meth c s₁ hx hby hml hrt hlk hZ hown hnm X0 e0
  replace hown : s.vm.findClass "com/example/austere_log/austerelog/http/ObjectBodyNotPlainPinLaw" = some m.cls := hown
  have N0 := Fr.nil n0
  refine GoOn.cast (ef_law_ok m q0 q1) ?_
  show GoOn p e below _ (s₁.setTop (mkF m 0 #[.val (.long q0), .second, .val (.int q1), .unset, .unset, .unset, .unset, .unset, .unset, .unset, .unset, .unset, .unset, .unset, .unset, .unset] []))
  refine GoOn.step (fun t₀ k₀ => XS.iloadN X0.here hx rfl (hb hby at_0) rfl k₀) ?_
  show GoOn p e below _ (s₁.setTop (mkF m 1 #[.val (.long q0), .second, .val (.int q1), .unset, .unset, .unset, .unset, .unset, .unset, .unset, .unset, .unset, .unset, .unset, .unset, .unset] [(.int q1)]))
  refine GoOn.step (fun t₀ k₀ => X0.ldcInt hx hown (mvT hZ (hw _ (List.mem_of_getElem? (i := 0) rfl))) (g := (mkF m 1 #[.val (.long q0), .second, .val (.int q1), .unset, .unset, .unset, .unset, .unset, .unset, .unset, .unset, .unset, .unset, .unset, .unset, .unset] [(.int q1)])) rfl (hb hby at_1) t₀ k₀) ?_
  show GoOn p e below _ (s₁.setTop (mkF m 3 #[.val (.long q0), .second, .val (.int q1), .unset, .unset, .unset, .unset, .unset, .unset, .unset, .unset, .unset, .unset, .unset, .unset, .unset] [(.int (2147483647 : Int32)), (.int q1)]))
  refine GoOn.step (fun t₀ k₀ => XS.iand X0.here hx rfl (hb hby at_3) rfl k₀) ?_
  show GoOn p e below _ (s₁.setTop (mkF m 4 #[.val (.long q0), .second, .val (.int q1), .unset, .unset, .unset, .unset, .unset, .unset, .unset, .unset, .unset, .unset, .unset, .unset, .unset] [(.int (q1 &&& (2147483647 : Int32)))]))
  refine GoOn.step (fun t₀ k₀ => XS.bipush X0.here hx rfl (hb hby at_4) k₀) ?_
  show GoOn p e below _ (s₁.setTop (mkF m 6 #[.val (.long q0), .second, .val (.int q1), .unset, .unset, .unset, .unset, .unset, .unset, .unset, .unset, .unset, .unset, .unset, .unset, .unset] [(.int (9 : Int32)), (.int (q1 &&& (2147483647 : Int32)))]))
  refine GoOn.step (fun t₀ k₀ => iremM X0 hx rfl (hb hby at_6) rfl (by decide) k₀) ?_
  show GoOn p e below _ (s₁.setTop (mkF m 7 #[.val (.long q0), .second, .val (.int q1), .unset, .unset, .unset, .unset, .unset, .unset, .unset, .unset, .unset, .unset, .unset, .unset, .unset] [(.int ((q1 &&& (2147483647 : Int32)) % (9 : Int32)))]))
  refine GoOn.step (fun t₀ k₀ => XS.istoreN X0.here hx rfl (hb hby at_7) rfl (l' := #[.val (.long q0), .second, .val (.int q1), .val (.int ((q1 &&& (2147483647 : Int32)) % (9 : Int32))), .unset, .unset, .unset, .unset, .unset, .unset, .unset, .unset, .unset, .unset, .unset, .unset]) rfl k₀) ?_
  show GoOn p e below _ (s₁.setTop (mkF m 8 #[.val (.long q0), .second, .val (.int q1), .val (.int ((q1 &&& (2147483647 : Int32)) % (9 : Int32))), .unset, .unset, .unset, .unset, .unset, .unset, .unset, .unset, .unset, .unset, .unset, .unset] []))
  refine GoOn.step (fun t₀ k₀ => XS.lloadN X0.here hx rfl (hb hby at_8) rfl k₀) ?_
  show GoOn p e below _ (s₁.setTop (mkF m 9 #[.val (.long q0), .second, .val (.int q1), .val (.int ((q1 &&& (2147483647 : Int32)) % (9 : Int32))), .unset, .unset, .unset, .unset, .unset, .unset, .unset, .unset, .unset, .unset, .unset, .unset] [(.long q0)]))
  refine GoOn.step (fun t₀ k₀ => XS.iconst X0.here hx rfl (hb hby at_9) k₀) ?_
  show GoOn p e below _ (s₁.setTop (mkF m 10 #[.val (.long q0), .second, .val (.int q1), .val (.int ((q1 &&& (2147483647 : Int32)) % (9 : Int32))), .unset, .unset, .unset, .unset, .unset, .unset, .unset, .unset, .unset, .unset, .unset, .unset] [(.int (0 : Int32)), (.long q0)]))
  obtain ⟨_, T7, L7, X7, hQ7, st7⟩ := kCallS X0 hx hZ (argsL := [(.long q0), (.int (0 : Int32))]) (rest := []) (c_pa l Z a0 hw q0 (0 : Int32) h0) hown (hw _ (List.mem_of_getElem? (i := 1) rfl)) (hw _ (List.mem_of_getElem? (i := 2) rfl)) (hw _ (List.mem_of_getElem? (i := 3) rfl)) (hw _ (List.mem_of_getElem? (i := 4) rfl)) (by decide) e0 (g := (mkF m 10 #[.val (.long q0), .second, .val (.int q1), .val (.int ((q1 &&& (2147483647 : Int32)) % (9 : Int32))), .unset, .unset, .unset, .unset, .unset, .unset, .unset, .unset, .unset, .unset, .unset, .unset] [(.int (0 : Int32)), (.long q0)])) rfl (by rw [hml]; rfl) (lenOf pd_2 rfl) rfl (W := 0) (by show 2 * 0 + _ ≤ _; exact Nat.le_of_eq rfl) (hb hby at_10) (by decide) (by decide) (by decide) (by decide)
  obtain ⟨z0, rfl, rfl, e7⟩ := hQ7
  rw [List.append_nil] at X7
  refine GoOn.step st7 ?_
  show GoOn p e below _ (T7.setTop (mkF m 13 #[.val (.long q0), .second, .val (.int q1), .val (.int ((q1 &&& (2147483647 : Int32)) % (9 : Int32))), .unset, .unset, .unset, .unset, .unset, .unset, .unset, .unset, .unset, .unset, .unset, .unset] [(.long z0)]))
  refine GoOn.step (fun t₀ k₀ => XS.lloadN X7.here hx rfl (hb hby at_13) rfl k₀) ?_
  show GoOn p e below _ (T7.setTop (mkF m 14 #[.val (.long q0), .second, .val (.int q1), .val (.int ((q1 &&& (2147483647 : Int32)) % (9 : Int32))), .unset, .unset, .unset, .unset, .unset, .unset, .unset, .unset, .unset, .unset, .unset, .unset] [(.long q0), (.long z0)]))
  refine GoOn.step (fun t₀ k₀ => XS.iconst X7.here hx rfl (hb hby at_14) k₀) ?_
  show GoOn p e below _ (T7.setTop (mkF m 15 #[.val (.long q0), .second, .val (.int q1), .val (.int ((q1 &&& (2147483647 : Int32)) % (9 : Int32))), .unset, .unset, .unset, .unset, .unset, .unset, .unset, .unset, .unset, .unset, .unset, .unset] [(.int (1 : Int32)), (.long q0), (.long z0)]))
  obtain ⟨_, T8, L8, X8, hQ8, st8⟩ := kCallS X7 hx hZ (argsL := [(.long q0), (.int (1 : Int32))]) (rest := [(.long z0)]) (c_pa l Z a0 hw q0 (1 : Int32) h0) hown (hw _ (List.mem_of_getElem? (i := 1) rfl)) (hw _ (List.mem_of_getElem? (i := 2) rfl)) (hw _ (List.mem_of_getElem? (i := 3) rfl)) (hw _ (List.mem_of_getElem? (i := 4) rfl)) (by decide) e7 (g := (mkF m 15 #[.val (.long q0), .second, .val (.int q1), .val (.int ((q1 &&& (2147483647 : Int32)) % (9 : Int32))), .unset, .unset, .unset, .unset, .unset, .unset, .unset, .unset, .unset, .unset, .unset, .unset] [(.int (1 : Int32)), (.long q0), (.long z0)])) rfl (by rw [hml]; rfl) (lenOf pd_2 rfl) rfl (W := 2) (by show 2 * 0 + _ ≤ _; exact Nat.le_of_eq rfl) (hb hby at_15) (by decide) (by decide) (by decide) (by decide)
  obtain ⟨z1, rfl, rfl, e8⟩ := hQ8
  rw [List.append_nil] at X8
  refine GoOn.step st8 ?_
  show GoOn p e below _ (T8.setTop (mkF m 18 #[.val (.long q0), .second, .val (.int q1), .val (.int ((q1 &&& (2147483647 : Int32)) % (9 : Int32))), .unset, .unset, .unset, .unset, .unset, .unset, .unset, .unset, .unset, .unset, .unset, .unset] [(.long z1), (.long z0)]))
  refine GoOn.step (fun t₀ k₀ => XS.lor X8.here hx rfl (hb hby at_18) rfl k₀) ?_
  show GoOn p e below _ (T8.setTop (mkF m 19 #[.val (.long q0), .second, .val (.int q1), .val (.int ((q1 &&& (2147483647 : Int32)) % (9 : Int32))), .unset, .unset, .unset, .unset, .unset, .unset, .unset, .unset, .unset, .unset, .unset, .unset] [(.long (z0 ||| z1))]))
  refine GoOn.step (fun t₀ k₀ => XS.lloadN X8.here hx rfl (hb hby at_19) rfl k₀) ?_
  show GoOn p e below _ (T8.setTop (mkF m 20 #[.val (.long q0), .second, .val (.int q1), .val (.int ((q1 &&& (2147483647 : Int32)) % (9 : Int32))), .unset, .unset, .unset, .unset, .unset, .unset, .unset, .unset, .unset, .unset, .unset, .unset] [(.long q0), (.long (z0 ||| z1))]))
  refine GoOn.step (fun t₀ k₀ => XS.iconst X8.here hx rfl (hb hby at_20) k₀) ?_
  show GoOn p e below _ (T8.setTop (mkF m 21 #[.val (.long q0), .second, .val (.int q1), .val (.int ((q1 &&& (2147483647 : Int32)) % (9 : Int32))), .unset, .unset, .unset, .unset, .unset, .unset, .unset, .unset, .unset, .unset, .unset, .unset] [(.int (2 : Int32)), (.long q0), (.long (z0 ||| z1))]))
  obtain ⟨_, T9, L9, X9, hQ9, st9⟩ := kCallS X8 hx hZ (argsL := [(.long q0), (.int (2 : Int32))]) (rest := [(.long (z0 ||| z1))]) (c_pa l Z a0 hw q0 (2 : Int32) h0) hown (hw _ (List.mem_of_getElem? (i := 1) rfl)) (hw _ (List.mem_of_getElem? (i := 2) rfl)) (hw _ (List.mem_of_getElem? (i := 3) rfl)) (hw _ (List.mem_of_getElem? (i := 4) rfl)) (by decide) e8 (g := (mkF m 21 #[.val (.long q0), .second, .val (.int q1), .val (.int ((q1 &&& (2147483647 : Int32)) % (9 : Int32))), .unset, .unset, .unset, .unset, .unset, .unset, .unset, .unset, .unset, .unset, .unset, .unset] [(.int (2 : Int32)), (.long q0), (.long (z0 ||| z1))])) rfl (by rw [hml]; rfl) (lenOf pd_2 rfl) rfl (W := 2) (by show 2 * 0 + _ ≤ _; exact Nat.le_of_eq rfl) (hb hby at_21) (by decide) (by decide) (by decide) (by decide)
  obtain ⟨z2, rfl, rfl, e9⟩ := hQ9
  rw [List.append_nil] at X9
  refine GoOn.step st9 ?_
  show GoOn p e below _ (T9.setTop (mkF m 24 #[.val (.long q0), .second, .val (.int q1), .val (.int ((q1 &&& (2147483647 : Int32)) % (9 : Int32))), .unset, .unset, .unset, .unset, .unset, .unset, .unset, .unset, .unset, .unset, .unset, .unset] [(.long z2), (.long (z0 ||| z1))]))
  refine GoOn.step (fun t₀ k₀ => XS.lor X9.here hx rfl (hb hby at_24) rfl k₀) ?_
  show GoOn p e below _ (T9.setTop (mkF m 25 #[.val (.long q0), .second, .val (.int q1), .val (.int ((q1 &&& (2147483647 : Int32)) % (9 : Int32))), .unset, .unset, .unset, .unset, .unset, .unset, .unset, .unset, .unset, .unset, .unset, .unset] [(.long ((z0 ||| z1) ||| z2))]))
  refine GoOn.step (fun t₀ k₀ => XS.lloadN X9.here hx rfl (hb hby at_25) rfl k₀) ?_
  show GoOn p e below _ (T9.setTop (mkF m 26 #[.val (.long q0), .second, .val (.int q1), .val (.int ((q1 &&& (2147483647 : Int32)) % (9 : Int32))), .unset, .unset, .unset, .unset, .unset, .unset, .unset, .unset, .unset, .unset, .unset, .unset] [(.long q0), (.long ((z0 ||| z1) ||| z2))]))
  refine GoOn.step (fun t₀ k₀ => XS.iconst X9.here hx rfl (hb hby at_26) k₀) ?_
  show GoOn p e below _ (T9.setTop (mkF m 27 #[.val (.long q0), .second, .val (.int q1), .val (.int ((q1 &&& (2147483647 : Int32)) % (9 : Int32))), .unset, .unset, .unset, .unset, .unset, .unset, .unset, .unset, .unset, .unset, .unset, .unset] [(.int (3 : Int32)), (.long q0), (.long ((z0 ||| z1) ||| z2))]))
  obtain ⟨_, T10, L10, X10, hQ10, st10⟩ := kCallS X9 hx hZ (argsL := [(.long q0), (.int (3 : Int32))]) (rest := [(.long ((z0 ||| z1) ||| z2))]) (c_pa l Z a0 hw q0 (3 : Int32) h0) hown (hw _ (List.mem_of_getElem? (i := 1) rfl)) (hw _ (List.mem_of_getElem? (i := 2) rfl)) (hw _ (List.mem_of_getElem? (i := 3) rfl)) (hw _ (List.mem_of_getElem? (i := 4) rfl)) (by decide) e9 (g := (mkF m 27 #[.val (.long q0), .second, .val (.int q1), .val (.int ((q1 &&& (2147483647 : Int32)) % (9 : Int32))), .unset, .unset, .unset, .unset, .unset, .unset, .unset, .unset, .unset, .unset, .unset, .unset] [(.int (3 : Int32)), (.long q0), (.long ((z0 ||| z1) ||| z2))])) rfl (by rw [hml]; rfl) (lenOf pd_2 rfl) rfl (W := 2) (by show 2 * 0 + _ ≤ _; exact Nat.le_of_eq rfl) (hb hby at_27) (by decide) (by decide) (by decide) (by decide)
  obtain ⟨z3, rfl, rfl, e10⟩ := hQ10
  rw [List.append_nil] at X10
  refine GoOn.step st10 ?_
  show GoOn p e below _ (T10.setTop (mkF m 30 #[.val (.long q0), .second, .val (.int q1), .val (.int ((q1 &&& (2147483647 : Int32)) % (9 : Int32))), .unset, .unset, .unset, .unset, .unset, .unset, .unset, .unset, .unset, .unset, .unset, .unset] [(.long z3), (.long ((z0 ||| z1) ||| z2))]))
  refine GoOn.step (fun t₀ k₀ => XS.lor X10.here hx rfl (hb hby at_30) rfl k₀) ?_
  show GoOn p e below _ (T10.setTop (mkF m 31 #[.val (.long q0), .second, .val (.int q1), .val (.int ((q1 &&& (2147483647 : Int32)) % (9 : Int32))), .unset, .unset, .unset, .unset, .unset, .unset, .unset, .unset, .unset, .unset, .unset, .unset] [(.long (((z0 ||| z1) ||| z2) ||| z3))]))
  refine GoOn.step (fun t₀ k₀ => XS.lloadN X10.here hx rfl (hb hby at_31) rfl k₀) ?_
  show GoOn p e below _ (T10.setTop (mkF m 32 #[.val (.long q0), .second, .val (.int q1), .val (.int ((q1 &&& (2147483647 : Int32)) % (9 : Int32))), .unset, .unset, .unset, .unset, .unset, .unset, .unset, .unset, .unset, .unset, .unset, .unset] [(.long q0), (.long (((z0 ||| z1) ||| z2) ||| z3))]))
  refine GoOn.step (fun t₀ k₀ => XS.iconst X10.here hx rfl (hb hby at_32) k₀) ?_
  show GoOn p e below _ (T10.setTop (mkF m 33 #[.val (.long q0), .second, .val (.int q1), .val (.int ((q1 &&& (2147483647 : Int32)) % (9 : Int32))), .unset, .unset, .unset, .unset, .unset, .unset, .unset, .unset, .unset, .unset, .unset, .unset] [(.int (4 : Int32)), (.long q0), (.long (((z0 ||| z1) ||| z2) ||| z3))]))
  obtain ⟨_, T11, L11, X11, hQ11, st11⟩ := kCallS X10 hx hZ (argsL := [(.long q0), (.int (4 : Int32))]) (rest := [(.long (((z0 ||| z1) ||| z2) ||| z3))]) (c_pa l Z a0 hw q0 (4 : Int32) h0) hown (hw _ (List.mem_of_getElem? (i := 1) rfl)) (hw _ (List.mem_of_getElem? (i := 2) rfl)) (hw _ (List.mem_of_getElem? (i := 3) rfl)) (hw _ (List.mem_of_getElem? (i := 4) rfl)) (by decide) e10 (g := (mkF m 33 #[.val (.long q0), .second, .val (.int q1), .val (.int ((q1 &&& (2147483647 : Int32)) % (9 : Int32))), .unset, .unset, .unset, .unset, .unset, .unset, .unset, .unset, .unset, .unset, .unset, .unset] [(.int (4 : Int32)), (.long q0), (.long (((z0 ||| z1) ||| z2) ||| z3))])) rfl (by rw [hml]; rfl) (lenOf pd_2 rfl) rfl (W := 2) (by show 2 * 0 + _ ≤ _; exact Nat.le_of_eq rfl) (hb hby at_33) (by decide) (by decide) (by decide) (by decide)
  obtain ⟨z4, rfl, rfl, e11⟩ := hQ11
  rw [List.append_nil] at X11
  refine GoOn.step st11 ?_
  show GoOn p e below _ (T11.setTop (mkF m 36 #[.val (.long q0), .second, .val (.int q1), .val (.int ((q1 &&& (2147483647 : Int32)) % (9 : Int32))), .unset, .unset, .unset, .unset, .unset, .unset, .unset, .unset, .unset, .unset, .unset, .unset] [(.long z4), (.long (((z0 ||| z1) ||| z2) ||| z3))]))
  refine GoOn.step (fun t₀ k₀ => XS.lor X11.here hx rfl (hb hby at_36) rfl k₀) ?_
  show GoOn p e below _ (T11.setTop (mkF m 37 #[.val (.long q0), .second, .val (.int q1), .val (.int ((q1 &&& (2147483647 : Int32)) % (9 : Int32))), .unset, .unset, .unset, .unset, .unset, .unset, .unset, .unset, .unset, .unset, .unset, .unset] [(.long ((((z0 ||| z1) ||| z2) ||| z3) ||| z4))]))
  refine GoOn.step (fun t₀ k₀ => XS.lloadN X11.here hx rfl (hb hby at_37) rfl k₀) ?_
  show GoOn p e below _ (T11.setTop (mkF m 38 #[.val (.long q0), .second, .val (.int q1), .val (.int ((q1 &&& (2147483647 : Int32)) % (9 : Int32))), .unset, .unset, .unset, .unset, .unset, .unset, .unset, .unset, .unset, .unset, .unset, .unset] [(.long q0), (.long ((((z0 ||| z1) ||| z2) ||| z3) ||| z4))]))
  refine GoOn.step (fun t₀ k₀ => XS.iconst X11.here hx rfl (hb hby at_38) k₀) ?_
  show GoOn p e below _ (T11.setTop (mkF m 39 #[.val (.long q0), .second, .val (.int q1), .val (.int ((q1 &&& (2147483647 : Int32)) % (9 : Int32))), .unset, .unset, .unset, .unset, .unset, .unset, .unset, .unset, .unset, .unset, .unset, .unset] [(.int (5 : Int32)), (.long q0), (.long ((((z0 ||| z1) ||| z2) ||| z3) ||| z4))]))
  obtain ⟨_, T12, L12, X12, hQ12, st12⟩ := kCallS X11 hx hZ (argsL := [(.long q0), (.int (5 : Int32))]) (rest := [(.long ((((z0 ||| z1) ||| z2) ||| z3) ||| z4))]) (c_pa l Z a0 hw q0 (5 : Int32) h0) hown (hw _ (List.mem_of_getElem? (i := 1) rfl)) (hw _ (List.mem_of_getElem? (i := 2) rfl)) (hw _ (List.mem_of_getElem? (i := 3) rfl)) (hw _ (List.mem_of_getElem? (i := 4) rfl)) (by decide) e11 (g := (mkF m 39 #[.val (.long q0), .second, .val (.int q1), .val (.int ((q1 &&& (2147483647 : Int32)) % (9 : Int32))), .unset, .unset, .unset, .unset, .unset, .unset, .unset, .unset, .unset, .unset, .unset, .unset] [(.int (5 : Int32)), (.long q0), (.long ((((z0 ||| z1) ||| z2) ||| z3) ||| z4))])) rfl (by rw [hml]; rfl) (lenOf pd_2 rfl) rfl (W := 2) (by show 2 * 0 + _ ≤ _; exact Nat.le_of_eq rfl) (hb hby at_39) (by decide) (by decide) (by decide) (by decide)
  obtain ⟨z5, rfl, rfl, e12⟩ := hQ12
  rw [List.append_nil] at X12
  refine GoOn.step st12 ?_
  show GoOn p e below _ (T12.setTop (mkF m 42 #[.val (.long q0), .second, .val (.int q1), .val (.int ((q1 &&& (2147483647 : Int32)) % (9 : Int32))), .unset, .unset, .unset, .unset, .unset, .unset, .unset, .unset, .unset, .unset, .unset, .unset] [(.long z5), (.long ((((z0 ||| z1) ||| z2) ||| z3) ||| z4))]))
  refine GoOn.step (fun t₀ k₀ => XS.lor X12.here hx rfl (hb hby at_42) rfl k₀) ?_
  show GoOn p e below _ (T12.setTop (mkF m 43 #[.val (.long q0), .second, .val (.int q1), .val (.int ((q1 &&& (2147483647 : Int32)) % (9 : Int32))), .unset, .unset, .unset, .unset, .unset, .unset, .unset, .unset, .unset, .unset, .unset, .unset] [(.long (((((z0 ||| z1) ||| z2) ||| z3) ||| z4) ||| z5))]))
  refine GoOn.step (fun t₀ k₀ => XS.lloadN X12.here hx rfl (hb hby at_43) rfl k₀) ?_
  show GoOn p e below _ (T12.setTop (mkF m 44 #[.val (.long q0), .second, .val (.int q1), .val (.int ((q1 &&& (2147483647 : Int32)) % (9 : Int32))), .unset, .unset, .unset, .unset, .unset, .unset, .unset, .unset, .unset, .unset, .unset, .unset] [(.long q0), (.long (((((z0 ||| z1) ||| z2) ||| z3) ||| z4) ||| z5))]))
  refine GoOn.step (fun t₀ k₀ => XS.bipush X12.here hx rfl (hb hby at_44) k₀) ?_
  show GoOn p e below _ (T12.setTop (mkF m 46 #[.val (.long q0), .second, .val (.int q1), .val (.int ((q1 &&& (2147483647 : Int32)) % (9 : Int32))), .unset, .unset, .unset, .unset, .unset, .unset, .unset, .unset, .unset, .unset, .unset, .unset] [(.int (6 : Int32)), (.long q0), (.long (((((z0 ||| z1) ||| z2) ||| z3) ||| z4) ||| z5))]))
  obtain ⟨_, T13, L13, X13, hQ13, st13⟩ := kCallS X12 hx hZ (argsL := [(.long q0), (.int (6 : Int32))]) (rest := [(.long (((((z0 ||| z1) ||| z2) ||| z3) ||| z4) ||| z5))]) (c_pa l Z a0 hw q0 (6 : Int32) h0) hown (hw _ (List.mem_of_getElem? (i := 1) rfl)) (hw _ (List.mem_of_getElem? (i := 2) rfl)) (hw _ (List.mem_of_getElem? (i := 3) rfl)) (hw _ (List.mem_of_getElem? (i := 4) rfl)) (by decide) e12 (g := (mkF m 46 #[.val (.long q0), .second, .val (.int q1), .val (.int ((q1 &&& (2147483647 : Int32)) % (9 : Int32))), .unset, .unset, .unset, .unset, .unset, .unset, .unset, .unset, .unset, .unset, .unset, .unset] [(.int (6 : Int32)), (.long q0), (.long (((((z0 ||| z1) ||| z2) ||| z3) ||| z4) ||| z5))])) rfl (by rw [hml]; rfl) (lenOf pd_2 rfl) rfl (W := 2) (by show 2 * 0 + _ ≤ _; exact Nat.le_of_eq rfl) (hb hby at_46) (by decide) (by decide) (by decide) (by decide)
  obtain ⟨z6, rfl, rfl, e13⟩ := hQ13
  rw [List.append_nil] at X13
  refine GoOn.step st13 ?_
  show GoOn p e below _ (T13.setTop (mkF m 49 #[.val (.long q0), .second, .val (.int q1), .val (.int ((q1 &&& (2147483647 : Int32)) % (9 : Int32))), .unset, .unset, .unset, .unset, .unset, .unset, .unset, .unset, .unset, .unset, .unset, .unset] [(.long z6), (.long (((((z0 ||| z1) ||| z2) ||| z3) ||| z4) ||| z5))]))
  refine GoOn.step (fun t₀ k₀ => XS.lor X13.here hx rfl (hb hby at_49) rfl k₀) ?_
  show GoOn p e below _ (T13.setTop (mkF m 50 #[.val (.long q0), .second, .val (.int q1), .val (.int ((q1 &&& (2147483647 : Int32)) % (9 : Int32))), .unset, .unset, .unset, .unset, .unset, .unset, .unset, .unset, .unset, .unset, .unset, .unset] [(.long ((((((z0 ||| z1) ||| z2) ||| z3) ||| z4) ||| z5) ||| z6))]))
  refine GoOn.step (fun t₀ k₀ => XS.lloadN X13.here hx rfl (hb hby at_50) rfl k₀) ?_
  show GoOn p e below _ (T13.setTop (mkF m 51 #[.val (.long q0), .second, .val (.int q1), .val (.int ((q1 &&& (2147483647 : Int32)) % (9 : Int32))), .unset, .unset, .unset, .unset, .unset, .unset, .unset, .unset, .unset, .unset, .unset, .unset] [(.long q0), (.long ((((((z0 ||| z1) ||| z2) ||| z3) ||| z4) ||| z5) ||| z6))]))
  refine GoOn.step (fun t₀ k₀ => XS.bipush X13.here hx rfl (hb hby at_51) k₀) ?_
  show GoOn p e below _ (T13.setTop (mkF m 53 #[.val (.long q0), .second, .val (.int q1), .val (.int ((q1 &&& (2147483647 : Int32)) % (9 : Int32))), .unset, .unset, .unset, .unset, .unset, .unset, .unset, .unset, .unset, .unset, .unset, .unset] [(.int (7 : Int32)), (.long q0), (.long ((((((z0 ||| z1) ||| z2) ||| z3) ||| z4) ||| z5) ||| z6))]))
  obtain ⟨_, T14, L14, X14, hQ14, st14⟩ := kCallS X13 hx hZ (argsL := [(.long q0), (.int (7 : Int32))]) (rest := [(.long ((((((z0 ||| z1) ||| z2) ||| z3) ||| z4) ||| z5) ||| z6))]) (c_pa l Z a0 hw q0 (7 : Int32) h0) hown (hw _ (List.mem_of_getElem? (i := 1) rfl)) (hw _ (List.mem_of_getElem? (i := 2) rfl)) (hw _ (List.mem_of_getElem? (i := 3) rfl)) (hw _ (List.mem_of_getElem? (i := 4) rfl)) (by decide) e13 (g := (mkF m 53 #[.val (.long q0), .second, .val (.int q1), .val (.int ((q1 &&& (2147483647 : Int32)) % (9 : Int32))), .unset, .unset, .unset, .unset, .unset, .unset, .unset, .unset, .unset, .unset, .unset, .unset] [(.int (7 : Int32)), (.long q0), (.long ((((((z0 ||| z1) ||| z2) ||| z3) ||| z4) ||| z5) ||| z6))])) rfl (by rw [hml]; rfl) (lenOf pd_2 rfl) rfl (W := 2) (by show 2 * 0 + _ ≤ _; exact Nat.le_of_eq rfl) (hb hby at_53) (by decide) (by decide) (by decide) (by decide)
  obtain ⟨z7, rfl, rfl, e14⟩ := hQ14
  rw [List.append_nil] at X14
  refine GoOn.step st14 ?_
  show GoOn p e below _ (T14.setTop (mkF m 56 #[.val (.long q0), .second, .val (.int q1), .val (.int ((q1 &&& (2147483647 : Int32)) % (9 : Int32))), .unset, .unset, .unset, .unset, .unset, .unset, .unset, .unset, .unset, .unset, .unset, .unset] [(.long z7), (.long ((((((z0 ||| z1) ||| z2) ||| z3) ||| z4) ||| z5) ||| z6))]))
  refine GoOn.step (fun t₀ k₀ => XS.lor X14.here hx rfl (hb hby at_56) rfl k₀) ?_
  show GoOn p e below _ (T14.setTop (mkF m 57 #[.val (.long q0), .second, .val (.int q1), .val (.int ((q1 &&& (2147483647 : Int32)) % (9 : Int32))), .unset, .unset, .unset, .unset, .unset, .unset, .unset, .unset, .unset, .unset, .unset, .unset] [(.long (((((((z0 ||| z1) ||| z2) ||| z3) ||| z4) ||| z5) ||| z6) ||| z7))]))
  refine GoOn.step (fun t₀ k₀ => XS.lstore X14.here hx rfl (hb hby at_57) rfl (l' := #[.val (.long q0), .second, .val (.int q1), .val (.int ((q1 &&& (2147483647 : Int32)) % (9 : Int32))), .val (.long (((((((z0 ||| z1) ||| z2) ||| z3) ||| z4) ||| z5) ||| z6) ||| z7)), .second, .unset, .unset, .unset, .unset, .unset, .unset, .unset, .unset, .unset, .unset]) rfl k₀) ?_
  show GoOn p e below _ (T14.setTop (mkF m 59 #[.val (.long q0), .second, .val (.int q1), .val (.int ((q1 &&& (2147483647 : Int32)) % (9 : Int32))), .val (.long (((((((z0 ||| z1) ||| z2) ||| z3) ||| z4) ||| z5) ||| z6) ||| z7)), .second, .unset, .unset, .unset, .unset, .unset, .unset, .unset, .unset, .unset, .unset] []))
  refine GoOn.step (fun t₀ k₀ => XS.iloadN X14.here hx rfl (hb hby at_59) rfl k₀) ?_
  show GoOn p e below _ (T14.setTop (mkF m 60 #[.val (.long q0), .second, .val (.int q1), .val (.int ((q1 &&& (2147483647 : Int32)) % (9 : Int32))), .val (.long (((((((z0 ||| z1) ||| z2) ||| z3) ||| z4) ||| z5) ||| z6) ||| z7)), .second, .unset, .unset, .unset, .unset, .unset, .unset, .unset, .unset, .unset, .unset] [(.int ((q1 &&& (2147483647 : Int32)) % (9 : Int32)))]))
  have J : ∀ (mk : Int64), GoOn p e below (EndQ s room_1 (LQ n0)) (T14.setTop (mkF m 93 #[.val (.long q0), .second, .val (.int q1), .val (.int ((q1 &&& (2147483647 : Int32)) % (9 : Int32))), .val (.long (((((((z0 ||| z1) ||| z2) ||| z3) ||| z4) ||| z5) ||| z6) ||| z7)), .second, .val (.long mk), .second, .unset, .unset, .unset, .unset, .unset, .unset, .unset, .unset] [])) := by
    intro mk
    refine GoOn.step (fun t₀ k₀ => XS.lload X14.here hx rfl (hb hby at_93) rfl k₀) ?_
    show GoOn p e below _ (T14.setTop (mkF m 95 #[.val (.long q0), .second, .val (.int q1), .val (.int ((q1 &&& (2147483647 : Int32)) % (9 : Int32))), .val (.long (((((((z0 ||| z1) ||| z2) ||| z3) ||| z4) ||| z5) ||| z6) ||| z7)), .second, .val (.long mk), .second, .unset, .unset, .unset, .unset, .unset, .unset, .unset, .unset] [(.long (((((((z0 ||| z1) ||| z2) ||| z3) ||| z4) ||| z5) ||| z6) ||| z7))]))
    refine GoOn.step (fun t₀ k₀ => XS.lload X14.here hx rfl (hb hby at_95) rfl k₀) ?_
    show GoOn p e below _ (T14.setTop (mkF m 97 #[.val (.long q0), .second, .val (.int q1), .val (.int ((q1 &&& (2147483647 : Int32)) % (9 : Int32))), .val (.long (((((((z0 ||| z1) ||| z2) ||| z3) ||| z4) ||| z5) ||| z6) ||| z7)), .second, .val (.long mk), .second, .unset, .unset, .unset, .unset, .unset, .unset, .unset, .unset] [(.long mk), (.long (((((((z0 ||| z1) ||| z2) ||| z3) ||| z4) ||| z5) ||| z6) ||| z7))]))
    refine GoOn.step (fun t₀ k₀ => XS.land X14.here hx rfl (hb hby at_97) rfl k₀) ?_
    show GoOn p e below _ (T14.setTop (mkF m 98 #[.val (.long q0), .second, .val (.int q1), .val (.int ((q1 &&& (2147483647 : Int32)) % (9 : Int32))), .val (.long (((((((z0 ||| z1) ||| z2) ||| z3) ||| z4) ||| z5) ||| z6) ||| z7)), .second, .val (.long mk), .second, .unset, .unset, .unset, .unset, .unset, .unset, .unset, .unset] [(.long ((((((((z0 ||| z1) ||| z2) ||| z3) ||| z4) ||| z5) ||| z6) ||| z7) &&& mk))]))
    refine GoOn.step (fun t₀ k₀ => XS.lloadN X14.here hx rfl (hb hby at_98) rfl k₀) ?_
    show GoOn p e below _ (T14.setTop (mkF m 99 #[.val (.long q0), .second, .val (.int q1), .val (.int ((q1 &&& (2147483647 : Int32)) % (9 : Int32))), .val (.long (((((((z0 ||| z1) ||| z2) ||| z3) ||| z4) ||| z5) ||| z6) ||| z7)), .second, .val (.long mk), .second, .unset, .unset, .unset, .unset, .unset, .unset, .unset, .unset] [(.long q0), (.long ((((((((z0 ||| z1) ||| z2) ||| z3) ||| z4) ||| z5) ||| z6) ||| z7) &&& mk))]))
    refine GoOn.step (fun t₀ k₀ => XS.lload X14.here hx rfl (hb hby at_99) rfl k₀) ?_
    show GoOn p e below _ (T14.setTop (mkF m 101 #[.val (.long q0), .second, .val (.int q1), .val (.int ((q1 &&& (2147483647 : Int32)) % (9 : Int32))), .val (.long (((((((z0 ||| z1) ||| z2) ||| z3) ||| z4) ||| z5) ||| z6) ||| z7)), .second, .val (.long mk), .second, .unset, .unset, .unset, .unset, .unset, .unset, .unset, .unset] [(.long mk), (.long q0), (.long ((((((((z0 ||| z1) ||| z2) ||| z3) ||| z4) ||| z5) ||| z6) ||| z7) &&& mk))]))
    refine GoOn.step (fun t₀ k₀ => X14.ldc2Long hx hown (mvT hZ (hw _ (List.mem_of_getElem? (i := 9) rfl))) (g := (mkF m 101 #[.val (.long q0), .second, .val (.int q1), .val (.int ((q1 &&& (2147483647 : Int32)) % (9 : Int32))), .val (.long (((((((z0 ||| z1) ||| z2) ||| z3) ||| z4) ||| z5) ||| z6) ||| z7)), .second, .val (.long mk), .second, .unset, .unset, .unset, .unset, .unset, .unset, .unset, .unset] [(.long mk), (.long q0), (.long ((((((((z0 ||| z1) ||| z2) ||| z3) ||| z4) ||| z5) ||| z6) ||| z7) &&& mk))])) rfl (hb hby at_101) t₀ k₀) ?_
    show GoOn p e below _ (T14.setTop (mkF m 104 #[.val (.long q0), .second, .val (.int q1), .val (.int ((q1 &&& (2147483647 : Int32)) % (9 : Int32))), .val (.long (((((((z0 ||| z1) ||| z2) ||| z3) ||| z4) ||| z5) ||| z6) ||| z7)), .second, .val (.long mk), .second, .unset, .unset, .unset, .unset, .unset, .unset, .unset, .unset] [(.long (-1 : Int64)), (.long mk), (.long q0), (.long ((((((((z0 ||| z1) ||| z2) ||| z3) ||| z4) ||| z5) ||| z6) ||| z7) &&& mk))]))
    refine GoOn.step (fun t₀ k₀ => XS.lxor X14.here hx rfl (hb hby at_104) rfl k₀) ?_
    show GoOn p e below _ (T14.setTop (mkF m 105 #[.val (.long q0), .second, .val (.int q1), .val (.int ((q1 &&& (2147483647 : Int32)) % (9 : Int32))), .val (.long (((((((z0 ||| z1) ||| z2) ||| z3) ||| z4) ||| z5) ||| z6) ||| z7)), .second, .val (.long mk), .second, .unset, .unset, .unset, .unset, .unset, .unset, .unset, .unset] [(.long (mk ^^^ (-1 : Int64))), (.long q0), (.long ((((((((z0 ||| z1) ||| z2) ||| z3) ||| z4) ||| z5) ||| z6) ||| z7) &&& mk))]))
    refine GoOn.step (fun t₀ k₀ => XS.land X14.here hx rfl (hb hby at_105) rfl k₀) ?_
    show GoOn p e below _ (T14.setTop (mkF m 106 #[.val (.long q0), .second, .val (.int q1), .val (.int ((q1 &&& (2147483647 : Int32)) % (9 : Int32))), .val (.long (((((((z0 ||| z1) ||| z2) ||| z3) ||| z4) ||| z5) ||| z6) ||| z7)), .second, .val (.long mk), .second, .unset, .unset, .unset, .unset, .unset, .unset, .unset, .unset] [(.long (q0 &&& (mk ^^^ (-1 : Int64)))), (.long ((((((((z0 ||| z1) ||| z2) ||| z3) ||| z4) ||| z5) ||| z6) ||| z7) &&& mk))]))
    refine GoOn.step (fun t₀ k₀ => XS.lor X14.here hx rfl (hb hby at_106) rfl k₀) ?_
    show GoOn p e below _ (T14.setTop (mkF m 107 #[.val (.long q0), .second, .val (.int q1), .val (.int ((q1 &&& (2147483647 : Int32)) % (9 : Int32))), .val (.long (((((((z0 ||| z1) ||| z2) ||| z3) ||| z4) ||| z5) ||| z6) ||| z7)), .second, .val (.long mk), .second, .unset, .unset, .unset, .unset, .unset, .unset, .unset, .unset] [(.long (((((((((z0 ||| z1) ||| z2) ||| z3) ||| z4) ||| z5) ||| z6) ||| z7) &&& mk) ||| (q0 &&& (mk ^^^ (-1 : Int64)))))]))
    generalize hx0 : (((((((((z0 ||| z1) ||| z2) ||| z3) ||| z4) ||| z5) ||| z6) ||| z7) &&& mk) ||| (q0 &&& (mk ^^^ (-1 : Int64)))) = x
    have hx0I := congrArg Int64.toInt hx0
    refine GoOn.step (fun t₀ k₀ => XS.lstore X14.here hx rfl (hb hby at_107) rfl (l' := #[.val (.long q0), .second, .val (.int q1), .val (.int ((q1 &&& (2147483647 : Int32)) % (9 : Int32))), .val (.long (((((((z0 ||| z1) ||| z2) ||| z3) ||| z4) ||| z5) ||| z6) ||| z7)), .second, .val (.long mk), .second, .val (.long x), .second, .unset, .unset, .unset, .unset, .unset, .unset]) rfl k₀) ?_
    show GoOn p e below _ (T14.setTop (mkF m 109 #[.val (.long q0), .second, .val (.int q1), .val (.int ((q1 &&& (2147483647 : Int32)) % (9 : Int32))), .val (.long (((((((z0 ||| z1) ||| z2) ||| z3) ||| z4) ||| z5) ||| z6) ||| z7)), .second, .val (.long mk), .second, .val (.long x), .second, .unset, .unset, .unset, .unset, .unset, .unset] []))
    refine GoOn.step (fun t₀ k₀ => XS.lload X14.here hx rfl (hb hby at_109) rfl k₀) ?_
    show GoOn p e below _ (T14.setTop (mkF m 111 #[.val (.long q0), .second, .val (.int q1), .val (.int ((q1 &&& (2147483647 : Int32)) % (9 : Int32))), .val (.long (((((((z0 ||| z1) ||| z2) ||| z3) ||| z4) ||| z5) ||| z6) ||| z7)), .second, .val (.long mk), .second, .val (.long x), .second, .unset, .unset, .unset, .unset, .unset, .unset] [(.long x)]))
    obtain ⟨_, T15, L15, X15, hQ15, st15⟩ := kCallS X14 hx hZ (argsL := [(.long x)]) (rest := []) (c_np l Z a0 hw x h0) hown (hw _ (List.mem_of_getElem? (i := 10) rfl)) (hw _ (List.mem_of_getElem? (i := 11) rfl)) (hw _ (List.mem_of_getElem? (i := 12) rfl)) (hw _ (List.mem_of_getElem? (i := 13) rfl)) (by decide) e14 (g := (mkF m 111 #[.val (.long q0), .second, .val (.int q1), .val (.int ((q1 &&& (2147483647 : Int32)) % (9 : Int32))), .val (.long (((((((z0 ||| z1) ||| z2) ||| z3) ||| z4) ||| z5) ||| z6) ||| z7)), .second, .val (.long mk), .second, .val (.long x), .second, .unset, .unset, .unset, .unset, .unset, .unset] [(.long x)])) rfl (by rw [hml]; rfl) (lenOf pd_3 rfl) rfl (W := 0) (by show 2 * 0 + _ ≤ _; exact Nat.le_of_eq rfl) (hb hby at_111) (by decide) (by decide) (by decide) (by decide)
    obtain ⟨rfl, rfl, e15⟩ := hQ15
    rw [List.append_nil] at X15
    refine GoOn.step st15 ?_
    show GoOn p e below _ (T15.setTop (mkF m 114 #[.val (.long q0), .second, .val (.int q1), .val (.int ((q1 &&& (2147483647 : Int32)) % (9 : Int32))), .val (.long (((((((z0 ||| z1) ||| z2) ||| z3) ||| z4) ||| z5) ||| z6) ||| z7)), .second, .val (.long mk), .second, .val (.long x), .second, .unset, .unset, .unset, .unset, .unset, .unset] [(.long (npV x))]))
    generalize hr : (npV x) = r
    have hrI := congrArg Int64.toInt hr
    refine GoOn.step (fun t₀ k₀ => XS.lstore X15.here hx rfl (hb hby at_114) rfl (l' := #[.val (.long q0), .second, .val (.int q1), .val (.int ((q1 &&& (2147483647 : Int32)) % (9 : Int32))), .val (.long (((((((z0 ||| z1) ||| z2) ||| z3) ||| z4) ||| z5) ||| z6) ||| z7)), .second, .val (.long mk), .second, .val (.long x), .second, .val (.long r), .second, .unset, .unset, .unset, .unset]) rfl k₀) ?_
    show GoOn p e below _ (T15.setTop (mkF m 116 #[.val (.long q0), .second, .val (.int q1), .val (.int ((q1 &&& (2147483647 : Int32)) % (9 : Int32))), .val (.long (((((((z0 ||| z1) ||| z2) ||| z3) ||| z4) ||| z5) ||| z6) ||| z7)), .second, .val (.long mk), .second, .val (.long x), .second, .val (.long r), .second, .unset, .unset, .unset, .unset] []))
    refine GoOn.step (fun t₀ k₀ => X15.ldc2Long hx hown (mvT hZ (hw _ (List.mem_of_getElem? (i := 19) rfl))) (g := (mkF m 116 #[.val (.long q0), .second, .val (.int q1), .val (.int ((q1 &&& (2147483647 : Int32)) % (9 : Int32))), .val (.long (((((((z0 ||| z1) ||| z2) ||| z3) ||| z4) ||| z5) ||| z6) ||| z7)), .second, .val (.long mk), .second, .val (.long x), .second, .val (.long r), .second, .unset, .unset, .unset, .unset] [])) rfl (hb hby at_116) t₀ k₀) ?_
    show GoOn p e below _ (T15.setTop (mkF m 119 #[.val (.long q0), .second, .val (.int q1), .val (.int ((q1 &&& (2147483647 : Int32)) % (9 : Int32))), .val (.long (((((((z0 ||| z1) ||| z2) ||| z3) ||| z4) ||| z5) ||| z6) ||| z7)), .second, .val (.long mk), .second, .val (.long x), .second, .val (.long r), .second, .unset, .unset, .unset, .unset] [(.long (-9187201950435737472 : Int64))]))
    refine GoOn.step (fun t₀ k₀ => XS.lstore X15.here hx rfl (hb hby at_119) rfl (l' := #[.val (.long q0), .second, .val (.int q1), .val (.int ((q1 &&& (2147483647 : Int32)) % (9 : Int32))), .val (.long (((((((z0 ||| z1) ||| z2) ||| z3) ||| z4) ||| z5) ||| z6) ||| z7)), .second, .val (.long mk), .second, .val (.long x), .second, .val (.long r), .second, .val (.long (-9187201950435737472 : Int64)), .second, .unset, .unset]) rfl k₀) ?_
    show GoOn p e below _ (T15.setTop (mkF m 121 #[.val (.long q0), .second, .val (.int q1), .val (.int ((q1 &&& (2147483647 : Int32)) % (9 : Int32))), .val (.long (((((((z0 ||| z1) ||| z2) ||| z3) ||| z4) ||| z5) ||| z6) ||| z7)), .second, .val (.long mk), .second, .val (.long x), .second, .val (.long r), .second, .val (.long (-9187201950435737472 : Int64)), .second, .unset, .unset] []))
    refine GoOn.step (fun t₀ k₀ => XS.lload X15.here hx rfl (hb hby at_121) rfl k₀) ?_
    show GoOn p e below _ (T15.setTop (mkF m 123 #[.val (.long q0), .second, .val (.int q1), .val (.int ((q1 &&& (2147483647 : Int32)) % (9 : Int32))), .val (.long (((((((z0 ||| z1) ||| z2) ||| z3) ||| z4) ||| z5) ||| z6) ||| z7)), .second, .val (.long mk), .second, .val (.long x), .second, .val (.long r), .second, .val (.long (-9187201950435737472 : Int64)), .second, .unset, .unset] [(.long r)]))
    refine GoOn.step (fun t₀ k₀ => XS.lload X15.here hx rfl (hb hby at_123) rfl k₀) ?_
    show GoOn p e below _ (T15.setTop (mkF m 125 #[.val (.long q0), .second, .val (.int q1), .val (.int ((q1 &&& (2147483647 : Int32)) % (9 : Int32))), .val (.long (((((((z0 ||| z1) ||| z2) ||| z3) ||| z4) ||| z5) ||| z6) ||| z7)), .second, .val (.long mk), .second, .val (.long x), .second, .val (.long r), .second, .val (.long (-9187201950435737472 : Int64)), .second, .unset, .unset] [(.long (-9187201950435737472 : Int64)), (.long r)]))
    refine GoOn.step (fun t₀ k₀ => X15.ldc2Long hx hown (mvT hZ (hw _ (List.mem_of_getElem? (i := 9) rfl))) (g := (mkF m 125 #[.val (.long q0), .second, .val (.int q1), .val (.int ((q1 &&& (2147483647 : Int32)) % (9 : Int32))), .val (.long (((((((z0 ||| z1) ||| z2) ||| z3) ||| z4) ||| z5) ||| z6) ||| z7)), .second, .val (.long mk), .second, .val (.long x), .second, .val (.long r), .second, .val (.long (-9187201950435737472 : Int64)), .second, .unset, .unset] [(.long (-9187201950435737472 : Int64)), (.long r)])) rfl (hb hby at_125) t₀ k₀) ?_
    show GoOn p e below _ (T15.setTop (mkF m 128 #[.val (.long q0), .second, .val (.int q1), .val (.int ((q1 &&& (2147483647 : Int32)) % (9 : Int32))), .val (.long (((((((z0 ||| z1) ||| z2) ||| z3) ||| z4) ||| z5) ||| z6) ||| z7)), .second, .val (.long mk), .second, .val (.long x), .second, .val (.long r), .second, .val (.long (-9187201950435737472 : Int64)), .second, .unset, .unset] [(.long (-1 : Int64)), (.long (-9187201950435737472 : Int64)), (.long r)]))
    refine GoOn.step (fun t₀ k₀ => XS.lxor X15.here hx rfl (hb hby at_128) rfl k₀) ?_
    show GoOn p e below _ (T15.setTop (mkF m 129 #[.val (.long q0), .second, .val (.int q1), .val (.int ((q1 &&& (2147483647 : Int32)) % (9 : Int32))), .val (.long (((((((z0 ||| z1) ||| z2) ||| z3) ||| z4) ||| z5) ||| z6) ||| z7)), .second, .val (.long mk), .second, .val (.long x), .second, .val (.long r), .second, .val (.long (-9187201950435737472 : Int64)), .second, .unset, .unset] [(.long ((-9187201950435737472 : Int64) ^^^ (-1 : Int64))), (.long r)]))
    refine GoOn.step (fun t₀ k₀ => XS.land X15.here hx rfl (hb hby at_129) rfl k₀) ?_
    show GoOn p e below _ (T15.setTop (mkF m 130 #[.val (.long q0), .second, .val (.int q1), .val (.int ((q1 &&& (2147483647 : Int32)) % (9 : Int32))), .val (.long (((((((z0 ||| z1) ||| z2) ||| z3) ||| z4) ||| z5) ||| z6) ||| z7)), .second, .val (.long mk), .second, .val (.long x), .second, .val (.long r), .second, .val (.long (-9187201950435737472 : Int64)), .second, .unset, .unset] [(.long (r &&& ((-9187201950435737472 : Int64) ^^^ (-1 : Int64))))]))
    refine GoOn.step (fun t₀ k₀ => XS.lconst X15.here hx rfl (hb hby at_130) k₀) ?_
    show GoOn p e below _ (T15.setTop (mkF m 131 #[.val (.long q0), .second, .val (.int q1), .val (.int ((q1 &&& (2147483647 : Int32)) % (9 : Int32))), .val (.long (((((((z0 ||| z1) ||| z2) ||| z3) ||| z4) ||| z5) ||| z6) ||| z7)), .second, .val (.long mk), .second, .val (.long x), .second, .val (.long r), .second, .val (.long (-9187201950435737472 : Int64)), .second, .unset, .unset] [(.long (0 : Int64)), (.long (r &&& ((-9187201950435737472 : Int64) ^^^ (-1 : Int64))))]))
    refine GoOn.step (fun t₀ k₀ => XS.lcmp X15.here hx rfl (hb hby at_131) rfl k₀) ?_
    show GoOn p e below _ (T15.setTop (mkF m 132 #[.val (.long q0), .second, .val (.int q1), .val (.int ((q1 &&& (2147483647 : Int32)) % (9 : Int32))), .val (.long (((((((z0 ||| z1) ||| z2) ||| z3) ||| z4) ||| z5) ||| z6) ||| z7)), .second, .val (.long mk), .second, .val (.long x), .second, .val (.long r), .second, .val (.long (-9187201950435737472 : Int64)), .second, .unset, .unset] [(.int (lcmpW (r &&& ((-9187201950435737472 : Int64) ^^^ (-1 : Int64))) (0 : Int64)))]))
    have hf16 : (r &&& ((-9187201950435737472 : Int64) ^^^ (-1 : Int64))) = (0 : Int64) := (hr ▸ np_high x)
    refine GoOn.step (fun t₀ k₀ => XS.ifNo X15.here hx rfl (hb hby at_132) rfl ((if0 _ _).trans (teq ((lw_eq _ _).mpr hf16)).2) k₀) ?_
    show GoOn p e below _ (T15.setTop (mkF m 135 #[.val (.long q0), .second, .val (.int q1), .val (.int ((q1 &&& (2147483647 : Int32)) % (9 : Int32))), .val (.long (((((((z0 ||| z1) ||| z2) ||| z3) ||| z4) ||| z5) ||| z6) ||| z7)), .second, .val (.long mk), .second, .val (.long x), .second, .val (.long r), .second, .val (.long (-9187201950435737472 : Int64)), .second, .unset, .unset] []))
    refine GoOn.step (fun t₀ k₀ => XS.iconst X15.here hx rfl (hb hby at_135) k₀) ?_
    show GoOn p e below _ (T15.setTop (mkF m 136 #[.val (.long q0), .second, .val (.int q1), .val (.int ((q1 &&& (2147483647 : Int32)) % (9 : Int32))), .val (.long (((((((z0 ||| z1) ||| z2) ||| z3) ||| z4) ||| z5) ||| z6) ||| z7)), .second, .val (.long mk), .second, .val (.long x), .second, .val (.long r), .second, .val (.long (-9187201950435737472 : Int64)), .second, .unset, .unset] [(.int (1 : Int32))]))
    refine GoOn.step (fun t₀ k₀ => XS.goto X15.here hx rfl (pc0 := 136) (pc' := 140) rfl (hb hby at_136) (by decide) (by decide) k₀) ?_
    show GoOn p e below _ (T15.setTop (mkF m 140 #[.val (.long q0), .second, .val (.int q1), .val (.int ((q1 &&& (2147483647 : Int32)) % (9 : Int32))), .val (.long (((((((z0 ||| z1) ||| z2) ||| z3) ||| z4) ||| z5) ||| z6) ||| z7)), .second, .val (.long mk), .second, .val (.long x), .second, .val (.long r), .second, .val (.long (-9187201950435737472 : Int64)), .second, .unset, .unset] [(.int (1 : Int32))]))
    refine GoOn.step (fun t₀ k₀ => XS.istore X15.here hx rfl (hb hby at_140) rfl (l' := #[.val (.long q0), .second, .val (.int q1), .val (.int ((q1 &&& (2147483647 : Int32)) % (9 : Int32))), .val (.long (((((((z0 ||| z1) ||| z2) ||| z3) ||| z4) ||| z5) ||| z6) ||| z7)), .second, .val (.long mk), .second, .val (.long x), .second, .val (.long r), .second, .val (.long (-9187201950435737472 : Int64)), .second, .val (.int (1 : Int32)), .unset]) rfl k₀) ?_
    show GoOn p e below _ (T15.setTop (mkF m 142 #[.val (.long q0), .second, .val (.int q1), .val (.int ((q1 &&& (2147483647 : Int32)) % (9 : Int32))), .val (.long (((((((z0 ||| z1) ||| z2) ||| z3) ||| z4) ||| z5) ||| z6) ||| z7)), .second, .val (.long mk), .second, .val (.long x), .second, .val (.long r), .second, .val (.long (-9187201950435737472 : Int64)), .second, .val (.int (1 : Int32)), .unset] []))
    refine GoOn.step (fun t₀ k₀ => XS.iconst X15.here hx rfl (hb hby at_142) k₀) ?_
    show GoOn p e below _ (T15.setTop (mkF m 143 #[.val (.long q0), .second, .val (.int q1), .val (.int ((q1 &&& (2147483647 : Int32)) % (9 : Int32))), .val (.long (((((((z0 ||| z1) ||| z2) ||| z3) ||| z4) ||| z5) ||| z6) ||| z7)), .second, .val (.long mk), .second, .val (.long x), .second, .val (.long r), .second, .val (.long (-9187201950435737472 : Int64)), .second, .val (.int (1 : Int32)), .unset] [(.int (1 : Int32))]))
    refine GoOn.step (fun t₀ k₀ => XS.istore X15.here hx rfl (hb hby at_143) rfl (l' := #[.val (.long q0), .second, .val (.int q1), .val (.int ((q1 &&& (2147483647 : Int32)) % (9 : Int32))), .val (.long (((((((z0 ||| z1) ||| z2) ||| z3) ||| z4) ||| z5) ||| z6) ||| z7)), .second, .val (.long mk), .second, .val (.long x), .second, .val (.long r), .second, .val (.long (-9187201950435737472 : Int64)), .second, .val (.int (1 : Int32)), .val (.int (1 : Int32))]) rfl k₀) ?_
    show GoOn p e below _ (T15.setTop (mkF m 145 #[.val (.long q0), .second, .val (.int q1), .val (.int ((q1 &&& (2147483647 : Int32)) % (9 : Int32))), .val (.long (((((((z0 ||| z1) ||| z2) ||| z3) ||| z4) ||| z5) ||| z6) ||| z7)), .second, .val (.long mk), .second, .val (.long x), .second, .val (.long r), .second, .val (.long (-9187201950435737472 : Int64)), .second, .val (.int (1 : Int32)), .val (.int (1 : Int32))] []))
    have hi : InvB x 0 1 := Or.inr ⟨rfl, trivial⟩
    refine GoOn.step (fun t₀ k₀ => XS.iload X15.here hx rfl (hb hby at_145) rfl k₀) ?_
    show GoOn p e below _ (T15.setTop (mkF m 147 #[.val (.long q0), .second, .val (.int q1), .val (.int ((q1 &&& (2147483647 : Int32)) % (9 : Int32))), .val (.long (((((((z0 ||| z1) ||| z2) ||| z3) ||| z4) ||| z5) ||| z6) ||| z7)), .second, .val (.long mk), .second, .val (.long x), .second, .val (.long r), .second, .val (.long (-9187201950435737472 : Int64)), .second, .val (.int (1 : Int32)), .val (.int (1 : Int32))] [(.int (1 : Int32))]))
    have hf17 : ¬ ((1 : Int32) = (0 : Int32)) := (by decide)
    refine GoOn.step (fun t₀ k₀ => XS.ifNo X15.here hx rfl (hb hby at_147) rfl ((if0 _ _).trans (feq hf17).1) k₀) ?_
    show GoOn p e below _ (T15.setTop (mkF m 150 #[.val (.long q0), .second, .val (.int q1), .val (.int ((q1 &&& (2147483647 : Int32)) % (9 : Int32))), .val (.long (((((((z0 ||| z1) ||| z2) ||| z3) ||| z4) ||| z5) ||| z6) ||| z7)), .second, .val (.long mk), .second, .val (.long x), .second, .val (.long r), .second, .val (.long (-9187201950435737472 : Int64)), .second, .val (.int (1 : Int32)), .val (.int (1 : Int32))] []))
    refine GoOn.step (fun t₀ k₀ => XS.lload X15.here hx rfl (hb hby at_150) rfl k₀) ?_
    show GoOn p e below _ (T15.setTop (mkF m 152 #[.val (.long q0), .second, .val (.int q1), .val (.int ((q1 &&& (2147483647 : Int32)) % (9 : Int32))), .val (.long (((((((z0 ||| z1) ||| z2) ||| z3) ||| z4) ||| z5) ||| z6) ||| z7)), .second, .val (.long mk), .second, .val (.long x), .second, .val (.long r), .second, .val (.long (-9187201950435737472 : Int64)), .second, .val (.int (1 : Int32)), .val (.int (1 : Int32))] [(.long x)]))
    refine GoOn.step (fun t₀ k₀ => XS.lload X15.here hx rfl (hb hby at_152) rfl k₀) ?_
    show GoOn p e below _ (T15.setTop (mkF m 154 #[.val (.long q0), .second, .val (.int q1), .val (.int ((q1 &&& (2147483647 : Int32)) % (9 : Int32))), .val (.long (((((((z0 ||| z1) ||| z2) ||| z3) ||| z4) ||| z5) ||| z6) ||| z7)), .second, .val (.long mk), .second, .val (.long x), .second, .val (.long r), .second, .val (.long (-9187201950435737472 : Int64)), .second, .val (.int (1 : Int32)), .val (.int (1 : Int32))] [(.long r), (.long x)]))
    refine GoOn.step (fun t₀ k₀ => XS.iconst X15.here hx rfl (hb hby at_154) k₀) ?_
    show GoOn p e below _ (T15.setTop (mkF m 155 #[.val (.long q0), .second, .val (.int q1), .val (.int ((q1 &&& (2147483647 : Int32)) % (9 : Int32))), .val (.long (((((((z0 ||| z1) ||| z2) ||| z3) ||| z4) ||| z5) ||| z6) ||| z7)), .second, .val (.long mk), .second, .val (.long x), .second, .val (.long r), .second, .val (.long (-9187201950435737472 : Int64)), .second, .val (.int (1 : Int32)), .val (.int (1 : Int32))] [(.int (0 : Int32)), (.long r), (.long x)]))
    refine GoOn.step (fun t₀ k₀ => XS.iload X15.here hx rfl (hb hby at_155) rfl k₀) ?_
    show GoOn p e below _ (T15.setTop (mkF m 157 #[.val (.long q0), .second, .val (.int q1), .val (.int ((q1 &&& (2147483647 : Int32)) % (9 : Int32))), .val (.long (((((((z0 ||| z1) ||| z2) ||| z3) ||| z4) ||| z5) ||| z6) ||| z7)), .second, .val (.long mk), .second, .val (.long x), .second, .val (.long r), .second, .val (.long (-9187201950435737472 : Int64)), .second, .val (.int (1 : Int32)), .val (.int (1 : Int32))] [(.int (1 : Int32)), (.int (0 : Int32)), (.long r), (.long x)]))
    obtain ⟨_, T18, L18, X18, hQ18, st18⟩ := kCallS X15 hx hZ (argsL := [(.long x), (.long r), (.int (0 : Int32)), (.int (1 : Int32))]) (rest := []) (c_bk l Z a0 hw x r (0 : Int32) (1 : Int32) h0) hown (hw _ (List.mem_of_getElem? (i := 20) rfl)) (hw _ (List.mem_of_getElem? (i := 21) rfl)) (hw _ (List.mem_of_getElem? (i := 3) rfl)) (hw _ (List.mem_of_getElem? (i := 22) rfl)) (by decide) e15 (g := (mkF m 157 #[.val (.long q0), .second, .val (.int q1), .val (.int ((q1 &&& (2147483647 : Int32)) % (9 : Int32))), .val (.long (((((((z0 ||| z1) ||| z2) ||| z3) ||| z4) ||| z5) ||| z6) ||| z7)), .second, .val (.long mk), .second, .val (.long x), .second, .val (.long r), .second, .val (.long (-9187201950435737472 : Int64)), .second, .val (.int (1 : Int32)), .val (.int (1 : Int32))] [(.int (1 : Int32)), (.int (0 : Int32)), (.long r), (.long x)])) rfl (by rw [hml]; rfl) (lenOf pd_4 rfl) rfl (W := 0) (by show 2 * 0 + _ ≤ _; exact Nat.le_of_eq rfl) (hb hby at_157) (by decide) (by decide) (by decide) (by decide)
    obtain ⟨rfl, rfl, e18⟩ := hQ18
    rw [List.append_nil] at X18
    refine GoOn.step st18 ?_
    show GoOn p e below _ (T18.setTop (mkF m 160 #[.val (.long q0), .second, .val (.int q1), .val (.int ((q1 &&& (2147483647 : Int32)) % (9 : Int32))), .val (.long (((((((z0 ||| z1) ||| z2) ||| z3) ||| z4) ||| z5) ||| z6) ||| z7)), .second, .val (.long mk), .second, .val (.long x), .second, .val (.long r), .second, .val (.long (-9187201950435737472 : Int64)), .second, .val (.int (1 : Int32)), .val (.int (1 : Int32))] [(.int (okV x r (0 : Int32) (1 : Int32)))]))
    have hf19 : ¬ ((okV x r (0 : Int32) (1 : Int32)) = (0 : Int32)) := (okn0 x r hr (1 : Int32) hi)
    refine GoOn.step (fun t₀ k₀ => XS.ifNo X18.here hx rfl (hb hby at_160) rfl ((if0 _ _).trans (feq hf19).1) k₀) ?_
    show GoOn p e below _ (T18.setTop (mkF m 163 #[.val (.long q0), .second, .val (.int q1), .val (.int ((q1 &&& (2147483647 : Int32)) % (9 : Int32))), .val (.long (((((((z0 ||| z1) ||| z2) ||| z3) ||| z4) ||| z5) ||| z6) ||| z7)), .second, .val (.long mk), .second, .val (.long x), .second, .val (.long r), .second, .val (.long (-9187201950435737472 : Int64)), .second, .val (.int (1 : Int32)), .val (.int (1 : Int32))] []))
    refine GoOn.step (fun t₀ k₀ => XS.iconst X18.here hx rfl (hb hby at_163) k₀) ?_
    show GoOn p e below _ (T18.setTop (mkF m 164 #[.val (.long q0), .second, .val (.int q1), .val (.int ((q1 &&& (2147483647 : Int32)) % (9 : Int32))), .val (.long (((((((z0 ||| z1) ||| z2) ||| z3) ||| z4) ||| z5) ||| z6) ||| z7)), .second, .val (.long mk), .second, .val (.long x), .second, .val (.long r), .second, .val (.long (-9187201950435737472 : Int64)), .second, .val (.int (1 : Int32)), .val (.int (1 : Int32))] [(.int (1 : Int32))]))
    refine GoOn.step (fun t₀ k₀ => XS.goto X18.here hx rfl (pc0 := 164) (pc' := 168) rfl (hb hby at_164) (by decide) (by decide) k₀) ?_
    show GoOn p e below _ (T18.setTop (mkF m 168 #[.val (.long q0), .second, .val (.int q1), .val (.int ((q1 &&& (2147483647 : Int32)) % (9 : Int32))), .val (.long (((((((z0 ||| z1) ||| z2) ||| z3) ||| z4) ||| z5) ||| z6) ||| z7)), .second, .val (.long mk), .second, .val (.long x), .second, .val (.long r), .second, .val (.long (-9187201950435737472 : Int64)), .second, .val (.int (1 : Int32)), .val (.int (1 : Int32))] [(.int (1 : Int32))]))
    refine GoOn.step (fun t₀ k₀ => XS.istore X18.here hx rfl (hb hby at_168) rfl (l' := #[.val (.long q0), .second, .val (.int q1), .val (.int ((q1 &&& (2147483647 : Int32)) % (9 : Int32))), .val (.long (((((((z0 ||| z1) ||| z2) ||| z3) ||| z4) ||| z5) ||| z6) ||| z7)), .second, .val (.long mk), .second, .val (.long x), .second, .val (.long r), .second, .val (.long (-9187201950435737472 : Int64)), .second, .val (.int (1 : Int32)), .val (.int (1 : Int32))]) rfl k₀) ?_
    show GoOn p e below _ (T18.setTop (mkF m 170 #[.val (.long q0), .second, .val (.int q1), .val (.int ((q1 &&& (2147483647 : Int32)) % (9 : Int32))), .val (.long (((((((z0 ||| z1) ||| z2) ||| z3) ||| z4) ||| z5) ||| z6) ||| z7)), .second, .val (.long mk), .second, .val (.long x), .second, .val (.long r), .second, .val (.long (-9187201950435737472 : Int64)), .second, .val (.int (1 : Int32)), .val (.int (1 : Int32))] []))
    refine GoOn.step (fun t₀ k₀ => XS.iload X18.here hx rfl (hb hby at_170) rfl k₀) ?_
    show GoOn p e below _ (T18.setTop (mkF m 172 #[.val (.long q0), .second, .val (.int q1), .val (.int ((q1 &&& (2147483647 : Int32)) % (9 : Int32))), .val (.long (((((((z0 ||| z1) ||| z2) ||| z3) ||| z4) ||| z5) ||| z6) ||| z7)), .second, .val (.long mk), .second, .val (.long x), .second, .val (.long r), .second, .val (.long (-9187201950435737472 : Int64)), .second, .val (.int (1 : Int32)), .val (.int (1 : Int32))] [(.int (1 : Int32))]))
    have J0 : ∀ (T20 : State) (_ : Stand p l e room_1 s m #[(.long q0), (.int q1)] below meth c T20 [] 0 0) (_ : T20.heap = h0) (k1 : Int32) (_ : InvB x 1 k1), GoOn p e below (EndQ s room_1 (LQ n0)) (T20.setTop (mkF m 194 #[.val (.long q0), .second, .val (.int q1), .val (.int ((q1 &&& (2147483647 : Int32)) % (9 : Int32))), .val (.long (((((((z0 ||| z1) ||| z2) ||| z3) ||| z4) ||| z5) ||| z6) ||| z7)), .second, .val (.long mk), .second, .val (.long x), .second, .val (.long r), .second, .val (.long (-9187201950435737472 : Int64)), .second, .val (.int (1 : Int32)), .val (.int k1)] [])) := by
      intro T20 X20 e20 k1 hi
      refine GoOn.step (fun t₀ k₀ => XS.iload X20.here hx rfl (hb hby at_194) rfl k₀) ?_
      show GoOn p e below _ (T20.setTop (mkF m 196 #[.val (.long q0), .second, .val (.int q1), .val (.int ((q1 &&& (2147483647 : Int32)) % (9 : Int32))), .val (.long (((((((z0 ||| z1) ||| z2) ||| z3) ||| z4) ||| z5) ||| z6) ||| z7)), .second, .val (.long mk), .second, .val (.long x), .second, .val (.long r), .second, .val (.long (-9187201950435737472 : Int64)), .second, .val (.int (1 : Int32)), .val (.int k1)] [(.int (1 : Int32))]))
      have hf23 : ¬ ((1 : Int32) = (0 : Int32)) := (by decide)
      refine GoOn.step (fun t₀ k₀ => XS.ifNo X20.here hx rfl (hb hby at_196) rfl ((if0 _ _).trans (feq hf23).1) k₀) ?_
      show GoOn p e below _ (T20.setTop (mkF m 199 #[.val (.long q0), .second, .val (.int q1), .val (.int ((q1 &&& (2147483647 : Int32)) % (9 : Int32))), .val (.long (((((((z0 ||| z1) ||| z2) ||| z3) ||| z4) ||| z5) ||| z6) ||| z7)), .second, .val (.long mk), .second, .val (.long x), .second, .val (.long r), .second, .val (.long (-9187201950435737472 : Int64)), .second, .val (.int (1 : Int32)), .val (.int k1)] []))
      refine GoOn.step (fun t₀ k₀ => XS.lload X20.here hx rfl (hb hby at_199) rfl k₀) ?_
      show GoOn p e below _ (T20.setTop (mkF m 201 #[.val (.long q0), .second, .val (.int q1), .val (.int ((q1 &&& (2147483647 : Int32)) % (9 : Int32))), .val (.long (((((((z0 ||| z1) ||| z2) ||| z3) ||| z4) ||| z5) ||| z6) ||| z7)), .second, .val (.long mk), .second, .val (.long x), .second, .val (.long r), .second, .val (.long (-9187201950435737472 : Int64)), .second, .val (.int (1 : Int32)), .val (.int k1)] [(.long x)]))
      refine GoOn.step (fun t₀ k₀ => XS.lload X20.here hx rfl (hb hby at_201) rfl k₀) ?_
      show GoOn p e below _ (T20.setTop (mkF m 203 #[.val (.long q0), .second, .val (.int q1), .val (.int ((q1 &&& (2147483647 : Int32)) % (9 : Int32))), .val (.long (((((((z0 ||| z1) ||| z2) ||| z3) ||| z4) ||| z5) ||| z6) ||| z7)), .second, .val (.long mk), .second, .val (.long x), .second, .val (.long r), .second, .val (.long (-9187201950435737472 : Int64)), .second, .val (.int (1 : Int32)), .val (.int k1)] [(.long r), (.long x)]))
      refine GoOn.step (fun t₀ k₀ => XS.iconst X20.here hx rfl (hb hby at_203) k₀) ?_
      show GoOn p e below _ (T20.setTop (mkF m 204 #[.val (.long q0), .second, .val (.int q1), .val (.int ((q1 &&& (2147483647 : Int32)) % (9 : Int32))), .val (.long (((((((z0 ||| z1) ||| z2) ||| z3) ||| z4) ||| z5) ||| z6) ||| z7)), .second, .val (.long mk), .second, .val (.long x), .second, .val (.long r), .second, .val (.long (-9187201950435737472 : Int64)), .second, .val (.int (1 : Int32)), .val (.int k1)] [(.int (1 : Int32)), (.long r), (.long x)]))
      refine GoOn.step (fun t₀ k₀ => XS.iload X20.here hx rfl (hb hby at_204) rfl k₀) ?_
      show GoOn p e below _ (T20.setTop (mkF m 206 #[.val (.long q0), .second, .val (.int q1), .val (.int ((q1 &&& (2147483647 : Int32)) % (9 : Int32))), .val (.long (((((((z0 ||| z1) ||| z2) ||| z3) ||| z4) ||| z5) ||| z6) ||| z7)), .second, .val (.long mk), .second, .val (.long x), .second, .val (.long r), .second, .val (.long (-9187201950435737472 : Int64)), .second, .val (.int (1 : Int32)), .val (.int k1)] [(.int k1), (.int (1 : Int32)), (.long r), (.long x)]))
      obtain ⟨_, T24, L24, X24, hQ24, st24⟩ := kCallS X20 hx hZ (argsL := [(.long x), (.long r), (.int (1 : Int32)), (.int k1)]) (rest := []) (c_bk l Z a0 hw x r (1 : Int32) k1 h0) hown (hw _ (List.mem_of_getElem? (i := 20) rfl)) (hw _ (List.mem_of_getElem? (i := 21) rfl)) (hw _ (List.mem_of_getElem? (i := 3) rfl)) (hw _ (List.mem_of_getElem? (i := 22) rfl)) (by decide) e20 (g := (mkF m 206 #[.val (.long q0), .second, .val (.int q1), .val (.int ((q1 &&& (2147483647 : Int32)) % (9 : Int32))), .val (.long (((((((z0 ||| z1) ||| z2) ||| z3) ||| z4) ||| z5) ||| z6) ||| z7)), .second, .val (.long mk), .second, .val (.long x), .second, .val (.long r), .second, .val (.long (-9187201950435737472 : Int64)), .second, .val (.int (1 : Int32)), .val (.int k1)] [(.int k1), (.int (1 : Int32)), (.long r), (.long x)])) rfl (by rw [hml]; rfl) (lenOf pd_4 rfl) rfl (W := 0) (by show 2 * 0 + _ ≤ _; exact Nat.le_of_eq rfl) (hb hby at_206) (by decide) (by decide) (by decide) (by decide)
      obtain ⟨rfl, rfl, e24⟩ := hQ24
      rw [List.append_nil] at X24
      refine GoOn.step st24 ?_
      show GoOn p e below _ (T24.setTop (mkF m 209 #[.val (.long q0), .second, .val (.int q1), .val (.int ((q1 &&& (2147483647 : Int32)) % (9 : Int32))), .val (.long (((((((z0 ||| z1) ||| z2) ||| z3) ||| z4) ||| z5) ||| z6) ||| z7)), .second, .val (.long mk), .second, .val (.long x), .second, .val (.long r), .second, .val (.long (-9187201950435737472 : Int64)), .second, .val (.int (1 : Int32)), .val (.int k1)] [(.int (okV x r (1 : Int32) k1))]))
      have hf25 : ¬ ((okV x r (1 : Int32) k1) = (0 : Int32)) := (okn1 x r hr k1 hi)
      refine GoOn.step (fun t₀ k₀ => XS.ifNo X24.here hx rfl (hb hby at_209) rfl ((if0 _ _).trans (feq hf25).1) k₀) ?_
      show GoOn p e below _ (T24.setTop (mkF m 212 #[.val (.long q0), .second, .val (.int q1), .val (.int ((q1 &&& (2147483647 : Int32)) % (9 : Int32))), .val (.long (((((((z0 ||| z1) ||| z2) ||| z3) ||| z4) ||| z5) ||| z6) ||| z7)), .second, .val (.long mk), .second, .val (.long x), .second, .val (.long r), .second, .val (.long (-9187201950435737472 : Int64)), .second, .val (.int (1 : Int32)), .val (.int k1)] []))
      refine GoOn.step (fun t₀ k₀ => XS.iconst X24.here hx rfl (hb hby at_212) k₀) ?_
      show GoOn p e below _ (T24.setTop (mkF m 213 #[.val (.long q0), .second, .val (.int q1), .val (.int ((q1 &&& (2147483647 : Int32)) % (9 : Int32))), .val (.long (((((((z0 ||| z1) ||| z2) ||| z3) ||| z4) ||| z5) ||| z6) ||| z7)), .second, .val (.long mk), .second, .val (.long x), .second, .val (.long r), .second, .val (.long (-9187201950435737472 : Int64)), .second, .val (.int (1 : Int32)), .val (.int k1)] [(.int (1 : Int32))]))
      refine GoOn.step (fun t₀ k₀ => XS.goto X24.here hx rfl (pc0 := 213) (pc' := 217) rfl (hb hby at_213) (by decide) (by decide) k₀) ?_
      show GoOn p e below _ (T24.setTop (mkF m 217 #[.val (.long q0), .second, .val (.int q1), .val (.int ((q1 &&& (2147483647 : Int32)) % (9 : Int32))), .val (.long (((((((z0 ||| z1) ||| z2) ||| z3) ||| z4) ||| z5) ||| z6) ||| z7)), .second, .val (.long mk), .second, .val (.long x), .second, .val (.long r), .second, .val (.long (-9187201950435737472 : Int64)), .second, .val (.int (1 : Int32)), .val (.int k1)] [(.int (1 : Int32))]))
      refine GoOn.step (fun t₀ k₀ => XS.istore X24.here hx rfl (hb hby at_217) rfl (l' := #[.val (.long q0), .second, .val (.int q1), .val (.int ((q1 &&& (2147483647 : Int32)) % (9 : Int32))), .val (.long (((((((z0 ||| z1) ||| z2) ||| z3) ||| z4) ||| z5) ||| z6) ||| z7)), .second, .val (.long mk), .second, .val (.long x), .second, .val (.long r), .second, .val (.long (-9187201950435737472 : Int64)), .second, .val (.int (1 : Int32)), .val (.int k1)]) rfl k₀) ?_
      show GoOn p e below _ (T24.setTop (mkF m 219 #[.val (.long q0), .second, .val (.int q1), .val (.int ((q1 &&& (2147483647 : Int32)) % (9 : Int32))), .val (.long (((((((z0 ||| z1) ||| z2) ||| z3) ||| z4) ||| z5) ||| z6) ||| z7)), .second, .val (.long mk), .second, .val (.long x), .second, .val (.long r), .second, .val (.long (-9187201950435737472 : Int64)), .second, .val (.int (1 : Int32)), .val (.int k1)] []))
      refine GoOn.step (fun t₀ k₀ => XS.iload X24.here hx rfl (hb hby at_219) rfl k₀) ?_
      show GoOn p e below _ (T24.setTop (mkF m 221 #[.val (.long q0), .second, .val (.int q1), .val (.int ((q1 &&& (2147483647 : Int32)) % (9 : Int32))), .val (.long (((((((z0 ||| z1) ||| z2) ||| z3) ||| z4) ||| z5) ||| z6) ||| z7)), .second, .val (.long mk), .second, .val (.long x), .second, .val (.long r), .second, .val (.long (-9187201950435737472 : Int64)), .second, .val (.int (1 : Int32)), .val (.int k1)] [(.int k1)]))
      have J1 : ∀ (T26 : State) (_ : Stand p l e room_1 s m #[(.long q0), (.int q1)] below meth c T26 [] 0 0) (_ : T26.heap = h0) (k2 : Int32) (_ : InvB x 2 k2), GoOn p e below (EndQ s room_1 (LQ n0)) (T26.setTop (mkF m 243 #[.val (.long q0), .second, .val (.int q1), .val (.int ((q1 &&& (2147483647 : Int32)) % (9 : Int32))), .val (.long (((((((z0 ||| z1) ||| z2) ||| z3) ||| z4) ||| z5) ||| z6) ||| z7)), .second, .val (.long mk), .second, .val (.long x), .second, .val (.long r), .second, .val (.long (-9187201950435737472 : Int64)), .second, .val (.int (1 : Int32)), .val (.int k2)] [])) := by
        intro T26 X26 e26 k2 hi
        refine GoOn.step (fun t₀ k₀ => XS.iload X26.here hx rfl (hb hby at_243) rfl k₀) ?_
        show GoOn p e below _ (T26.setTop (mkF m 245 #[.val (.long q0), .second, .val (.int q1), .val (.int ((q1 &&& (2147483647 : Int32)) % (9 : Int32))), .val (.long (((((((z0 ||| z1) ||| z2) ||| z3) ||| z4) ||| z5) ||| z6) ||| z7)), .second, .val (.long mk), .second, .val (.long x), .second, .val (.long r), .second, .val (.long (-9187201950435737472 : Int64)), .second, .val (.int (1 : Int32)), .val (.int k2)] [(.int (1 : Int32))]))
        have hf29 : ¬ ((1 : Int32) = (0 : Int32)) := (by decide)
        refine GoOn.step (fun t₀ k₀ => XS.ifNo X26.here hx rfl (hb hby at_245) rfl ((if0 _ _).trans (feq hf29).1) k₀) ?_
        show GoOn p e below _ (T26.setTop (mkF m 248 #[.val (.long q0), .second, .val (.int q1), .val (.int ((q1 &&& (2147483647 : Int32)) % (9 : Int32))), .val (.long (((((((z0 ||| z1) ||| z2) ||| z3) ||| z4) ||| z5) ||| z6) ||| z7)), .second, .val (.long mk), .second, .val (.long x), .second, .val (.long r), .second, .val (.long (-9187201950435737472 : Int64)), .second, .val (.int (1 : Int32)), .val (.int k2)] []))
        refine GoOn.step (fun t₀ k₀ => XS.lload X26.here hx rfl (hb hby at_248) rfl k₀) ?_
        show GoOn p e below _ (T26.setTop (mkF m 250 #[.val (.long q0), .second, .val (.int q1), .val (.int ((q1 &&& (2147483647 : Int32)) % (9 : Int32))), .val (.long (((((((z0 ||| z1) ||| z2) ||| z3) ||| z4) ||| z5) ||| z6) ||| z7)), .second, .val (.long mk), .second, .val (.long x), .second, .val (.long r), .second, .val (.long (-9187201950435737472 : Int64)), .second, .val (.int (1 : Int32)), .val (.int k2)] [(.long x)]))
        refine GoOn.step (fun t₀ k₀ => XS.lload X26.here hx rfl (hb hby at_250) rfl k₀) ?_
        show GoOn p e below _ (T26.setTop (mkF m 252 #[.val (.long q0), .second, .val (.int q1), .val (.int ((q1 &&& (2147483647 : Int32)) % (9 : Int32))), .val (.long (((((((z0 ||| z1) ||| z2) ||| z3) ||| z4) ||| z5) ||| z6) ||| z7)), .second, .val (.long mk), .second, .val (.long x), .second, .val (.long r), .second, .val (.long (-9187201950435737472 : Int64)), .second, .val (.int (1 : Int32)), .val (.int k2)] [(.long r), (.long x)]))
        refine GoOn.step (fun t₀ k₀ => XS.iconst X26.here hx rfl (hb hby at_252) k₀) ?_
        show GoOn p e below _ (T26.setTop (mkF m 253 #[.val (.long q0), .second, .val (.int q1), .val (.int ((q1 &&& (2147483647 : Int32)) % (9 : Int32))), .val (.long (((((((z0 ||| z1) ||| z2) ||| z3) ||| z4) ||| z5) ||| z6) ||| z7)), .second, .val (.long mk), .second, .val (.long x), .second, .val (.long r), .second, .val (.long (-9187201950435737472 : Int64)), .second, .val (.int (1 : Int32)), .val (.int k2)] [(.int (2 : Int32)), (.long r), (.long x)]))
        refine GoOn.step (fun t₀ k₀ => XS.iload X26.here hx rfl (hb hby at_253) rfl k₀) ?_
        show GoOn p e below _ (T26.setTop (mkF m 255 #[.val (.long q0), .second, .val (.int q1), .val (.int ((q1 &&& (2147483647 : Int32)) % (9 : Int32))), .val (.long (((((((z0 ||| z1) ||| z2) ||| z3) ||| z4) ||| z5) ||| z6) ||| z7)), .second, .val (.long mk), .second, .val (.long x), .second, .val (.long r), .second, .val (.long (-9187201950435737472 : Int64)), .second, .val (.int (1 : Int32)), .val (.int k2)] [(.int k2), (.int (2 : Int32)), (.long r), (.long x)]))
        obtain ⟨_, T30, L30, X30, hQ30, st30⟩ := kCallS X26 hx hZ (argsL := [(.long x), (.long r), (.int (2 : Int32)), (.int k2)]) (rest := []) (c_bk l Z a0 hw x r (2 : Int32) k2 h0) hown (hw _ (List.mem_of_getElem? (i := 20) rfl)) (hw _ (List.mem_of_getElem? (i := 21) rfl)) (hw _ (List.mem_of_getElem? (i := 3) rfl)) (hw _ (List.mem_of_getElem? (i := 22) rfl)) (by decide) e26 (g := (mkF m 255 #[.val (.long q0), .second, .val (.int q1), .val (.int ((q1 &&& (2147483647 : Int32)) % (9 : Int32))), .val (.long (((((((z0 ||| z1) ||| z2) ||| z3) ||| z4) ||| z5) ||| z6) ||| z7)), .second, .val (.long mk), .second, .val (.long x), .second, .val (.long r), .second, .val (.long (-9187201950435737472 : Int64)), .second, .val (.int (1 : Int32)), .val (.int k2)] [(.int k2), (.int (2 : Int32)), (.long r), (.long x)])) rfl (by rw [hml]; rfl) (lenOf pd_4 rfl) rfl (W := 0) (by show 2 * 0 + _ ≤ _; exact Nat.le_of_eq rfl) (hb hby at_255) (by decide) (by decide) (by decide) (by decide)
        obtain ⟨rfl, rfl, e30⟩ := hQ30
        rw [List.append_nil] at X30
        refine GoOn.step st30 ?_
        show GoOn p e below _ (T30.setTop (mkF m 258 #[.val (.long q0), .second, .val (.int q1), .val (.int ((q1 &&& (2147483647 : Int32)) % (9 : Int32))), .val (.long (((((((z0 ||| z1) ||| z2) ||| z3) ||| z4) ||| z5) ||| z6) ||| z7)), .second, .val (.long mk), .second, .val (.long x), .second, .val (.long r), .second, .val (.long (-9187201950435737472 : Int64)), .second, .val (.int (1 : Int32)), .val (.int k2)] [(.int (okV x r (2 : Int32) k2))]))
        have hf31 : ¬ ((okV x r (2 : Int32) k2) = (0 : Int32)) := (okn2 x r hr k2 hi)
        refine GoOn.step (fun t₀ k₀ => XS.ifNo X30.here hx rfl (hb hby at_258) rfl ((if0 _ _).trans (feq hf31).1) k₀) ?_
        show GoOn p e below _ (T30.setTop (mkF m 261 #[.val (.long q0), .second, .val (.int q1), .val (.int ((q1 &&& (2147483647 : Int32)) % (9 : Int32))), .val (.long (((((((z0 ||| z1) ||| z2) ||| z3) ||| z4) ||| z5) ||| z6) ||| z7)), .second, .val (.long mk), .second, .val (.long x), .second, .val (.long r), .second, .val (.long (-9187201950435737472 : Int64)), .second, .val (.int (1 : Int32)), .val (.int k2)] []))
        refine GoOn.step (fun t₀ k₀ => XS.iconst X30.here hx rfl (hb hby at_261) k₀) ?_
        show GoOn p e below _ (T30.setTop (mkF m 262 #[.val (.long q0), .second, .val (.int q1), .val (.int ((q1 &&& (2147483647 : Int32)) % (9 : Int32))), .val (.long (((((((z0 ||| z1) ||| z2) ||| z3) ||| z4) ||| z5) ||| z6) ||| z7)), .second, .val (.long mk), .second, .val (.long x), .second, .val (.long r), .second, .val (.long (-9187201950435737472 : Int64)), .second, .val (.int (1 : Int32)), .val (.int k2)] [(.int (1 : Int32))]))
        refine GoOn.step (fun t₀ k₀ => XS.goto X30.here hx rfl (pc0 := 262) (pc' := 266) rfl (hb hby at_262) (by decide) (by decide) k₀) ?_
        show GoOn p e below _ (T30.setTop (mkF m 266 #[.val (.long q0), .second, .val (.int q1), .val (.int ((q1 &&& (2147483647 : Int32)) % (9 : Int32))), .val (.long (((((((z0 ||| z1) ||| z2) ||| z3) ||| z4) ||| z5) ||| z6) ||| z7)), .second, .val (.long mk), .second, .val (.long x), .second, .val (.long r), .second, .val (.long (-9187201950435737472 : Int64)), .second, .val (.int (1 : Int32)), .val (.int k2)] [(.int (1 : Int32))]))
        refine GoOn.step (fun t₀ k₀ => XS.istore X30.here hx rfl (hb hby at_266) rfl (l' := #[.val (.long q0), .second, .val (.int q1), .val (.int ((q1 &&& (2147483647 : Int32)) % (9 : Int32))), .val (.long (((((((z0 ||| z1) ||| z2) ||| z3) ||| z4) ||| z5) ||| z6) ||| z7)), .second, .val (.long mk), .second, .val (.long x), .second, .val (.long r), .second, .val (.long (-9187201950435737472 : Int64)), .second, .val (.int (1 : Int32)), .val (.int k2)]) rfl k₀) ?_
        show GoOn p e below _ (T30.setTop (mkF m 268 #[.val (.long q0), .second, .val (.int q1), .val (.int ((q1 &&& (2147483647 : Int32)) % (9 : Int32))), .val (.long (((((((z0 ||| z1) ||| z2) ||| z3) ||| z4) ||| z5) ||| z6) ||| z7)), .second, .val (.long mk), .second, .val (.long x), .second, .val (.long r), .second, .val (.long (-9187201950435737472 : Int64)), .second, .val (.int (1 : Int32)), .val (.int k2)] []))
        refine GoOn.step (fun t₀ k₀ => XS.iload X30.here hx rfl (hb hby at_268) rfl k₀) ?_
        show GoOn p e below _ (T30.setTop (mkF m 270 #[.val (.long q0), .second, .val (.int q1), .val (.int ((q1 &&& (2147483647 : Int32)) % (9 : Int32))), .val (.long (((((((z0 ||| z1) ||| z2) ||| z3) ||| z4) ||| z5) ||| z6) ||| z7)), .second, .val (.long mk), .second, .val (.long x), .second, .val (.long r), .second, .val (.long (-9187201950435737472 : Int64)), .second, .val (.int (1 : Int32)), .val (.int k2)] [(.int k2)]))
        have J2 : ∀ (T32 : State) (_ : Stand p l e room_1 s m #[(.long q0), (.int q1)] below meth c T32 [] 0 0) (_ : T32.heap = h0) (k3 : Int32) (_ : InvB x 3 k3), GoOn p e below (EndQ s room_1 (LQ n0)) (T32.setTop (mkF m 292 #[.val (.long q0), .second, .val (.int q1), .val (.int ((q1 &&& (2147483647 : Int32)) % (9 : Int32))), .val (.long (((((((z0 ||| z1) ||| z2) ||| z3) ||| z4) ||| z5) ||| z6) ||| z7)), .second, .val (.long mk), .second, .val (.long x), .second, .val (.long r), .second, .val (.long (-9187201950435737472 : Int64)), .second, .val (.int (1 : Int32)), .val (.int k3)] [])) := by
          intro T32 X32 e32 k3 hi
          refine GoOn.step (fun t₀ k₀ => XS.iload X32.here hx rfl (hb hby at_292) rfl k₀) ?_
          show GoOn p e below _ (T32.setTop (mkF m 294 #[.val (.long q0), .second, .val (.int q1), .val (.int ((q1 &&& (2147483647 : Int32)) % (9 : Int32))), .val (.long (((((((z0 ||| z1) ||| z2) ||| z3) ||| z4) ||| z5) ||| z6) ||| z7)), .second, .val (.long mk), .second, .val (.long x), .second, .val (.long r), .second, .val (.long (-9187201950435737472 : Int64)), .second, .val (.int (1 : Int32)), .val (.int k3)] [(.int (1 : Int32))]))
          have hf35 : ¬ ((1 : Int32) = (0 : Int32)) := (by decide)
          refine GoOn.step (fun t₀ k₀ => XS.ifNo X32.here hx rfl (hb hby at_294) rfl ((if0 _ _).trans (feq hf35).1) k₀) ?_
          show GoOn p e below _ (T32.setTop (mkF m 297 #[.val (.long q0), .second, .val (.int q1), .val (.int ((q1 &&& (2147483647 : Int32)) % (9 : Int32))), .val (.long (((((((z0 ||| z1) ||| z2) ||| z3) ||| z4) ||| z5) ||| z6) ||| z7)), .second, .val (.long mk), .second, .val (.long x), .second, .val (.long r), .second, .val (.long (-9187201950435737472 : Int64)), .second, .val (.int (1 : Int32)), .val (.int k3)] []))
          refine GoOn.step (fun t₀ k₀ => XS.lload X32.here hx rfl (hb hby at_297) rfl k₀) ?_
          show GoOn p e below _ (T32.setTop (mkF m 299 #[.val (.long q0), .second, .val (.int q1), .val (.int ((q1 &&& (2147483647 : Int32)) % (9 : Int32))), .val (.long (((((((z0 ||| z1) ||| z2) ||| z3) ||| z4) ||| z5) ||| z6) ||| z7)), .second, .val (.long mk), .second, .val (.long x), .second, .val (.long r), .second, .val (.long (-9187201950435737472 : Int64)), .second, .val (.int (1 : Int32)), .val (.int k3)] [(.long x)]))
          refine GoOn.step (fun t₀ k₀ => XS.lload X32.here hx rfl (hb hby at_299) rfl k₀) ?_
          show GoOn p e below _ (T32.setTop (mkF m 301 #[.val (.long q0), .second, .val (.int q1), .val (.int ((q1 &&& (2147483647 : Int32)) % (9 : Int32))), .val (.long (((((((z0 ||| z1) ||| z2) ||| z3) ||| z4) ||| z5) ||| z6) ||| z7)), .second, .val (.long mk), .second, .val (.long x), .second, .val (.long r), .second, .val (.long (-9187201950435737472 : Int64)), .second, .val (.int (1 : Int32)), .val (.int k3)] [(.long r), (.long x)]))
          refine GoOn.step (fun t₀ k₀ => XS.iconst X32.here hx rfl (hb hby at_301) k₀) ?_
          show GoOn p e below _ (T32.setTop (mkF m 302 #[.val (.long q0), .second, .val (.int q1), .val (.int ((q1 &&& (2147483647 : Int32)) % (9 : Int32))), .val (.long (((((((z0 ||| z1) ||| z2) ||| z3) ||| z4) ||| z5) ||| z6) ||| z7)), .second, .val (.long mk), .second, .val (.long x), .second, .val (.long r), .second, .val (.long (-9187201950435737472 : Int64)), .second, .val (.int (1 : Int32)), .val (.int k3)] [(.int (3 : Int32)), (.long r), (.long x)]))
          refine GoOn.step (fun t₀ k₀ => XS.iload X32.here hx rfl (hb hby at_302) rfl k₀) ?_
          show GoOn p e below _ (T32.setTop (mkF m 304 #[.val (.long q0), .second, .val (.int q1), .val (.int ((q1 &&& (2147483647 : Int32)) % (9 : Int32))), .val (.long (((((((z0 ||| z1) ||| z2) ||| z3) ||| z4) ||| z5) ||| z6) ||| z7)), .second, .val (.long mk), .second, .val (.long x), .second, .val (.long r), .second, .val (.long (-9187201950435737472 : Int64)), .second, .val (.int (1 : Int32)), .val (.int k3)] [(.int k3), (.int (3 : Int32)), (.long r), (.long x)]))
          obtain ⟨_, T36, L36, X36, hQ36, st36⟩ := kCallS X32 hx hZ (argsL := [(.long x), (.long r), (.int (3 : Int32)), (.int k3)]) (rest := []) (c_bk l Z a0 hw x r (3 : Int32) k3 h0) hown (hw _ (List.mem_of_getElem? (i := 20) rfl)) (hw _ (List.mem_of_getElem? (i := 21) rfl)) (hw _ (List.mem_of_getElem? (i := 3) rfl)) (hw _ (List.mem_of_getElem? (i := 22) rfl)) (by decide) e32 (g := (mkF m 304 #[.val (.long q0), .second, .val (.int q1), .val (.int ((q1 &&& (2147483647 : Int32)) % (9 : Int32))), .val (.long (((((((z0 ||| z1) ||| z2) ||| z3) ||| z4) ||| z5) ||| z6) ||| z7)), .second, .val (.long mk), .second, .val (.long x), .second, .val (.long r), .second, .val (.long (-9187201950435737472 : Int64)), .second, .val (.int (1 : Int32)), .val (.int k3)] [(.int k3), (.int (3 : Int32)), (.long r), (.long x)])) rfl (by rw [hml]; rfl) (lenOf pd_4 rfl) rfl (W := 0) (by show 2 * 0 + _ ≤ _; exact Nat.le_of_eq rfl) (hb hby at_304) (by decide) (by decide) (by decide) (by decide)
          obtain ⟨rfl, rfl, e36⟩ := hQ36
          rw [List.append_nil] at X36
          refine GoOn.step st36 ?_
          show GoOn p e below _ (T36.setTop (mkF m 307 #[.val (.long q0), .second, .val (.int q1), .val (.int ((q1 &&& (2147483647 : Int32)) % (9 : Int32))), .val (.long (((((((z0 ||| z1) ||| z2) ||| z3) ||| z4) ||| z5) ||| z6) ||| z7)), .second, .val (.long mk), .second, .val (.long x), .second, .val (.long r), .second, .val (.long (-9187201950435737472 : Int64)), .second, .val (.int (1 : Int32)), .val (.int k3)] [(.int (okV x r (3 : Int32) k3))]))
          have hf37 : ¬ ((okV x r (3 : Int32) k3) = (0 : Int32)) := (okn3 x r hr k3 hi)
          refine GoOn.step (fun t₀ k₀ => XS.ifNo X36.here hx rfl (hb hby at_307) rfl ((if0 _ _).trans (feq hf37).1) k₀) ?_
          show GoOn p e below _ (T36.setTop (mkF m 310 #[.val (.long q0), .second, .val (.int q1), .val (.int ((q1 &&& (2147483647 : Int32)) % (9 : Int32))), .val (.long (((((((z0 ||| z1) ||| z2) ||| z3) ||| z4) ||| z5) ||| z6) ||| z7)), .second, .val (.long mk), .second, .val (.long x), .second, .val (.long r), .second, .val (.long (-9187201950435737472 : Int64)), .second, .val (.int (1 : Int32)), .val (.int k3)] []))
          refine GoOn.step (fun t₀ k₀ => XS.iconst X36.here hx rfl (hb hby at_310) k₀) ?_
          show GoOn p e below _ (T36.setTop (mkF m 311 #[.val (.long q0), .second, .val (.int q1), .val (.int ((q1 &&& (2147483647 : Int32)) % (9 : Int32))), .val (.long (((((((z0 ||| z1) ||| z2) ||| z3) ||| z4) ||| z5) ||| z6) ||| z7)), .second, .val (.long mk), .second, .val (.long x), .second, .val (.long r), .second, .val (.long (-9187201950435737472 : Int64)), .second, .val (.int (1 : Int32)), .val (.int k3)] [(.int (1 : Int32))]))
          refine GoOn.step (fun t₀ k₀ => XS.goto X36.here hx rfl (pc0 := 311) (pc' := 315) rfl (hb hby at_311) (by decide) (by decide) k₀) ?_
          show GoOn p e below _ (T36.setTop (mkF m 315 #[.val (.long q0), .second, .val (.int q1), .val (.int ((q1 &&& (2147483647 : Int32)) % (9 : Int32))), .val (.long (((((((z0 ||| z1) ||| z2) ||| z3) ||| z4) ||| z5) ||| z6) ||| z7)), .second, .val (.long mk), .second, .val (.long x), .second, .val (.long r), .second, .val (.long (-9187201950435737472 : Int64)), .second, .val (.int (1 : Int32)), .val (.int k3)] [(.int (1 : Int32))]))
          refine GoOn.step (fun t₀ k₀ => XS.istore X36.here hx rfl (hb hby at_315) rfl (l' := #[.val (.long q0), .second, .val (.int q1), .val (.int ((q1 &&& (2147483647 : Int32)) % (9 : Int32))), .val (.long (((((((z0 ||| z1) ||| z2) ||| z3) ||| z4) ||| z5) ||| z6) ||| z7)), .second, .val (.long mk), .second, .val (.long x), .second, .val (.long r), .second, .val (.long (-9187201950435737472 : Int64)), .second, .val (.int (1 : Int32)), .val (.int k3)]) rfl k₀) ?_
          show GoOn p e below _ (T36.setTop (mkF m 317 #[.val (.long q0), .second, .val (.int q1), .val (.int ((q1 &&& (2147483647 : Int32)) % (9 : Int32))), .val (.long (((((((z0 ||| z1) ||| z2) ||| z3) ||| z4) ||| z5) ||| z6) ||| z7)), .second, .val (.long mk), .second, .val (.long x), .second, .val (.long r), .second, .val (.long (-9187201950435737472 : Int64)), .second, .val (.int (1 : Int32)), .val (.int k3)] []))
          refine GoOn.step (fun t₀ k₀ => XS.iload X36.here hx rfl (hb hby at_317) rfl k₀) ?_
          show GoOn p e below _ (T36.setTop (mkF m 319 #[.val (.long q0), .second, .val (.int q1), .val (.int ((q1 &&& (2147483647 : Int32)) % (9 : Int32))), .val (.long (((((((z0 ||| z1) ||| z2) ||| z3) ||| z4) ||| z5) ||| z6) ||| z7)), .second, .val (.long mk), .second, .val (.long x), .second, .val (.long r), .second, .val (.long (-9187201950435737472 : Int64)), .second, .val (.int (1 : Int32)), .val (.int k3)] [(.int k3)]))
          have J3 : ∀ (T38 : State) (_ : Stand p l e room_1 s m #[(.long q0), (.int q1)] below meth c T38 [] 0 0) (_ : T38.heap = h0) (k4 : Int32) (_ : InvB x 4 k4), GoOn p e below (EndQ s room_1 (LQ n0)) (T38.setTop (mkF m 341 #[.val (.long q0), .second, .val (.int q1), .val (.int ((q1 &&& (2147483647 : Int32)) % (9 : Int32))), .val (.long (((((((z0 ||| z1) ||| z2) ||| z3) ||| z4) ||| z5) ||| z6) ||| z7)), .second, .val (.long mk), .second, .val (.long x), .second, .val (.long r), .second, .val (.long (-9187201950435737472 : Int64)), .second, .val (.int (1 : Int32)), .val (.int k4)] [])) := by
            intro T38 X38 e38 k4 hi
            refine GoOn.step (fun t₀ k₀ => XS.iload X38.here hx rfl (hb hby at_341) rfl k₀) ?_
            show GoOn p e below _ (T38.setTop (mkF m 343 #[.val (.long q0), .second, .val (.int q1), .val (.int ((q1 &&& (2147483647 : Int32)) % (9 : Int32))), .val (.long (((((((z0 ||| z1) ||| z2) ||| z3) ||| z4) ||| z5) ||| z6) ||| z7)), .second, .val (.long mk), .second, .val (.long x), .second, .val (.long r), .second, .val (.long (-9187201950435737472 : Int64)), .second, .val (.int (1 : Int32)), .val (.int k4)] [(.int (1 : Int32))]))
            have hf41 : ¬ ((1 : Int32) = (0 : Int32)) := (by decide)
            refine GoOn.step (fun t₀ k₀ => XS.ifNo X38.here hx rfl (hb hby at_343) rfl ((if0 _ _).trans (feq hf41).1) k₀) ?_
            show GoOn p e below _ (T38.setTop (mkF m 346 #[.val (.long q0), .second, .val (.int q1), .val (.int ((q1 &&& (2147483647 : Int32)) % (9 : Int32))), .val (.long (((((((z0 ||| z1) ||| z2) ||| z3) ||| z4) ||| z5) ||| z6) ||| z7)), .second, .val (.long mk), .second, .val (.long x), .second, .val (.long r), .second, .val (.long (-9187201950435737472 : Int64)), .second, .val (.int (1 : Int32)), .val (.int k4)] []))
            refine GoOn.step (fun t₀ k₀ => XS.lload X38.here hx rfl (hb hby at_346) rfl k₀) ?_
            show GoOn p e below _ (T38.setTop (mkF m 348 #[.val (.long q0), .second, .val (.int q1), .val (.int ((q1 &&& (2147483647 : Int32)) % (9 : Int32))), .val (.long (((((((z0 ||| z1) ||| z2) ||| z3) ||| z4) ||| z5) ||| z6) ||| z7)), .second, .val (.long mk), .second, .val (.long x), .second, .val (.long r), .second, .val (.long (-9187201950435737472 : Int64)), .second, .val (.int (1 : Int32)), .val (.int k4)] [(.long x)]))
            refine GoOn.step (fun t₀ k₀ => XS.lload X38.here hx rfl (hb hby at_348) rfl k₀) ?_
            show GoOn p e below _ (T38.setTop (mkF m 350 #[.val (.long q0), .second, .val (.int q1), .val (.int ((q1 &&& (2147483647 : Int32)) % (9 : Int32))), .val (.long (((((((z0 ||| z1) ||| z2) ||| z3) ||| z4) ||| z5) ||| z6) ||| z7)), .second, .val (.long mk), .second, .val (.long x), .second, .val (.long r), .second, .val (.long (-9187201950435737472 : Int64)), .second, .val (.int (1 : Int32)), .val (.int k4)] [(.long r), (.long x)]))
            refine GoOn.step (fun t₀ k₀ => XS.iconst X38.here hx rfl (hb hby at_350) k₀) ?_
            show GoOn p e below _ (T38.setTop (mkF m 351 #[.val (.long q0), .second, .val (.int q1), .val (.int ((q1 &&& (2147483647 : Int32)) % (9 : Int32))), .val (.long (((((((z0 ||| z1) ||| z2) ||| z3) ||| z4) ||| z5) ||| z6) ||| z7)), .second, .val (.long mk), .second, .val (.long x), .second, .val (.long r), .second, .val (.long (-9187201950435737472 : Int64)), .second, .val (.int (1 : Int32)), .val (.int k4)] [(.int (4 : Int32)), (.long r), (.long x)]))
            refine GoOn.step (fun t₀ k₀ => XS.iload X38.here hx rfl (hb hby at_351) rfl k₀) ?_
            show GoOn p e below _ (T38.setTop (mkF m 353 #[.val (.long q0), .second, .val (.int q1), .val (.int ((q1 &&& (2147483647 : Int32)) % (9 : Int32))), .val (.long (((((((z0 ||| z1) ||| z2) ||| z3) ||| z4) ||| z5) ||| z6) ||| z7)), .second, .val (.long mk), .second, .val (.long x), .second, .val (.long r), .second, .val (.long (-9187201950435737472 : Int64)), .second, .val (.int (1 : Int32)), .val (.int k4)] [(.int k4), (.int (4 : Int32)), (.long r), (.long x)]))
            obtain ⟨_, T42, L42, X42, hQ42, st42⟩ := kCallS X38 hx hZ (argsL := [(.long x), (.long r), (.int (4 : Int32)), (.int k4)]) (rest := []) (c_bk l Z a0 hw x r (4 : Int32) k4 h0) hown (hw _ (List.mem_of_getElem? (i := 20) rfl)) (hw _ (List.mem_of_getElem? (i := 21) rfl)) (hw _ (List.mem_of_getElem? (i := 3) rfl)) (hw _ (List.mem_of_getElem? (i := 22) rfl)) (by decide) e38 (g := (mkF m 353 #[.val (.long q0), .second, .val (.int q1), .val (.int ((q1 &&& (2147483647 : Int32)) % (9 : Int32))), .val (.long (((((((z0 ||| z1) ||| z2) ||| z3) ||| z4) ||| z5) ||| z6) ||| z7)), .second, .val (.long mk), .second, .val (.long x), .second, .val (.long r), .second, .val (.long (-9187201950435737472 : Int64)), .second, .val (.int (1 : Int32)), .val (.int k4)] [(.int k4), (.int (4 : Int32)), (.long r), (.long x)])) rfl (by rw [hml]; rfl) (lenOf pd_4 rfl) rfl (W := 0) (by show 2 * 0 + _ ≤ _; exact Nat.le_of_eq rfl) (hb hby at_353) (by decide) (by decide) (by decide) (by decide)
            obtain ⟨rfl, rfl, e42⟩ := hQ42
            rw [List.append_nil] at X42
            refine GoOn.step st42 ?_
            show GoOn p e below _ (T42.setTop (mkF m 356 #[.val (.long q0), .second, .val (.int q1), .val (.int ((q1 &&& (2147483647 : Int32)) % (9 : Int32))), .val (.long (((((((z0 ||| z1) ||| z2) ||| z3) ||| z4) ||| z5) ||| z6) ||| z7)), .second, .val (.long mk), .second, .val (.long x), .second, .val (.long r), .second, .val (.long (-9187201950435737472 : Int64)), .second, .val (.int (1 : Int32)), .val (.int k4)] [(.int (okV x r (4 : Int32) k4))]))
            have hf43 : ¬ ((okV x r (4 : Int32) k4) = (0 : Int32)) := (okn4 x r hr k4 hi)
            refine GoOn.step (fun t₀ k₀ => XS.ifNo X42.here hx rfl (hb hby at_356) rfl ((if0 _ _).trans (feq hf43).1) k₀) ?_
            show GoOn p e below _ (T42.setTop (mkF m 359 #[.val (.long q0), .second, .val (.int q1), .val (.int ((q1 &&& (2147483647 : Int32)) % (9 : Int32))), .val (.long (((((((z0 ||| z1) ||| z2) ||| z3) ||| z4) ||| z5) ||| z6) ||| z7)), .second, .val (.long mk), .second, .val (.long x), .second, .val (.long r), .second, .val (.long (-9187201950435737472 : Int64)), .second, .val (.int (1 : Int32)), .val (.int k4)] []))
            refine GoOn.step (fun t₀ k₀ => XS.iconst X42.here hx rfl (hb hby at_359) k₀) ?_
            show GoOn p e below _ (T42.setTop (mkF m 360 #[.val (.long q0), .second, .val (.int q1), .val (.int ((q1 &&& (2147483647 : Int32)) % (9 : Int32))), .val (.long (((((((z0 ||| z1) ||| z2) ||| z3) ||| z4) ||| z5) ||| z6) ||| z7)), .second, .val (.long mk), .second, .val (.long x), .second, .val (.long r), .second, .val (.long (-9187201950435737472 : Int64)), .second, .val (.int (1 : Int32)), .val (.int k4)] [(.int (1 : Int32))]))
            refine GoOn.step (fun t₀ k₀ => XS.goto X42.here hx rfl (pc0 := 360) (pc' := 364) rfl (hb hby at_360) (by decide) (by decide) k₀) ?_
            show GoOn p e below _ (T42.setTop (mkF m 364 #[.val (.long q0), .second, .val (.int q1), .val (.int ((q1 &&& (2147483647 : Int32)) % (9 : Int32))), .val (.long (((((((z0 ||| z1) ||| z2) ||| z3) ||| z4) ||| z5) ||| z6) ||| z7)), .second, .val (.long mk), .second, .val (.long x), .second, .val (.long r), .second, .val (.long (-9187201950435737472 : Int64)), .second, .val (.int (1 : Int32)), .val (.int k4)] [(.int (1 : Int32))]))
            refine GoOn.step (fun t₀ k₀ => XS.istore X42.here hx rfl (hb hby at_364) rfl (l' := #[.val (.long q0), .second, .val (.int q1), .val (.int ((q1 &&& (2147483647 : Int32)) % (9 : Int32))), .val (.long (((((((z0 ||| z1) ||| z2) ||| z3) ||| z4) ||| z5) ||| z6) ||| z7)), .second, .val (.long mk), .second, .val (.long x), .second, .val (.long r), .second, .val (.long (-9187201950435737472 : Int64)), .second, .val (.int (1 : Int32)), .val (.int k4)]) rfl k₀) ?_
            show GoOn p e below _ (T42.setTop (mkF m 366 #[.val (.long q0), .second, .val (.int q1), .val (.int ((q1 &&& (2147483647 : Int32)) % (9 : Int32))), .val (.long (((((((z0 ||| z1) ||| z2) ||| z3) ||| z4) ||| z5) ||| z6) ||| z7)), .second, .val (.long mk), .second, .val (.long x), .second, .val (.long r), .second, .val (.long (-9187201950435737472 : Int64)), .second, .val (.int (1 : Int32)), .val (.int k4)] []))
            refine GoOn.step (fun t₀ k₀ => XS.iload X42.here hx rfl (hb hby at_366) rfl k₀) ?_
            show GoOn p e below _ (T42.setTop (mkF m 368 #[.val (.long q0), .second, .val (.int q1), .val (.int ((q1 &&& (2147483647 : Int32)) % (9 : Int32))), .val (.long (((((((z0 ||| z1) ||| z2) ||| z3) ||| z4) ||| z5) ||| z6) ||| z7)), .second, .val (.long mk), .second, .val (.long x), .second, .val (.long r), .second, .val (.long (-9187201950435737472 : Int64)), .second, .val (.int (1 : Int32)), .val (.int k4)] [(.int k4)]))
            have J4 : ∀ (T44 : State) (_ : Stand p l e room_1 s m #[(.long q0), (.int q1)] below meth c T44 [] 0 0) (_ : T44.heap = h0) (k5 : Int32) (_ : InvB x 5 k5), GoOn p e below (EndQ s room_1 (LQ n0)) (T44.setTop (mkF m 390 #[.val (.long q0), .second, .val (.int q1), .val (.int ((q1 &&& (2147483647 : Int32)) % (9 : Int32))), .val (.long (((((((z0 ||| z1) ||| z2) ||| z3) ||| z4) ||| z5) ||| z6) ||| z7)), .second, .val (.long mk), .second, .val (.long x), .second, .val (.long r), .second, .val (.long (-9187201950435737472 : Int64)), .second, .val (.int (1 : Int32)), .val (.int k5)] [])) := by
              intro T44 X44 e44 k5 hi
              refine GoOn.step (fun t₀ k₀ => XS.iload X44.here hx rfl (hb hby at_390) rfl k₀) ?_
              show GoOn p e below _ (T44.setTop (mkF m 392 #[.val (.long q0), .second, .val (.int q1), .val (.int ((q1 &&& (2147483647 : Int32)) % (9 : Int32))), .val (.long (((((((z0 ||| z1) ||| z2) ||| z3) ||| z4) ||| z5) ||| z6) ||| z7)), .second, .val (.long mk), .second, .val (.long x), .second, .val (.long r), .second, .val (.long (-9187201950435737472 : Int64)), .second, .val (.int (1 : Int32)), .val (.int k5)] [(.int (1 : Int32))]))
              have hf47 : ¬ ((1 : Int32) = (0 : Int32)) := (by decide)
              refine GoOn.step (fun t₀ k₀ => XS.ifNo X44.here hx rfl (hb hby at_392) rfl ((if0 _ _).trans (feq hf47).1) k₀) ?_
              show GoOn p e below _ (T44.setTop (mkF m 395 #[.val (.long q0), .second, .val (.int q1), .val (.int ((q1 &&& (2147483647 : Int32)) % (9 : Int32))), .val (.long (((((((z0 ||| z1) ||| z2) ||| z3) ||| z4) ||| z5) ||| z6) ||| z7)), .second, .val (.long mk), .second, .val (.long x), .second, .val (.long r), .second, .val (.long (-9187201950435737472 : Int64)), .second, .val (.int (1 : Int32)), .val (.int k5)] []))
              refine GoOn.step (fun t₀ k₀ => XS.lload X44.here hx rfl (hb hby at_395) rfl k₀) ?_
              show GoOn p e below _ (T44.setTop (mkF m 397 #[.val (.long q0), .second, .val (.int q1), .val (.int ((q1 &&& (2147483647 : Int32)) % (9 : Int32))), .val (.long (((((((z0 ||| z1) ||| z2) ||| z3) ||| z4) ||| z5) ||| z6) ||| z7)), .second, .val (.long mk), .second, .val (.long x), .second, .val (.long r), .second, .val (.long (-9187201950435737472 : Int64)), .second, .val (.int (1 : Int32)), .val (.int k5)] [(.long x)]))
              refine GoOn.step (fun t₀ k₀ => XS.lload X44.here hx rfl (hb hby at_397) rfl k₀) ?_
              show GoOn p e below _ (T44.setTop (mkF m 399 #[.val (.long q0), .second, .val (.int q1), .val (.int ((q1 &&& (2147483647 : Int32)) % (9 : Int32))), .val (.long (((((((z0 ||| z1) ||| z2) ||| z3) ||| z4) ||| z5) ||| z6) ||| z7)), .second, .val (.long mk), .second, .val (.long x), .second, .val (.long r), .second, .val (.long (-9187201950435737472 : Int64)), .second, .val (.int (1 : Int32)), .val (.int k5)] [(.long r), (.long x)]))
              refine GoOn.step (fun t₀ k₀ => XS.iconst X44.here hx rfl (hb hby at_399) k₀) ?_
              show GoOn p e below _ (T44.setTop (mkF m 400 #[.val (.long q0), .second, .val (.int q1), .val (.int ((q1 &&& (2147483647 : Int32)) % (9 : Int32))), .val (.long (((((((z0 ||| z1) ||| z2) ||| z3) ||| z4) ||| z5) ||| z6) ||| z7)), .second, .val (.long mk), .second, .val (.long x), .second, .val (.long r), .second, .val (.long (-9187201950435737472 : Int64)), .second, .val (.int (1 : Int32)), .val (.int k5)] [(.int (5 : Int32)), (.long r), (.long x)]))
              refine GoOn.step (fun t₀ k₀ => XS.iload X44.here hx rfl (hb hby at_400) rfl k₀) ?_
              show GoOn p e below _ (T44.setTop (mkF m 402 #[.val (.long q0), .second, .val (.int q1), .val (.int ((q1 &&& (2147483647 : Int32)) % (9 : Int32))), .val (.long (((((((z0 ||| z1) ||| z2) ||| z3) ||| z4) ||| z5) ||| z6) ||| z7)), .second, .val (.long mk), .second, .val (.long x), .second, .val (.long r), .second, .val (.long (-9187201950435737472 : Int64)), .second, .val (.int (1 : Int32)), .val (.int k5)] [(.int k5), (.int (5 : Int32)), (.long r), (.long x)]))
              obtain ⟨_, T48, L48, X48, hQ48, st48⟩ := kCallS X44 hx hZ (argsL := [(.long x), (.long r), (.int (5 : Int32)), (.int k5)]) (rest := []) (c_bk l Z a0 hw x r (5 : Int32) k5 h0) hown (hw _ (List.mem_of_getElem? (i := 20) rfl)) (hw _ (List.mem_of_getElem? (i := 21) rfl)) (hw _ (List.mem_of_getElem? (i := 3) rfl)) (hw _ (List.mem_of_getElem? (i := 22) rfl)) (by decide) e44 (g := (mkF m 402 #[.val (.long q0), .second, .val (.int q1), .val (.int ((q1 &&& (2147483647 : Int32)) % (9 : Int32))), .val (.long (((((((z0 ||| z1) ||| z2) ||| z3) ||| z4) ||| z5) ||| z6) ||| z7)), .second, .val (.long mk), .second, .val (.long x), .second, .val (.long r), .second, .val (.long (-9187201950435737472 : Int64)), .second, .val (.int (1 : Int32)), .val (.int k5)] [(.int k5), (.int (5 : Int32)), (.long r), (.long x)])) rfl (by rw [hml]; rfl) (lenOf pd_4 rfl) rfl (W := 0) (by show 2 * 0 + _ ≤ _; exact Nat.le_of_eq rfl) (hb hby at_402) (by decide) (by decide) (by decide) (by decide)
              obtain ⟨rfl, rfl, e48⟩ := hQ48
              rw [List.append_nil] at X48
              refine GoOn.step st48 ?_
              show GoOn p e below _ (T48.setTop (mkF m 405 #[.val (.long q0), .second, .val (.int q1), .val (.int ((q1 &&& (2147483647 : Int32)) % (9 : Int32))), .val (.long (((((((z0 ||| z1) ||| z2) ||| z3) ||| z4) ||| z5) ||| z6) ||| z7)), .second, .val (.long mk), .second, .val (.long x), .second, .val (.long r), .second, .val (.long (-9187201950435737472 : Int64)), .second, .val (.int (1 : Int32)), .val (.int k5)] [(.int (okV x r (5 : Int32) k5))]))
              have hf49 : ¬ ((okV x r (5 : Int32) k5) = (0 : Int32)) := (okn5 x r hr k5 hi)
              refine GoOn.step (fun t₀ k₀ => XS.ifNo X48.here hx rfl (hb hby at_405) rfl ((if0 _ _).trans (feq hf49).1) k₀) ?_
              show GoOn p e below _ (T48.setTop (mkF m 408 #[.val (.long q0), .second, .val (.int q1), .val (.int ((q1 &&& (2147483647 : Int32)) % (9 : Int32))), .val (.long (((((((z0 ||| z1) ||| z2) ||| z3) ||| z4) ||| z5) ||| z6) ||| z7)), .second, .val (.long mk), .second, .val (.long x), .second, .val (.long r), .second, .val (.long (-9187201950435737472 : Int64)), .second, .val (.int (1 : Int32)), .val (.int k5)] []))
              refine GoOn.step (fun t₀ k₀ => XS.iconst X48.here hx rfl (hb hby at_408) k₀) ?_
              show GoOn p e below _ (T48.setTop (mkF m 409 #[.val (.long q0), .second, .val (.int q1), .val (.int ((q1 &&& (2147483647 : Int32)) % (9 : Int32))), .val (.long (((((((z0 ||| z1) ||| z2) ||| z3) ||| z4) ||| z5) ||| z6) ||| z7)), .second, .val (.long mk), .second, .val (.long x), .second, .val (.long r), .second, .val (.long (-9187201950435737472 : Int64)), .second, .val (.int (1 : Int32)), .val (.int k5)] [(.int (1 : Int32))]))
              refine GoOn.step (fun t₀ k₀ => XS.goto X48.here hx rfl (pc0 := 409) (pc' := 413) rfl (hb hby at_409) (by decide) (by decide) k₀) ?_
              show GoOn p e below _ (T48.setTop (mkF m 413 #[.val (.long q0), .second, .val (.int q1), .val (.int ((q1 &&& (2147483647 : Int32)) % (9 : Int32))), .val (.long (((((((z0 ||| z1) ||| z2) ||| z3) ||| z4) ||| z5) ||| z6) ||| z7)), .second, .val (.long mk), .second, .val (.long x), .second, .val (.long r), .second, .val (.long (-9187201950435737472 : Int64)), .second, .val (.int (1 : Int32)), .val (.int k5)] [(.int (1 : Int32))]))
              refine GoOn.step (fun t₀ k₀ => XS.istore X48.here hx rfl (hb hby at_413) rfl (l' := #[.val (.long q0), .second, .val (.int q1), .val (.int ((q1 &&& (2147483647 : Int32)) % (9 : Int32))), .val (.long (((((((z0 ||| z1) ||| z2) ||| z3) ||| z4) ||| z5) ||| z6) ||| z7)), .second, .val (.long mk), .second, .val (.long x), .second, .val (.long r), .second, .val (.long (-9187201950435737472 : Int64)), .second, .val (.int (1 : Int32)), .val (.int k5)]) rfl k₀) ?_
              show GoOn p e below _ (T48.setTop (mkF m 415 #[.val (.long q0), .second, .val (.int q1), .val (.int ((q1 &&& (2147483647 : Int32)) % (9 : Int32))), .val (.long (((((((z0 ||| z1) ||| z2) ||| z3) ||| z4) ||| z5) ||| z6) ||| z7)), .second, .val (.long mk), .second, .val (.long x), .second, .val (.long r), .second, .val (.long (-9187201950435737472 : Int64)), .second, .val (.int (1 : Int32)), .val (.int k5)] []))
              refine GoOn.step (fun t₀ k₀ => XS.iload X48.here hx rfl (hb hby at_415) rfl k₀) ?_
              show GoOn p e below _ (T48.setTop (mkF m 417 #[.val (.long q0), .second, .val (.int q1), .val (.int ((q1 &&& (2147483647 : Int32)) % (9 : Int32))), .val (.long (((((((z0 ||| z1) ||| z2) ||| z3) ||| z4) ||| z5) ||| z6) ||| z7)), .second, .val (.long mk), .second, .val (.long x), .second, .val (.long r), .second, .val (.long (-9187201950435737472 : Int64)), .second, .val (.int (1 : Int32)), .val (.int k5)] [(.int k5)]))
              have J5 : ∀ (T50 : State) (_ : Stand p l e room_1 s m #[(.long q0), (.int q1)] below meth c T50 [] 0 0) (_ : T50.heap = h0) (k6 : Int32) (_ : InvB x 6 k6), GoOn p e below (EndQ s room_1 (LQ n0)) (T50.setTop (mkF m 439 #[.val (.long q0), .second, .val (.int q1), .val (.int ((q1 &&& (2147483647 : Int32)) % (9 : Int32))), .val (.long (((((((z0 ||| z1) ||| z2) ||| z3) ||| z4) ||| z5) ||| z6) ||| z7)), .second, .val (.long mk), .second, .val (.long x), .second, .val (.long r), .second, .val (.long (-9187201950435737472 : Int64)), .second, .val (.int (1 : Int32)), .val (.int k6)] [])) := by
                intro T50 X50 e50 k6 hi
                refine GoOn.step (fun t₀ k₀ => XS.iload X50.here hx rfl (hb hby at_439) rfl k₀) ?_
                show GoOn p e below _ (T50.setTop (mkF m 441 #[.val (.long q0), .second, .val (.int q1), .val (.int ((q1 &&& (2147483647 : Int32)) % (9 : Int32))), .val (.long (((((((z0 ||| z1) ||| z2) ||| z3) ||| z4) ||| z5) ||| z6) ||| z7)), .second, .val (.long mk), .second, .val (.long x), .second, .val (.long r), .second, .val (.long (-9187201950435737472 : Int64)), .second, .val (.int (1 : Int32)), .val (.int k6)] [(.int (1 : Int32))]))
                have hf53 : ¬ ((1 : Int32) = (0 : Int32)) := (by decide)
                refine GoOn.step (fun t₀ k₀ => XS.ifNo X50.here hx rfl (hb hby at_441) rfl ((if0 _ _).trans (feq hf53).1) k₀) ?_
                show GoOn p e below _ (T50.setTop (mkF m 444 #[.val (.long q0), .second, .val (.int q1), .val (.int ((q1 &&& (2147483647 : Int32)) % (9 : Int32))), .val (.long (((((((z0 ||| z1) ||| z2) ||| z3) ||| z4) ||| z5) ||| z6) ||| z7)), .second, .val (.long mk), .second, .val (.long x), .second, .val (.long r), .second, .val (.long (-9187201950435737472 : Int64)), .second, .val (.int (1 : Int32)), .val (.int k6)] []))
                refine GoOn.step (fun t₀ k₀ => XS.lload X50.here hx rfl (hb hby at_444) rfl k₀) ?_
                show GoOn p e below _ (T50.setTop (mkF m 446 #[.val (.long q0), .second, .val (.int q1), .val (.int ((q1 &&& (2147483647 : Int32)) % (9 : Int32))), .val (.long (((((((z0 ||| z1) ||| z2) ||| z3) ||| z4) ||| z5) ||| z6) ||| z7)), .second, .val (.long mk), .second, .val (.long x), .second, .val (.long r), .second, .val (.long (-9187201950435737472 : Int64)), .second, .val (.int (1 : Int32)), .val (.int k6)] [(.long x)]))
                refine GoOn.step (fun t₀ k₀ => XS.lload X50.here hx rfl (hb hby at_446) rfl k₀) ?_
                show GoOn p e below _ (T50.setTop (mkF m 448 #[.val (.long q0), .second, .val (.int q1), .val (.int ((q1 &&& (2147483647 : Int32)) % (9 : Int32))), .val (.long (((((((z0 ||| z1) ||| z2) ||| z3) ||| z4) ||| z5) ||| z6) ||| z7)), .second, .val (.long mk), .second, .val (.long x), .second, .val (.long r), .second, .val (.long (-9187201950435737472 : Int64)), .second, .val (.int (1 : Int32)), .val (.int k6)] [(.long r), (.long x)]))
                refine GoOn.step (fun t₀ k₀ => XS.bipush X50.here hx rfl (hb hby at_448) k₀) ?_
                show GoOn p e below _ (T50.setTop (mkF m 450 #[.val (.long q0), .second, .val (.int q1), .val (.int ((q1 &&& (2147483647 : Int32)) % (9 : Int32))), .val (.long (((((((z0 ||| z1) ||| z2) ||| z3) ||| z4) ||| z5) ||| z6) ||| z7)), .second, .val (.long mk), .second, .val (.long x), .second, .val (.long r), .second, .val (.long (-9187201950435737472 : Int64)), .second, .val (.int (1 : Int32)), .val (.int k6)] [(.int (6 : Int32)), (.long r), (.long x)]))
                refine GoOn.step (fun t₀ k₀ => XS.iload X50.here hx rfl (hb hby at_450) rfl k₀) ?_
                show GoOn p e below _ (T50.setTop (mkF m 452 #[.val (.long q0), .second, .val (.int q1), .val (.int ((q1 &&& (2147483647 : Int32)) % (9 : Int32))), .val (.long (((((((z0 ||| z1) ||| z2) ||| z3) ||| z4) ||| z5) ||| z6) ||| z7)), .second, .val (.long mk), .second, .val (.long x), .second, .val (.long r), .second, .val (.long (-9187201950435737472 : Int64)), .second, .val (.int (1 : Int32)), .val (.int k6)] [(.int k6), (.int (6 : Int32)), (.long r), (.long x)]))
                obtain ⟨_, T54, L54, X54, hQ54, st54⟩ := kCallS X50 hx hZ (argsL := [(.long x), (.long r), (.int (6 : Int32)), (.int k6)]) (rest := []) (c_bk l Z a0 hw x r (6 : Int32) k6 h0) hown (hw _ (List.mem_of_getElem? (i := 20) rfl)) (hw _ (List.mem_of_getElem? (i := 21) rfl)) (hw _ (List.mem_of_getElem? (i := 3) rfl)) (hw _ (List.mem_of_getElem? (i := 22) rfl)) (by decide) e50 (g := (mkF m 452 #[.val (.long q0), .second, .val (.int q1), .val (.int ((q1 &&& (2147483647 : Int32)) % (9 : Int32))), .val (.long (((((((z0 ||| z1) ||| z2) ||| z3) ||| z4) ||| z5) ||| z6) ||| z7)), .second, .val (.long mk), .second, .val (.long x), .second, .val (.long r), .second, .val (.long (-9187201950435737472 : Int64)), .second, .val (.int (1 : Int32)), .val (.int k6)] [(.int k6), (.int (6 : Int32)), (.long r), (.long x)])) rfl (by rw [hml]; rfl) (lenOf pd_4 rfl) rfl (W := 0) (by show 2 * 0 + _ ≤ _; exact Nat.le_of_eq rfl) (hb hby at_452) (by decide) (by decide) (by decide) (by decide)
                obtain ⟨rfl, rfl, e54⟩ := hQ54
                rw [List.append_nil] at X54
                refine GoOn.step st54 ?_
                show GoOn p e below _ (T54.setTop (mkF m 455 #[.val (.long q0), .second, .val (.int q1), .val (.int ((q1 &&& (2147483647 : Int32)) % (9 : Int32))), .val (.long (((((((z0 ||| z1) ||| z2) ||| z3) ||| z4) ||| z5) ||| z6) ||| z7)), .second, .val (.long mk), .second, .val (.long x), .second, .val (.long r), .second, .val (.long (-9187201950435737472 : Int64)), .second, .val (.int (1 : Int32)), .val (.int k6)] [(.int (okV x r (6 : Int32) k6))]))
                have hf55 : ¬ ((okV x r (6 : Int32) k6) = (0 : Int32)) := (okn6 x r hr k6 hi)
                refine GoOn.step (fun t₀ k₀ => XS.ifNo X54.here hx rfl (hb hby at_455) rfl ((if0 _ _).trans (feq hf55).1) k₀) ?_
                show GoOn p e below _ (T54.setTop (mkF m 458 #[.val (.long q0), .second, .val (.int q1), .val (.int ((q1 &&& (2147483647 : Int32)) % (9 : Int32))), .val (.long (((((((z0 ||| z1) ||| z2) ||| z3) ||| z4) ||| z5) ||| z6) ||| z7)), .second, .val (.long mk), .second, .val (.long x), .second, .val (.long r), .second, .val (.long (-9187201950435737472 : Int64)), .second, .val (.int (1 : Int32)), .val (.int k6)] []))
                refine GoOn.step (fun t₀ k₀ => XS.iconst X54.here hx rfl (hb hby at_458) k₀) ?_
                show GoOn p e below _ (T54.setTop (mkF m 459 #[.val (.long q0), .second, .val (.int q1), .val (.int ((q1 &&& (2147483647 : Int32)) % (9 : Int32))), .val (.long (((((((z0 ||| z1) ||| z2) ||| z3) ||| z4) ||| z5) ||| z6) ||| z7)), .second, .val (.long mk), .second, .val (.long x), .second, .val (.long r), .second, .val (.long (-9187201950435737472 : Int64)), .second, .val (.int (1 : Int32)), .val (.int k6)] [(.int (1 : Int32))]))
                refine GoOn.step (fun t₀ k₀ => XS.goto X54.here hx rfl (pc0 := 459) (pc' := 463) rfl (hb hby at_459) (by decide) (by decide) k₀) ?_
                show GoOn p e below _ (T54.setTop (mkF m 463 #[.val (.long q0), .second, .val (.int q1), .val (.int ((q1 &&& (2147483647 : Int32)) % (9 : Int32))), .val (.long (((((((z0 ||| z1) ||| z2) ||| z3) ||| z4) ||| z5) ||| z6) ||| z7)), .second, .val (.long mk), .second, .val (.long x), .second, .val (.long r), .second, .val (.long (-9187201950435737472 : Int64)), .second, .val (.int (1 : Int32)), .val (.int k6)] [(.int (1 : Int32))]))
                refine GoOn.step (fun t₀ k₀ => XS.istore X54.here hx rfl (hb hby at_463) rfl (l' := #[.val (.long q0), .second, .val (.int q1), .val (.int ((q1 &&& (2147483647 : Int32)) % (9 : Int32))), .val (.long (((((((z0 ||| z1) ||| z2) ||| z3) ||| z4) ||| z5) ||| z6) ||| z7)), .second, .val (.long mk), .second, .val (.long x), .second, .val (.long r), .second, .val (.long (-9187201950435737472 : Int64)), .second, .val (.int (1 : Int32)), .val (.int k6)]) rfl k₀) ?_
                show GoOn p e below _ (T54.setTop (mkF m 465 #[.val (.long q0), .second, .val (.int q1), .val (.int ((q1 &&& (2147483647 : Int32)) % (9 : Int32))), .val (.long (((((((z0 ||| z1) ||| z2) ||| z3) ||| z4) ||| z5) ||| z6) ||| z7)), .second, .val (.long mk), .second, .val (.long x), .second, .val (.long r), .second, .val (.long (-9187201950435737472 : Int64)), .second, .val (.int (1 : Int32)), .val (.int k6)] []))
                refine GoOn.step (fun t₀ k₀ => XS.iload X54.here hx rfl (hb hby at_465) rfl k₀) ?_
                show GoOn p e below _ (T54.setTop (mkF m 467 #[.val (.long q0), .second, .val (.int q1), .val (.int ((q1 &&& (2147483647 : Int32)) % (9 : Int32))), .val (.long (((((((z0 ||| z1) ||| z2) ||| z3) ||| z4) ||| z5) ||| z6) ||| z7)), .second, .val (.long mk), .second, .val (.long x), .second, .val (.long r), .second, .val (.long (-9187201950435737472 : Int64)), .second, .val (.int (1 : Int32)), .val (.int k6)] [(.int k6)]))
                have J6 : ∀ (T56 : State) (_ : Stand p l e room_1 s m #[(.long q0), (.int q1)] below meth c T56 [] 0 0) (_ : T56.heap = h0) (k7 : Int32) (_ : InvB x 7 k7), GoOn p e below (EndQ s room_1 (LQ n0)) (T56.setTop (mkF m 490 #[.val (.long q0), .second, .val (.int q1), .val (.int ((q1 &&& (2147483647 : Int32)) % (9 : Int32))), .val (.long (((((((z0 ||| z1) ||| z2) ||| z3) ||| z4) ||| z5) ||| z6) ||| z7)), .second, .val (.long mk), .second, .val (.long x), .second, .val (.long r), .second, .val (.long (-9187201950435737472 : Int64)), .second, .val (.int (1 : Int32)), .val (.int k7)] [])) := by
                  intro T56 X56 e56 k7 hi
                  refine GoOn.step (fun t₀ k₀ => XS.iload X56.here hx rfl (hb hby at_490) rfl k₀) ?_
                  show GoOn p e below _ (T56.setTop (mkF m 492 #[.val (.long q0), .second, .val (.int q1), .val (.int ((q1 &&& (2147483647 : Int32)) % (9 : Int32))), .val (.long (((((((z0 ||| z1) ||| z2) ||| z3) ||| z4) ||| z5) ||| z6) ||| z7)), .second, .val (.long mk), .second, .val (.long x), .second, .val (.long r), .second, .val (.long (-9187201950435737472 : Int64)), .second, .val (.int (1 : Int32)), .val (.int k7)] [(.int (1 : Int32))]))
                  have hf59 : ¬ ((1 : Int32) = (0 : Int32)) := (by decide)
                  refine GoOn.step (fun t₀ k₀ => XS.ifNo X56.here hx rfl (hb hby at_492) rfl ((if0 _ _).trans (feq hf59).1) k₀) ?_
                  show GoOn p e below _ (T56.setTop (mkF m 495 #[.val (.long q0), .second, .val (.int q1), .val (.int ((q1 &&& (2147483647 : Int32)) % (9 : Int32))), .val (.long (((((((z0 ||| z1) ||| z2) ||| z3) ||| z4) ||| z5) ||| z6) ||| z7)), .second, .val (.long mk), .second, .val (.long x), .second, .val (.long r), .second, .val (.long (-9187201950435737472 : Int64)), .second, .val (.int (1 : Int32)), .val (.int k7)] []))
                  refine GoOn.step (fun t₀ k₀ => XS.lload X56.here hx rfl (hb hby at_495) rfl k₀) ?_
                  show GoOn p e below _ (T56.setTop (mkF m 497 #[.val (.long q0), .second, .val (.int q1), .val (.int ((q1 &&& (2147483647 : Int32)) % (9 : Int32))), .val (.long (((((((z0 ||| z1) ||| z2) ||| z3) ||| z4) ||| z5) ||| z6) ||| z7)), .second, .val (.long mk), .second, .val (.long x), .second, .val (.long r), .second, .val (.long (-9187201950435737472 : Int64)), .second, .val (.int (1 : Int32)), .val (.int k7)] [(.long x)]))
                  refine GoOn.step (fun t₀ k₀ => XS.lload X56.here hx rfl (hb hby at_497) rfl k₀) ?_
                  show GoOn p e below _ (T56.setTop (mkF m 499 #[.val (.long q0), .second, .val (.int q1), .val (.int ((q1 &&& (2147483647 : Int32)) % (9 : Int32))), .val (.long (((((((z0 ||| z1) ||| z2) ||| z3) ||| z4) ||| z5) ||| z6) ||| z7)), .second, .val (.long mk), .second, .val (.long x), .second, .val (.long r), .second, .val (.long (-9187201950435737472 : Int64)), .second, .val (.int (1 : Int32)), .val (.int k7)] [(.long r), (.long x)]))
                  refine GoOn.step (fun t₀ k₀ => XS.bipush X56.here hx rfl (hb hby at_499) k₀) ?_
                  show GoOn p e below _ (T56.setTop (mkF m 501 #[.val (.long q0), .second, .val (.int q1), .val (.int ((q1 &&& (2147483647 : Int32)) % (9 : Int32))), .val (.long (((((((z0 ||| z1) ||| z2) ||| z3) ||| z4) ||| z5) ||| z6) ||| z7)), .second, .val (.long mk), .second, .val (.long x), .second, .val (.long r), .second, .val (.long (-9187201950435737472 : Int64)), .second, .val (.int (1 : Int32)), .val (.int k7)] [(.int (7 : Int32)), (.long r), (.long x)]))
                  refine GoOn.step (fun t₀ k₀ => XS.iload X56.here hx rfl (hb hby at_501) rfl k₀) ?_
                  show GoOn p e below _ (T56.setTop (mkF m 503 #[.val (.long q0), .second, .val (.int q1), .val (.int ((q1 &&& (2147483647 : Int32)) % (9 : Int32))), .val (.long (((((((z0 ||| z1) ||| z2) ||| z3) ||| z4) ||| z5) ||| z6) ||| z7)), .second, .val (.long mk), .second, .val (.long x), .second, .val (.long r), .second, .val (.long (-9187201950435737472 : Int64)), .second, .val (.int (1 : Int32)), .val (.int k7)] [(.int k7), (.int (7 : Int32)), (.long r), (.long x)]))
                  obtain ⟨_, T60, L60, X60, hQ60, st60⟩ := kCallS X56 hx hZ (argsL := [(.long x), (.long r), (.int (7 : Int32)), (.int k7)]) (rest := []) (c_bk l Z a0 hw x r (7 : Int32) k7 h0) hown (hw _ (List.mem_of_getElem? (i := 20) rfl)) (hw _ (List.mem_of_getElem? (i := 21) rfl)) (hw _ (List.mem_of_getElem? (i := 3) rfl)) (hw _ (List.mem_of_getElem? (i := 22) rfl)) (by decide) e56 (g := (mkF m 503 #[.val (.long q0), .second, .val (.int q1), .val (.int ((q1 &&& (2147483647 : Int32)) % (9 : Int32))), .val (.long (((((((z0 ||| z1) ||| z2) ||| z3) ||| z4) ||| z5) ||| z6) ||| z7)), .second, .val (.long mk), .second, .val (.long x), .second, .val (.long r), .second, .val (.long (-9187201950435737472 : Int64)), .second, .val (.int (1 : Int32)), .val (.int k7)] [(.int k7), (.int (7 : Int32)), (.long r), (.long x)])) rfl (by rw [hml]; rfl) (lenOf pd_4 rfl) rfl (W := 0) (by show 2 * 0 + _ ≤ _; exact Nat.le_of_eq rfl) (hb hby at_503) (by decide) (by decide) (by decide) (by decide)
                  obtain ⟨rfl, rfl, e60⟩ := hQ60
                  rw [List.append_nil] at X60
                  refine GoOn.step st60 ?_
                  show GoOn p e below _ (T60.setTop (mkF m 506 #[.val (.long q0), .second, .val (.int q1), .val (.int ((q1 &&& (2147483647 : Int32)) % (9 : Int32))), .val (.long (((((((z0 ||| z1) ||| z2) ||| z3) ||| z4) ||| z5) ||| z6) ||| z7)), .second, .val (.long mk), .second, .val (.long x), .second, .val (.long r), .second, .val (.long (-9187201950435737472 : Int64)), .second, .val (.int (1 : Int32)), .val (.int k7)] [(.int (okV x r (7 : Int32) k7))]))
                  have hf61 : ¬ ((okV x r (7 : Int32) k7) = (0 : Int32)) := (okn7 x r hr k7 hi)
                  refine GoOn.step (fun t₀ k₀ => XS.ifNo X60.here hx rfl (hb hby at_506) rfl ((if0 _ _).trans (feq hf61).1) k₀) ?_
                  show GoOn p e below _ (T60.setTop (mkF m 509 #[.val (.long q0), .second, .val (.int q1), .val (.int ((q1 &&& (2147483647 : Int32)) % (9 : Int32))), .val (.long (((((((z0 ||| z1) ||| z2) ||| z3) ||| z4) ||| z5) ||| z6) ||| z7)), .second, .val (.long mk), .second, .val (.long x), .second, .val (.long r), .second, .val (.long (-9187201950435737472 : Int64)), .second, .val (.int (1 : Int32)), .val (.int k7)] []))
                  refine GoOn.step (fun t₀ k₀ => XS.iconst X60.here hx rfl (hb hby at_509) k₀) ?_
                  show GoOn p e below _ (T60.setTop (mkF m 510 #[.val (.long q0), .second, .val (.int q1), .val (.int ((q1 &&& (2147483647 : Int32)) % (9 : Int32))), .val (.long (((((((z0 ||| z1) ||| z2) ||| z3) ||| z4) ||| z5) ||| z6) ||| z7)), .second, .val (.long mk), .second, .val (.long x), .second, .val (.long r), .second, .val (.long (-9187201950435737472 : Int64)), .second, .val (.int (1 : Int32)), .val (.int k7)] [(.int (1 : Int32))]))
                  refine GoOn.step (fun t₀ k₀ => XS.goto X60.here hx rfl (pc0 := 510) (pc' := 514) rfl (hb hby at_510) (by decide) (by decide) k₀) ?_
                  show GoOn p e below _ (T60.setTop (mkF m 514 #[.val (.long q0), .second, .val (.int q1), .val (.int ((q1 &&& (2147483647 : Int32)) % (9 : Int32))), .val (.long (((((((z0 ||| z1) ||| z2) ||| z3) ||| z4) ||| z5) ||| z6) ||| z7)), .second, .val (.long mk), .second, .val (.long x), .second, .val (.long r), .second, .val (.long (-9187201950435737472 : Int64)), .second, .val (.int (1 : Int32)), .val (.int k7)] [(.int (1 : Int32))]))
                  refine GoOn.step (fun t₀ k₀ => XS.istore X60.here hx rfl (hb hby at_514) rfl (l' := #[.val (.long q0), .second, .val (.int q1), .val (.int ((q1 &&& (2147483647 : Int32)) % (9 : Int32))), .val (.long (((((((z0 ||| z1) ||| z2) ||| z3) ||| z4) ||| z5) ||| z6) ||| z7)), .second, .val (.long mk), .second, .val (.long x), .second, .val (.long r), .second, .val (.long (-9187201950435737472 : Int64)), .second, .val (.int (1 : Int32)), .val (.int k7)]) rfl k₀) ?_
                  show GoOn p e below _ (T60.setTop (mkF m 516 #[.val (.long q0), .second, .val (.int q1), .val (.int ((q1 &&& (2147483647 : Int32)) % (9 : Int32))), .val (.long (((((((z0 ||| z1) ||| z2) ||| z3) ||| z4) ||| z5) ||| z6) ||| z7)), .second, .val (.long mk), .second, .val (.long x), .second, .val (.long r), .second, .val (.long (-9187201950435737472 : Int64)), .second, .val (.int (1 : Int32)), .val (.int k7)] []))
                  refine GoOn.step (fun t₀ k₀ => XS.iload X60.here hx rfl (hb hby at_516) rfl k₀) ?_
                  show GoOn p e below _ (T60.setTop (mkF m 518 #[.val (.long q0), .second, .val (.int q1), .val (.int ((q1 &&& (2147483647 : Int32)) % (9 : Int32))), .val (.long (((((((z0 ||| z1) ||| z2) ||| z3) ||| z4) ||| z5) ||| z6) ||| z7)), .second, .val (.long mk), .second, .val (.long x), .second, .val (.long r), .second, .val (.long (-9187201950435737472 : Int64)), .second, .val (.int (1 : Int32)), .val (.int k7)] [(.int (1 : Int32))]))
                  exact GoOn.retN X60 hx hrt hlk (by simp) (hb hby at_518) (by decide) (by decide) (by first | exact ⟨rfl, N0⟩ | (rw [e60]; exact ⟨rfl, N0⟩))
                by_cases d0 : k6 = (0 : Int32)
                · refine GoOn.step (fun t₀ k₀ => XS.ifYes X54.here hx rfl (pc0 := 467) (pc' := 487) rfl (hb hby at_467) rfl ((if0 _ _).trans (teq d0).1) (by decide) (by decide) k₀) ?_
                  show GoOn p e below _ (T54.setTop (mkF m 487 #[.val (.long q0), .second, .val (.int q1), .val (.int ((q1 &&& (2147483647 : Int32)) % (9 : Int32))), .val (.long (((((((z0 ||| z1) ||| z2) ||| z3) ||| z4) ||| z5) ||| z6) ||| z7)), .second, .val (.long mk), .second, .val (.long x), .second, .val (.long r), .second, .val (.long (-9187201950435737472 : Int64)), .second, .val (.int (1 : Int32)), .val (.int k6)] []))
                  refine GoOn.step (fun t₀ k₀ => XS.iconst X54.here hx rfl (hb hby at_487) k₀) ?_
                  show GoOn p e below _ (T54.setTop (mkF m 488 #[.val (.long q0), .second, .val (.int q1), .val (.int ((q1 &&& (2147483647 : Int32)) % (9 : Int32))), .val (.long (((((((z0 ||| z1) ||| z2) ||| z3) ||| z4) ||| z5) ||| z6) ||| z7)), .second, .val (.long mk), .second, .val (.long x), .second, .val (.long r), .second, .val (.long (-9187201950435737472 : Int64)), .second, .val (.int (1 : Int32)), .val (.int k6)] [(.int (0 : Int32))]))
                  refine GoOn.step (fun t₀ k₀ => XS.istore X54.here hx rfl (hb hby at_488) rfl (l' := #[.val (.long q0), .second, .val (.int q1), .val (.int ((q1 &&& (2147483647 : Int32)) % (9 : Int32))), .val (.long (((((((z0 ||| z1) ||| z2) ||| z3) ||| z4) ||| z5) ||| z6) ||| z7)), .second, .val (.long mk), .second, .val (.long x), .second, .val (.long r), .second, .val (.long (-9187201950435737472 : Int64)), .second, .val (.int (1 : Int32)), .val (.int (0 : Int32))]) rfl k₀) ?_
                  show GoOn p e below _ (T54.setTop (mkF m 490 #[.val (.long q0), .second, .val (.int q1), .val (.int ((q1 &&& (2147483647 : Int32)) % (9 : Int32))), .val (.long (((((((z0 ||| z1) ||| z2) ||| z3) ||| z4) ||| z5) ||| z6) ||| z7)), .second, .val (.long mk), .second, .val (.long x), .second, .val (.long r), .second, .val (.long (-9187201950435737472 : Int64)), .second, .val (.int (1 : Int32)), .val (.int (0 : Int32))] []))
                  exact J6 _ X54 e54 _ (Or.inl rfl)
                · refine GoOn.step (fun t₀ k₀ => XS.ifNo X54.here hx rfl (hb hby at_467) rfl ((if0 _ _).trans (feq d0).1) k₀) ?_
                  show GoOn p e below _ (T54.setTop (mkF m 470 #[.val (.long q0), .second, .val (.int q1), .val (.int ((q1 &&& (2147483647 : Int32)) % (9 : Int32))), .val (.long (((((((z0 ||| z1) ||| z2) ||| z3) ||| z4) ||| z5) ||| z6) ||| z7)), .second, .val (.long mk), .second, .val (.long x), .second, .val (.long r), .second, .val (.long (-9187201950435737472 : Int64)), .second, .val (.int (1 : Int32)), .val (.int k6)] []))
                  refine GoOn.step (fun t₀ k₀ => XS.lload X54.here hx rfl (hb hby at_470) rfl k₀) ?_
                  show GoOn p e below _ (T54.setTop (mkF m 472 #[.val (.long q0), .second, .val (.int q1), .val (.int ((q1 &&& (2147483647 : Int32)) % (9 : Int32))), .val (.long (((((((z0 ||| z1) ||| z2) ||| z3) ||| z4) ||| z5) ||| z6) ||| z7)), .second, .val (.long mk), .second, .val (.long x), .second, .val (.long r), .second, .val (.long (-9187201950435737472 : Int64)), .second, .val (.int (1 : Int32)), .val (.int k6)] [(.long x)]))
                  refine GoOn.step (fun t₀ k₀ => XS.bipush X54.here hx rfl (hb hby at_472) k₀) ?_
                  show GoOn p e below _ (T54.setTop (mkF m 474 #[.val (.long q0), .second, .val (.int q1), .val (.int ((q1 &&& (2147483647 : Int32)) % (9 : Int32))), .val (.long (((((((z0 ||| z1) ||| z2) ||| z3) ||| z4) ||| z5) ||| z6) ||| z7)), .second, .val (.long mk), .second, .val (.long x), .second, .val (.long r), .second, .val (.long (-9187201950435737472 : Int64)), .second, .val (.int (1 : Int32)), .val (.int k6)] [(.int (6 : Int32)), (.long x)]))
                  obtain ⟨_, T57, L57, X57, hQ57, st57⟩ := kCallS X54 hx hZ (argsL := [(.long x), (.int (6 : Int32))]) (rest := []) (c_bo l Z a0 hw x (6 : Int32) h0) hown (hw _ (List.mem_of_getElem? (i := 5) rfl)) (hw _ (List.mem_of_getElem? (i := 6) rfl)) (hw _ (List.mem_of_getElem? (i := 3) rfl)) (hw _ (List.mem_of_getElem? (i := 7) rfl)) (by decide) e54 (g := (mkF m 474 #[.val (.long q0), .second, .val (.int q1), .val (.int ((q1 &&& (2147483647 : Int32)) % (9 : Int32))), .val (.long (((((((z0 ||| z1) ||| z2) ||| z3) ||| z4) ||| z5) ||| z6) ||| z7)), .second, .val (.long mk), .second, .val (.long x), .second, .val (.long r), .second, .val (.long (-9187201950435737472 : Int64)), .second, .val (.int (1 : Int32)), .val (.int k6)] [(.int (6 : Int32)), (.long x)])) rfl (by rw [hml]; rfl) (lenOf pd_0 rfl) rfl (W := 0) (by show 2 * 0 + _ ≤ _; exact Nat.le_of_eq rfl) (hb hby at_474) (by decide) (by decide) (by decide) (by decide)
                  obtain ⟨rfl, rfl, e57⟩ := hQ57
                  rw [List.append_nil] at X57
                  refine GoOn.step st57 ?_
                  show GoOn p e below _ (T57.setTop (mkF m 477 #[.val (.long q0), .second, .val (.int q1), .val (.int ((q1 &&& (2147483647 : Int32)) % (9 : Int32))), .val (.long (((((((z0 ||| z1) ||| z2) ||| z3) ||| z4) ||| z5) ||| z6) ||| z7)), .second, .val (.long mk), .second, .val (.long x), .second, .val (.long r), .second, .val (.long (-9187201950435737472 : Int64)), .second, .val (.int (1 : Int32)), .val (.int k6)] [(.int (bO x (6 : Int32)))]))
                  obtain ⟨_, T58, L58, X58, hQ58, st58⟩ := kCallS X57 hx hZ (argsL := [(.int (bO x (6 : Int32)))]) (rest := []) (c_pl l Z a0 hw (bO x (6 : Int32)) h0) hown (hw _ (List.mem_of_getElem? (i := 23) rfl)) (hw _ (List.mem_of_getElem? (i := 24) rfl)) (hw _ (List.mem_of_getElem? (i := 3) rfl)) (hw _ (List.mem_of_getElem? (i := 25) rfl)) (by decide) e57 (g := (mkF m 477 #[.val (.long q0), .second, .val (.int q1), .val (.int ((q1 &&& (2147483647 : Int32)) % (9 : Int32))), .val (.long (((((((z0 ||| z1) ||| z2) ||| z3) ||| z4) ||| z5) ||| z6) ||| z7)), .second, .val (.long mk), .second, .val (.long x), .second, .val (.long r), .second, .val (.long (-9187201950435737472 : Int64)), .second, .val (.int (1 : Int32)), .val (.int k6)] [(.int (bO x (6 : Int32)))])) rfl (by rw [hml]; rfl) (lenOf pd_1 rfl) rfl (W := 0) (by show 2 * 0 + _ ≤ _; exact Nat.le_of_eq rfl) (hb hby at_477) (by decide) (by decide) (by decide) (by decide)
                  obtain ⟨rfl, rfl, e58⟩ := hQ58
                  rw [List.append_nil] at X58
                  refine GoOn.step st58 ?_
                  show GoOn p e below _ (T58.setTop (mkF m 480 #[.val (.long q0), .second, .val (.int q1), .val (.int ((q1 &&& (2147483647 : Int32)) % (9 : Int32))), .val (.long (((((((z0 ||| z1) ||| z2) ||| z3) ||| z4) ||| z5) ||| z6) ||| z7)), .second, .val (.long mk), .second, .val (.long x), .second, .val (.long r), .second, .val (.long (-9187201950435737472 : Int64)), .second, .val (.int (1 : Int32)), .val (.int k6)] [(.int (pV (bO x (6 : Int32))))]))
                  by_cases d1 : (pV (bO x (6 : Int32))) = (0 : Int32)
                  · refine GoOn.step (fun t₀ k₀ => XS.ifYes X58.here hx rfl (pc0 := 480) (pc' := 487) rfl (hb hby at_480) rfl ((if0 _ _).trans (teq d1).1) (by decide) (by decide) k₀) ?_
                    show GoOn p e below _ (T58.setTop (mkF m 487 #[.val (.long q0), .second, .val (.int q1), .val (.int ((q1 &&& (2147483647 : Int32)) % (9 : Int32))), .val (.long (((((((z0 ||| z1) ||| z2) ||| z3) ||| z4) ||| z5) ||| z6) ||| z7)), .second, .val (.long mk), .second, .val (.long x), .second, .val (.long r), .second, .val (.long (-9187201950435737472 : Int64)), .second, .val (.int (1 : Int32)), .val (.int k6)] []))
                    refine GoOn.step (fun t₀ k₀ => XS.iconst X58.here hx rfl (hb hby at_487) k₀) ?_
                    show GoOn p e below _ (T58.setTop (mkF m 488 #[.val (.long q0), .second, .val (.int q1), .val (.int ((q1 &&& (2147483647 : Int32)) % (9 : Int32))), .val (.long (((((((z0 ||| z1) ||| z2) ||| z3) ||| z4) ||| z5) ||| z6) ||| z7)), .second, .val (.long mk), .second, .val (.long x), .second, .val (.long r), .second, .val (.long (-9187201950435737472 : Int64)), .second, .val (.int (1 : Int32)), .val (.int k6)] [(.int (0 : Int32))]))
                    refine GoOn.step (fun t₀ k₀ => XS.istore X58.here hx rfl (hb hby at_488) rfl (l' := #[.val (.long q0), .second, .val (.int q1), .val (.int ((q1 &&& (2147483647 : Int32)) % (9 : Int32))), .val (.long (((((((z0 ||| z1) ||| z2) ||| z3) ||| z4) ||| z5) ||| z6) ||| z7)), .second, .val (.long mk), .second, .val (.long x), .second, .val (.long r), .second, .val (.long (-9187201950435737472 : Int64)), .second, .val (.int (1 : Int32)), .val (.int (0 : Int32))]) rfl k₀) ?_
                    show GoOn p e below _ (T58.setTop (mkF m 490 #[.val (.long q0), .second, .val (.int q1), .val (.int ((q1 &&& (2147483647 : Int32)) % (9 : Int32))), .val (.long (((((((z0 ||| z1) ||| z2) ||| z3) ||| z4) ||| z5) ||| z6) ||| z7)), .second, .val (.long mk), .second, .val (.long x), .second, .val (.long r), .second, .val (.long (-9187201950435737472 : Int64)), .second, .val (.int (1 : Int32)), .val (.int (0 : Int32))] []))
                    exact J6 _ X58 e58 _ (Or.inl rfl)
                  · refine GoOn.step (fun t₀ k₀ => XS.ifNo X58.here hx rfl (hb hby at_480) rfl ((if0 _ _).trans (feq d1).1) k₀) ?_
                    show GoOn p e below _ (T58.setTop (mkF m 483 #[.val (.long q0), .second, .val (.int q1), .val (.int ((q1 &&& (2147483647 : Int32)) % (9 : Int32))), .val (.long (((((((z0 ||| z1) ||| z2) ||| z3) ||| z4) ||| z5) ||| z6) ||| z7)), .second, .val (.long mk), .second, .val (.long x), .second, .val (.long r), .second, .val (.long (-9187201950435737472 : Int64)), .second, .val (.int (1 : Int32)), .val (.int k6)] []))
                    refine GoOn.step (fun t₀ k₀ => XS.iconst X58.here hx rfl (hb hby at_483) k₀) ?_
                    show GoOn p e below _ (T58.setTop (mkF m 484 #[.val (.long q0), .second, .val (.int q1), .val (.int ((q1 &&& (2147483647 : Int32)) % (9 : Int32))), .val (.long (((((((z0 ||| z1) ||| z2) ||| z3) ||| z4) ||| z5) ||| z6) ||| z7)), .second, .val (.long mk), .second, .val (.long x), .second, .val (.long r), .second, .val (.long (-9187201950435737472 : Int64)), .second, .val (.int (1 : Int32)), .val (.int k6)] [(.int (1 : Int32))]))
                    refine GoOn.step (fun t₀ k₀ => XS.goto X58.here hx rfl (pc0 := 484) (pc' := 488) rfl (hb hby at_484) (by decide) (by decide) k₀) ?_
                    show GoOn p e below _ (T58.setTop (mkF m 488 #[.val (.long q0), .second, .val (.int q1), .val (.int ((q1 &&& (2147483647 : Int32)) % (9 : Int32))), .val (.long (((((((z0 ||| z1) ||| z2) ||| z3) ||| z4) ||| z5) ||| z6) ||| z7)), .second, .val (.long mk), .second, .val (.long x), .second, .val (.long r), .second, .val (.long (-9187201950435737472 : Int64)), .second, .val (.int (1 : Int32)), .val (.int k6)] [(.int (1 : Int32))]))
                    refine GoOn.step (fun t₀ k₀ => XS.istore X58.here hx rfl (hb hby at_488) rfl (l' := #[.val (.long q0), .second, .val (.int q1), .val (.int ((q1 &&& (2147483647 : Int32)) % (9 : Int32))), .val (.long (((((((z0 ||| z1) ||| z2) ||| z3) ||| z4) ||| z5) ||| z6) ||| z7)), .second, .val (.long mk), .second, .val (.long x), .second, .val (.long r), .second, .val (.long (-9187201950435737472 : Int64)), .second, .val (.int (1 : Int32)), .val (.int (1 : Int32))]) rfl k₀) ?_
                    show GoOn p e below _ (T58.setTop (mkF m 490 #[.val (.long q0), .second, .val (.int q1), .val (.int ((q1 &&& (2147483647 : Int32)) % (9 : Int32))), .val (.long (((((((z0 ||| z1) ||| z2) ||| z3) ||| z4) ||| z5) ||| z6) ||| z7)), .second, .val (.long mk), .second, .val (.long x), .second, .val (.long r), .second, .val (.long (-9187201950435737472 : Int64)), .second, .val (.int (1 : Int32)), .val (.int (1 : Int32))] []))
                    exact J6 _ X58 e58 _ (inv_next x 6 _ _ hi d0 d1 (by6 x))
              by_cases d0 : k5 = (0 : Int32)
              · refine GoOn.step (fun t₀ k₀ => XS.ifYes X48.here hx rfl (pc0 := 417) (pc' := 436) rfl (hb hby at_417) rfl ((if0 _ _).trans (teq d0).1) (by decide) (by decide) k₀) ?_
                show GoOn p e below _ (T48.setTop (mkF m 436 #[.val (.long q0), .second, .val (.int q1), .val (.int ((q1 &&& (2147483647 : Int32)) % (9 : Int32))), .val (.long (((((((z0 ||| z1) ||| z2) ||| z3) ||| z4) ||| z5) ||| z6) ||| z7)), .second, .val (.long mk), .second, .val (.long x), .second, .val (.long r), .second, .val (.long (-9187201950435737472 : Int64)), .second, .val (.int (1 : Int32)), .val (.int k5)] []))
                refine GoOn.step (fun t₀ k₀ => XS.iconst X48.here hx rfl (hb hby at_436) k₀) ?_
                show GoOn p e below _ (T48.setTop (mkF m 437 #[.val (.long q0), .second, .val (.int q1), .val (.int ((q1 &&& (2147483647 : Int32)) % (9 : Int32))), .val (.long (((((((z0 ||| z1) ||| z2) ||| z3) ||| z4) ||| z5) ||| z6) ||| z7)), .second, .val (.long mk), .second, .val (.long x), .second, .val (.long r), .second, .val (.long (-9187201950435737472 : Int64)), .second, .val (.int (1 : Int32)), .val (.int k5)] [(.int (0 : Int32))]))
                refine GoOn.step (fun t₀ k₀ => XS.istore X48.here hx rfl (hb hby at_437) rfl (l' := #[.val (.long q0), .second, .val (.int q1), .val (.int ((q1 &&& (2147483647 : Int32)) % (9 : Int32))), .val (.long (((((((z0 ||| z1) ||| z2) ||| z3) ||| z4) ||| z5) ||| z6) ||| z7)), .second, .val (.long mk), .second, .val (.long x), .second, .val (.long r), .second, .val (.long (-9187201950435737472 : Int64)), .second, .val (.int (1 : Int32)), .val (.int (0 : Int32))]) rfl k₀) ?_
                show GoOn p e below _ (T48.setTop (mkF m 439 #[.val (.long q0), .second, .val (.int q1), .val (.int ((q1 &&& (2147483647 : Int32)) % (9 : Int32))), .val (.long (((((((z0 ||| z1) ||| z2) ||| z3) ||| z4) ||| z5) ||| z6) ||| z7)), .second, .val (.long mk), .second, .val (.long x), .second, .val (.long r), .second, .val (.long (-9187201950435737472 : Int64)), .second, .val (.int (1 : Int32)), .val (.int (0 : Int32))] []))
                exact J5 _ X48 e48 _ (Or.inl rfl)
              · refine GoOn.step (fun t₀ k₀ => XS.ifNo X48.here hx rfl (hb hby at_417) rfl ((if0 _ _).trans (feq d0).1) k₀) ?_
                show GoOn p e below _ (T48.setTop (mkF m 420 #[.val (.long q0), .second, .val (.int q1), .val (.int ((q1 &&& (2147483647 : Int32)) % (9 : Int32))), .val (.long (((((((z0 ||| z1) ||| z2) ||| z3) ||| z4) ||| z5) ||| z6) ||| z7)), .second, .val (.long mk), .second, .val (.long x), .second, .val (.long r), .second, .val (.long (-9187201950435737472 : Int64)), .second, .val (.int (1 : Int32)), .val (.int k5)] []))
                refine GoOn.step (fun t₀ k₀ => XS.lload X48.here hx rfl (hb hby at_420) rfl k₀) ?_
                show GoOn p e below _ (T48.setTop (mkF m 422 #[.val (.long q0), .second, .val (.int q1), .val (.int ((q1 &&& (2147483647 : Int32)) % (9 : Int32))), .val (.long (((((((z0 ||| z1) ||| z2) ||| z3) ||| z4) ||| z5) ||| z6) ||| z7)), .second, .val (.long mk), .second, .val (.long x), .second, .val (.long r), .second, .val (.long (-9187201950435737472 : Int64)), .second, .val (.int (1 : Int32)), .val (.int k5)] [(.long x)]))
                refine GoOn.step (fun t₀ k₀ => XS.iconst X48.here hx rfl (hb hby at_422) k₀) ?_
                show GoOn p e below _ (T48.setTop (mkF m 423 #[.val (.long q0), .second, .val (.int q1), .val (.int ((q1 &&& (2147483647 : Int32)) % (9 : Int32))), .val (.long (((((((z0 ||| z1) ||| z2) ||| z3) ||| z4) ||| z5) ||| z6) ||| z7)), .second, .val (.long mk), .second, .val (.long x), .second, .val (.long r), .second, .val (.long (-9187201950435737472 : Int64)), .second, .val (.int (1 : Int32)), .val (.int k5)] [(.int (5 : Int32)), (.long x)]))
                obtain ⟨_, T51, L51, X51, hQ51, st51⟩ := kCallS X48 hx hZ (argsL := [(.long x), (.int (5 : Int32))]) (rest := []) (c_bo l Z a0 hw x (5 : Int32) h0) hown (hw _ (List.mem_of_getElem? (i := 5) rfl)) (hw _ (List.mem_of_getElem? (i := 6) rfl)) (hw _ (List.mem_of_getElem? (i := 3) rfl)) (hw _ (List.mem_of_getElem? (i := 7) rfl)) (by decide) e48 (g := (mkF m 423 #[.val (.long q0), .second, .val (.int q1), .val (.int ((q1 &&& (2147483647 : Int32)) % (9 : Int32))), .val (.long (((((((z0 ||| z1) ||| z2) ||| z3) ||| z4) ||| z5) ||| z6) ||| z7)), .second, .val (.long mk), .second, .val (.long x), .second, .val (.long r), .second, .val (.long (-9187201950435737472 : Int64)), .second, .val (.int (1 : Int32)), .val (.int k5)] [(.int (5 : Int32)), (.long x)])) rfl (by rw [hml]; rfl) (lenOf pd_0 rfl) rfl (W := 0) (by show 2 * 0 + _ ≤ _; exact Nat.le_of_eq rfl) (hb hby at_423) (by decide) (by decide) (by decide) (by decide)
                obtain ⟨rfl, rfl, e51⟩ := hQ51
                rw [List.append_nil] at X51
                refine GoOn.step st51 ?_
                show GoOn p e below _ (T51.setTop (mkF m 426 #[.val (.long q0), .second, .val (.int q1), .val (.int ((q1 &&& (2147483647 : Int32)) % (9 : Int32))), .val (.long (((((((z0 ||| z1) ||| z2) ||| z3) ||| z4) ||| z5) ||| z6) ||| z7)), .second, .val (.long mk), .second, .val (.long x), .second, .val (.long r), .second, .val (.long (-9187201950435737472 : Int64)), .second, .val (.int (1 : Int32)), .val (.int k5)] [(.int (bO x (5 : Int32)))]))
                obtain ⟨_, T52, L52, X52, hQ52, st52⟩ := kCallS X51 hx hZ (argsL := [(.int (bO x (5 : Int32)))]) (rest := []) (c_pl l Z a0 hw (bO x (5 : Int32)) h0) hown (hw _ (List.mem_of_getElem? (i := 23) rfl)) (hw _ (List.mem_of_getElem? (i := 24) rfl)) (hw _ (List.mem_of_getElem? (i := 3) rfl)) (hw _ (List.mem_of_getElem? (i := 25) rfl)) (by decide) e51 (g := (mkF m 426 #[.val (.long q0), .second, .val (.int q1), .val (.int ((q1 &&& (2147483647 : Int32)) % (9 : Int32))), .val (.long (((((((z0 ||| z1) ||| z2) ||| z3) ||| z4) ||| z5) ||| z6) ||| z7)), .second, .val (.long mk), .second, .val (.long x), .second, .val (.long r), .second, .val (.long (-9187201950435737472 : Int64)), .second, .val (.int (1 : Int32)), .val (.int k5)] [(.int (bO x (5 : Int32)))])) rfl (by rw [hml]; rfl) (lenOf pd_1 rfl) rfl (W := 0) (by show 2 * 0 + _ ≤ _; exact Nat.le_of_eq rfl) (hb hby at_426) (by decide) (by decide) (by decide) (by decide)
                obtain ⟨rfl, rfl, e52⟩ := hQ52
                rw [List.append_nil] at X52
                refine GoOn.step st52 ?_
                show GoOn p e below _ (T52.setTop (mkF m 429 #[.val (.long q0), .second, .val (.int q1), .val (.int ((q1 &&& (2147483647 : Int32)) % (9 : Int32))), .val (.long (((((((z0 ||| z1) ||| z2) ||| z3) ||| z4) ||| z5) ||| z6) ||| z7)), .second, .val (.long mk), .second, .val (.long x), .second, .val (.long r), .second, .val (.long (-9187201950435737472 : Int64)), .second, .val (.int (1 : Int32)), .val (.int k5)] [(.int (pV (bO x (5 : Int32))))]))
                by_cases d1 : (pV (bO x (5 : Int32))) = (0 : Int32)
                · refine GoOn.step (fun t₀ k₀ => XS.ifYes X52.here hx rfl (pc0 := 429) (pc' := 436) rfl (hb hby at_429) rfl ((if0 _ _).trans (teq d1).1) (by decide) (by decide) k₀) ?_
                  show GoOn p e below _ (T52.setTop (mkF m 436 #[.val (.long q0), .second, .val (.int q1), .val (.int ((q1 &&& (2147483647 : Int32)) % (9 : Int32))), .val (.long (((((((z0 ||| z1) ||| z2) ||| z3) ||| z4) ||| z5) ||| z6) ||| z7)), .second, .val (.long mk), .second, .val (.long x), .second, .val (.long r), .second, .val (.long (-9187201950435737472 : Int64)), .second, .val (.int (1 : Int32)), .val (.int k5)] []))
                  refine GoOn.step (fun t₀ k₀ => XS.iconst X52.here hx rfl (hb hby at_436) k₀) ?_
                  show GoOn p e below _ (T52.setTop (mkF m 437 #[.val (.long q0), .second, .val (.int q1), .val (.int ((q1 &&& (2147483647 : Int32)) % (9 : Int32))), .val (.long (((((((z0 ||| z1) ||| z2) ||| z3) ||| z4) ||| z5) ||| z6) ||| z7)), .second, .val (.long mk), .second, .val (.long x), .second, .val (.long r), .second, .val (.long (-9187201950435737472 : Int64)), .second, .val (.int (1 : Int32)), .val (.int k5)] [(.int (0 : Int32))]))
                  refine GoOn.step (fun t₀ k₀ => XS.istore X52.here hx rfl (hb hby at_437) rfl (l' := #[.val (.long q0), .second, .val (.int q1), .val (.int ((q1 &&& (2147483647 : Int32)) % (9 : Int32))), .val (.long (((((((z0 ||| z1) ||| z2) ||| z3) ||| z4) ||| z5) ||| z6) ||| z7)), .second, .val (.long mk), .second, .val (.long x), .second, .val (.long r), .second, .val (.long (-9187201950435737472 : Int64)), .second, .val (.int (1 : Int32)), .val (.int (0 : Int32))]) rfl k₀) ?_
                  show GoOn p e below _ (T52.setTop (mkF m 439 #[.val (.long q0), .second, .val (.int q1), .val (.int ((q1 &&& (2147483647 : Int32)) % (9 : Int32))), .val (.long (((((((z0 ||| z1) ||| z2) ||| z3) ||| z4) ||| z5) ||| z6) ||| z7)), .second, .val (.long mk), .second, .val (.long x), .second, .val (.long r), .second, .val (.long (-9187201950435737472 : Int64)), .second, .val (.int (1 : Int32)), .val (.int (0 : Int32))] []))
                  exact J5 _ X52 e52 _ (Or.inl rfl)
                · refine GoOn.step (fun t₀ k₀ => XS.ifNo X52.here hx rfl (hb hby at_429) rfl ((if0 _ _).trans (feq d1).1) k₀) ?_
                  show GoOn p e below _ (T52.setTop (mkF m 432 #[.val (.long q0), .second, .val (.int q1), .val (.int ((q1 &&& (2147483647 : Int32)) % (9 : Int32))), .val (.long (((((((z0 ||| z1) ||| z2) ||| z3) ||| z4) ||| z5) ||| z6) ||| z7)), .second, .val (.long mk), .second, .val (.long x), .second, .val (.long r), .second, .val (.long (-9187201950435737472 : Int64)), .second, .val (.int (1 : Int32)), .val (.int k5)] []))
                  refine GoOn.step (fun t₀ k₀ => XS.iconst X52.here hx rfl (hb hby at_432) k₀) ?_
                  show GoOn p e below _ (T52.setTop (mkF m 433 #[.val (.long q0), .second, .val (.int q1), .val (.int ((q1 &&& (2147483647 : Int32)) % (9 : Int32))), .val (.long (((((((z0 ||| z1) ||| z2) ||| z3) ||| z4) ||| z5) ||| z6) ||| z7)), .second, .val (.long mk), .second, .val (.long x), .second, .val (.long r), .second, .val (.long (-9187201950435737472 : Int64)), .second, .val (.int (1 : Int32)), .val (.int k5)] [(.int (1 : Int32))]))
                  refine GoOn.step (fun t₀ k₀ => XS.goto X52.here hx rfl (pc0 := 433) (pc' := 437) rfl (hb hby at_433) (by decide) (by decide) k₀) ?_
                  show GoOn p e below _ (T52.setTop (mkF m 437 #[.val (.long q0), .second, .val (.int q1), .val (.int ((q1 &&& (2147483647 : Int32)) % (9 : Int32))), .val (.long (((((((z0 ||| z1) ||| z2) ||| z3) ||| z4) ||| z5) ||| z6) ||| z7)), .second, .val (.long mk), .second, .val (.long x), .second, .val (.long r), .second, .val (.long (-9187201950435737472 : Int64)), .second, .val (.int (1 : Int32)), .val (.int k5)] [(.int (1 : Int32))]))
                  refine GoOn.step (fun t₀ k₀ => XS.istore X52.here hx rfl (hb hby at_437) rfl (l' := #[.val (.long q0), .second, .val (.int q1), .val (.int ((q1 &&& (2147483647 : Int32)) % (9 : Int32))), .val (.long (((((((z0 ||| z1) ||| z2) ||| z3) ||| z4) ||| z5) ||| z6) ||| z7)), .second, .val (.long mk), .second, .val (.long x), .second, .val (.long r), .second, .val (.long (-9187201950435737472 : Int64)), .second, .val (.int (1 : Int32)), .val (.int (1 : Int32))]) rfl k₀) ?_
                  show GoOn p e below _ (T52.setTop (mkF m 439 #[.val (.long q0), .second, .val (.int q1), .val (.int ((q1 &&& (2147483647 : Int32)) % (9 : Int32))), .val (.long (((((((z0 ||| z1) ||| z2) ||| z3) ||| z4) ||| z5) ||| z6) ||| z7)), .second, .val (.long mk), .second, .val (.long x), .second, .val (.long r), .second, .val (.long (-9187201950435737472 : Int64)), .second, .val (.int (1 : Int32)), .val (.int (1 : Int32))] []))
                  exact J5 _ X52 e52 _ (inv_next x 5 _ _ hi d0 d1 (by5 x))
            by_cases d0 : k4 = (0 : Int32)
            · refine GoOn.step (fun t₀ k₀ => XS.ifYes X42.here hx rfl (pc0 := 368) (pc' := 387) rfl (hb hby at_368) rfl ((if0 _ _).trans (teq d0).1) (by decide) (by decide) k₀) ?_
              show GoOn p e below _ (T42.setTop (mkF m 387 #[.val (.long q0), .second, .val (.int q1), .val (.int ((q1 &&& (2147483647 : Int32)) % (9 : Int32))), .val (.long (((((((z0 ||| z1) ||| z2) ||| z3) ||| z4) ||| z5) ||| z6) ||| z7)), .second, .val (.long mk), .second, .val (.long x), .second, .val (.long r), .second, .val (.long (-9187201950435737472 : Int64)), .second, .val (.int (1 : Int32)), .val (.int k4)] []))
              refine GoOn.step (fun t₀ k₀ => XS.iconst X42.here hx rfl (hb hby at_387) k₀) ?_
              show GoOn p e below _ (T42.setTop (mkF m 388 #[.val (.long q0), .second, .val (.int q1), .val (.int ((q1 &&& (2147483647 : Int32)) % (9 : Int32))), .val (.long (((((((z0 ||| z1) ||| z2) ||| z3) ||| z4) ||| z5) ||| z6) ||| z7)), .second, .val (.long mk), .second, .val (.long x), .second, .val (.long r), .second, .val (.long (-9187201950435737472 : Int64)), .second, .val (.int (1 : Int32)), .val (.int k4)] [(.int (0 : Int32))]))
              refine GoOn.step (fun t₀ k₀ => XS.istore X42.here hx rfl (hb hby at_388) rfl (l' := #[.val (.long q0), .second, .val (.int q1), .val (.int ((q1 &&& (2147483647 : Int32)) % (9 : Int32))), .val (.long (((((((z0 ||| z1) ||| z2) ||| z3) ||| z4) ||| z5) ||| z6) ||| z7)), .second, .val (.long mk), .second, .val (.long x), .second, .val (.long r), .second, .val (.long (-9187201950435737472 : Int64)), .second, .val (.int (1 : Int32)), .val (.int (0 : Int32))]) rfl k₀) ?_
              show GoOn p e below _ (T42.setTop (mkF m 390 #[.val (.long q0), .second, .val (.int q1), .val (.int ((q1 &&& (2147483647 : Int32)) % (9 : Int32))), .val (.long (((((((z0 ||| z1) ||| z2) ||| z3) ||| z4) ||| z5) ||| z6) ||| z7)), .second, .val (.long mk), .second, .val (.long x), .second, .val (.long r), .second, .val (.long (-9187201950435737472 : Int64)), .second, .val (.int (1 : Int32)), .val (.int (0 : Int32))] []))
              exact J4 _ X42 e42 _ (Or.inl rfl)
            · refine GoOn.step (fun t₀ k₀ => XS.ifNo X42.here hx rfl (hb hby at_368) rfl ((if0 _ _).trans (feq d0).1) k₀) ?_
              show GoOn p e below _ (T42.setTop (mkF m 371 #[.val (.long q0), .second, .val (.int q1), .val (.int ((q1 &&& (2147483647 : Int32)) % (9 : Int32))), .val (.long (((((((z0 ||| z1) ||| z2) ||| z3) ||| z4) ||| z5) ||| z6) ||| z7)), .second, .val (.long mk), .second, .val (.long x), .second, .val (.long r), .second, .val (.long (-9187201950435737472 : Int64)), .second, .val (.int (1 : Int32)), .val (.int k4)] []))
              refine GoOn.step (fun t₀ k₀ => XS.lload X42.here hx rfl (hb hby at_371) rfl k₀) ?_
              show GoOn p e below _ (T42.setTop (mkF m 373 #[.val (.long q0), .second, .val (.int q1), .val (.int ((q1 &&& (2147483647 : Int32)) % (9 : Int32))), .val (.long (((((((z0 ||| z1) ||| z2) ||| z3) ||| z4) ||| z5) ||| z6) ||| z7)), .second, .val (.long mk), .second, .val (.long x), .second, .val (.long r), .second, .val (.long (-9187201950435737472 : Int64)), .second, .val (.int (1 : Int32)), .val (.int k4)] [(.long x)]))
              refine GoOn.step (fun t₀ k₀ => XS.iconst X42.here hx rfl (hb hby at_373) k₀) ?_
              show GoOn p e below _ (T42.setTop (mkF m 374 #[.val (.long q0), .second, .val (.int q1), .val (.int ((q1 &&& (2147483647 : Int32)) % (9 : Int32))), .val (.long (((((((z0 ||| z1) ||| z2) ||| z3) ||| z4) ||| z5) ||| z6) ||| z7)), .second, .val (.long mk), .second, .val (.long x), .second, .val (.long r), .second, .val (.long (-9187201950435737472 : Int64)), .second, .val (.int (1 : Int32)), .val (.int k4)] [(.int (4 : Int32)), (.long x)]))
              obtain ⟨_, T45, L45, X45, hQ45, st45⟩ := kCallS X42 hx hZ (argsL := [(.long x), (.int (4 : Int32))]) (rest := []) (c_bo l Z a0 hw x (4 : Int32) h0) hown (hw _ (List.mem_of_getElem? (i := 5) rfl)) (hw _ (List.mem_of_getElem? (i := 6) rfl)) (hw _ (List.mem_of_getElem? (i := 3) rfl)) (hw _ (List.mem_of_getElem? (i := 7) rfl)) (by decide) e42 (g := (mkF m 374 #[.val (.long q0), .second, .val (.int q1), .val (.int ((q1 &&& (2147483647 : Int32)) % (9 : Int32))), .val (.long (((((((z0 ||| z1) ||| z2) ||| z3) ||| z4) ||| z5) ||| z6) ||| z7)), .second, .val (.long mk), .second, .val (.long x), .second, .val (.long r), .second, .val (.long (-9187201950435737472 : Int64)), .second, .val (.int (1 : Int32)), .val (.int k4)] [(.int (4 : Int32)), (.long x)])) rfl (by rw [hml]; rfl) (lenOf pd_0 rfl) rfl (W := 0) (by show 2 * 0 + _ ≤ _; exact Nat.le_of_eq rfl) (hb hby at_374) (by decide) (by decide) (by decide) (by decide)
              obtain ⟨rfl, rfl, e45⟩ := hQ45
              rw [List.append_nil] at X45
              refine GoOn.step st45 ?_
              show GoOn p e below _ (T45.setTop (mkF m 377 #[.val (.long q0), .second, .val (.int q1), .val (.int ((q1 &&& (2147483647 : Int32)) % (9 : Int32))), .val (.long (((((((z0 ||| z1) ||| z2) ||| z3) ||| z4) ||| z5) ||| z6) ||| z7)), .second, .val (.long mk), .second, .val (.long x), .second, .val (.long r), .second, .val (.long (-9187201950435737472 : Int64)), .second, .val (.int (1 : Int32)), .val (.int k4)] [(.int (bO x (4 : Int32)))]))
              obtain ⟨_, T46, L46, X46, hQ46, st46⟩ := kCallS X45 hx hZ (argsL := [(.int (bO x (4 : Int32)))]) (rest := []) (c_pl l Z a0 hw (bO x (4 : Int32)) h0) hown (hw _ (List.mem_of_getElem? (i := 23) rfl)) (hw _ (List.mem_of_getElem? (i := 24) rfl)) (hw _ (List.mem_of_getElem? (i := 3) rfl)) (hw _ (List.mem_of_getElem? (i := 25) rfl)) (by decide) e45 (g := (mkF m 377 #[.val (.long q0), .second, .val (.int q1), .val (.int ((q1 &&& (2147483647 : Int32)) % (9 : Int32))), .val (.long (((((((z0 ||| z1) ||| z2) ||| z3) ||| z4) ||| z5) ||| z6) ||| z7)), .second, .val (.long mk), .second, .val (.long x), .second, .val (.long r), .second, .val (.long (-9187201950435737472 : Int64)), .second, .val (.int (1 : Int32)), .val (.int k4)] [(.int (bO x (4 : Int32)))])) rfl (by rw [hml]; rfl) (lenOf pd_1 rfl) rfl (W := 0) (by show 2 * 0 + _ ≤ _; exact Nat.le_of_eq rfl) (hb hby at_377) (by decide) (by decide) (by decide) (by decide)
              obtain ⟨rfl, rfl, e46⟩ := hQ46
              rw [List.append_nil] at X46
              refine GoOn.step st46 ?_
              show GoOn p e below _ (T46.setTop (mkF m 380 #[.val (.long q0), .second, .val (.int q1), .val (.int ((q1 &&& (2147483647 : Int32)) % (9 : Int32))), .val (.long (((((((z0 ||| z1) ||| z2) ||| z3) ||| z4) ||| z5) ||| z6) ||| z7)), .second, .val (.long mk), .second, .val (.long x), .second, .val (.long r), .second, .val (.long (-9187201950435737472 : Int64)), .second, .val (.int (1 : Int32)), .val (.int k4)] [(.int (pV (bO x (4 : Int32))))]))
              by_cases d1 : (pV (bO x (4 : Int32))) = (0 : Int32)
              · refine GoOn.step (fun t₀ k₀ => XS.ifYes X46.here hx rfl (pc0 := 380) (pc' := 387) rfl (hb hby at_380) rfl ((if0 _ _).trans (teq d1).1) (by decide) (by decide) k₀) ?_
                show GoOn p e below _ (T46.setTop (mkF m 387 #[.val (.long q0), .second, .val (.int q1), .val (.int ((q1 &&& (2147483647 : Int32)) % (9 : Int32))), .val (.long (((((((z0 ||| z1) ||| z2) ||| z3) ||| z4) ||| z5) ||| z6) ||| z7)), .second, .val (.long mk), .second, .val (.long x), .second, .val (.long r), .second, .val (.long (-9187201950435737472 : Int64)), .second, .val (.int (1 : Int32)), .val (.int k4)] []))
                refine GoOn.step (fun t₀ k₀ => XS.iconst X46.here hx rfl (hb hby at_387) k₀) ?_
                show GoOn p e below _ (T46.setTop (mkF m 388 #[.val (.long q0), .second, .val (.int q1), .val (.int ((q1 &&& (2147483647 : Int32)) % (9 : Int32))), .val (.long (((((((z0 ||| z1) ||| z2) ||| z3) ||| z4) ||| z5) ||| z6) ||| z7)), .second, .val (.long mk), .second, .val (.long x), .second, .val (.long r), .second, .val (.long (-9187201950435737472 : Int64)), .second, .val (.int (1 : Int32)), .val (.int k4)] [(.int (0 : Int32))]))
                refine GoOn.step (fun t₀ k₀ => XS.istore X46.here hx rfl (hb hby at_388) rfl (l' := #[.val (.long q0), .second, .val (.int q1), .val (.int ((q1 &&& (2147483647 : Int32)) % (9 : Int32))), .val (.long (((((((z0 ||| z1) ||| z2) ||| z3) ||| z4) ||| z5) ||| z6) ||| z7)), .second, .val (.long mk), .second, .val (.long x), .second, .val (.long r), .second, .val (.long (-9187201950435737472 : Int64)), .second, .val (.int (1 : Int32)), .val (.int (0 : Int32))]) rfl k₀) ?_
                show GoOn p e below _ (T46.setTop (mkF m 390 #[.val (.long q0), .second, .val (.int q1), .val (.int ((q1 &&& (2147483647 : Int32)) % (9 : Int32))), .val (.long (((((((z0 ||| z1) ||| z2) ||| z3) ||| z4) ||| z5) ||| z6) ||| z7)), .second, .val (.long mk), .second, .val (.long x), .second, .val (.long r), .second, .val (.long (-9187201950435737472 : Int64)), .second, .val (.int (1 : Int32)), .val (.int (0 : Int32))] []))
                exact J4 _ X46 e46 _ (Or.inl rfl)
              · refine GoOn.step (fun t₀ k₀ => XS.ifNo X46.here hx rfl (hb hby at_380) rfl ((if0 _ _).trans (feq d1).1) k₀) ?_
                show GoOn p e below _ (T46.setTop (mkF m 383 #[.val (.long q0), .second, .val (.int q1), .val (.int ((q1 &&& (2147483647 : Int32)) % (9 : Int32))), .val (.long (((((((z0 ||| z1) ||| z2) ||| z3) ||| z4) ||| z5) ||| z6) ||| z7)), .second, .val (.long mk), .second, .val (.long x), .second, .val (.long r), .second, .val (.long (-9187201950435737472 : Int64)), .second, .val (.int (1 : Int32)), .val (.int k4)] []))
                refine GoOn.step (fun t₀ k₀ => XS.iconst X46.here hx rfl (hb hby at_383) k₀) ?_
                show GoOn p e below _ (T46.setTop (mkF m 384 #[.val (.long q0), .second, .val (.int q1), .val (.int ((q1 &&& (2147483647 : Int32)) % (9 : Int32))), .val (.long (((((((z0 ||| z1) ||| z2) ||| z3) ||| z4) ||| z5) ||| z6) ||| z7)), .second, .val (.long mk), .second, .val (.long x), .second, .val (.long r), .second, .val (.long (-9187201950435737472 : Int64)), .second, .val (.int (1 : Int32)), .val (.int k4)] [(.int (1 : Int32))]))
                refine GoOn.step (fun t₀ k₀ => XS.goto X46.here hx rfl (pc0 := 384) (pc' := 388) rfl (hb hby at_384) (by decide) (by decide) k₀) ?_
                show GoOn p e below _ (T46.setTop (mkF m 388 #[.val (.long q0), .second, .val (.int q1), .val (.int ((q1 &&& (2147483647 : Int32)) % (9 : Int32))), .val (.long (((((((z0 ||| z1) ||| z2) ||| z3) ||| z4) ||| z5) ||| z6) ||| z7)), .second, .val (.long mk), .second, .val (.long x), .second, .val (.long r), .second, .val (.long (-9187201950435737472 : Int64)), .second, .val (.int (1 : Int32)), .val (.int k4)] [(.int (1 : Int32))]))
                refine GoOn.step (fun t₀ k₀ => XS.istore X46.here hx rfl (hb hby at_388) rfl (l' := #[.val (.long q0), .second, .val (.int q1), .val (.int ((q1 &&& (2147483647 : Int32)) % (9 : Int32))), .val (.long (((((((z0 ||| z1) ||| z2) ||| z3) ||| z4) ||| z5) ||| z6) ||| z7)), .second, .val (.long mk), .second, .val (.long x), .second, .val (.long r), .second, .val (.long (-9187201950435737472 : Int64)), .second, .val (.int (1 : Int32)), .val (.int (1 : Int32))]) rfl k₀) ?_
                show GoOn p e below _ (T46.setTop (mkF m 390 #[.val (.long q0), .second, .val (.int q1), .val (.int ((q1 &&& (2147483647 : Int32)) % (9 : Int32))), .val (.long (((((((z0 ||| z1) ||| z2) ||| z3) ||| z4) ||| z5) ||| z6) ||| z7)), .second, .val (.long mk), .second, .val (.long x), .second, .val (.long r), .second, .val (.long (-9187201950435737472 : Int64)), .second, .val (.int (1 : Int32)), .val (.int (1 : Int32))] []))
                exact J4 _ X46 e46 _ (inv_next x 4 _ _ hi d0 d1 (by4 x))
          by_cases d0 : k3 = (0 : Int32)
          · refine GoOn.step (fun t₀ k₀ => XS.ifYes X36.here hx rfl (pc0 := 319) (pc' := 338) rfl (hb hby at_319) rfl ((if0 _ _).trans (teq d0).1) (by decide) (by decide) k₀) ?_
            show GoOn p e below _ (T36.setTop (mkF m 338 #[.val (.long q0), .second, .val (.int q1), .val (.int ((q1 &&& (2147483647 : Int32)) % (9 : Int32))), .val (.long (((((((z0 ||| z1) ||| z2) ||| z3) ||| z4) ||| z5) ||| z6) ||| z7)), .second, .val (.long mk), .second, .val (.long x), .second, .val (.long r), .second, .val (.long (-9187201950435737472 : Int64)), .second, .val (.int (1 : Int32)), .val (.int k3)] []))
            refine GoOn.step (fun t₀ k₀ => XS.iconst X36.here hx rfl (hb hby at_338) k₀) ?_
            show GoOn p e below _ (T36.setTop (mkF m 339 #[.val (.long q0), .second, .val (.int q1), .val (.int ((q1 &&& (2147483647 : Int32)) % (9 : Int32))), .val (.long (((((((z0 ||| z1) ||| z2) ||| z3) ||| z4) ||| z5) ||| z6) ||| z7)), .second, .val (.long mk), .second, .val (.long x), .second, .val (.long r), .second, .val (.long (-9187201950435737472 : Int64)), .second, .val (.int (1 : Int32)), .val (.int k3)] [(.int (0 : Int32))]))
            refine GoOn.step (fun t₀ k₀ => XS.istore X36.here hx rfl (hb hby at_339) rfl (l' := #[.val (.long q0), .second, .val (.int q1), .val (.int ((q1 &&& (2147483647 : Int32)) % (9 : Int32))), .val (.long (((((((z0 ||| z1) ||| z2) ||| z3) ||| z4) ||| z5) ||| z6) ||| z7)), .second, .val (.long mk), .second, .val (.long x), .second, .val (.long r), .second, .val (.long (-9187201950435737472 : Int64)), .second, .val (.int (1 : Int32)), .val (.int (0 : Int32))]) rfl k₀) ?_
            show GoOn p e below _ (T36.setTop (mkF m 341 #[.val (.long q0), .second, .val (.int q1), .val (.int ((q1 &&& (2147483647 : Int32)) % (9 : Int32))), .val (.long (((((((z0 ||| z1) ||| z2) ||| z3) ||| z4) ||| z5) ||| z6) ||| z7)), .second, .val (.long mk), .second, .val (.long x), .second, .val (.long r), .second, .val (.long (-9187201950435737472 : Int64)), .second, .val (.int (1 : Int32)), .val (.int (0 : Int32))] []))
            exact J3 _ X36 e36 _ (Or.inl rfl)
          · refine GoOn.step (fun t₀ k₀ => XS.ifNo X36.here hx rfl (hb hby at_319) rfl ((if0 _ _).trans (feq d0).1) k₀) ?_
            show GoOn p e below _ (T36.setTop (mkF m 322 #[.val (.long q0), .second, .val (.int q1), .val (.int ((q1 &&& (2147483647 : Int32)) % (9 : Int32))), .val (.long (((((((z0 ||| z1) ||| z2) ||| z3) ||| z4) ||| z5) ||| z6) ||| z7)), .second, .val (.long mk), .second, .val (.long x), .second, .val (.long r), .second, .val (.long (-9187201950435737472 : Int64)), .second, .val (.int (1 : Int32)), .val (.int k3)] []))
            refine GoOn.step (fun t₀ k₀ => XS.lload X36.here hx rfl (hb hby at_322) rfl k₀) ?_
            show GoOn p e below _ (T36.setTop (mkF m 324 #[.val (.long q0), .second, .val (.int q1), .val (.int ((q1 &&& (2147483647 : Int32)) % (9 : Int32))), .val (.long (((((((z0 ||| z1) ||| z2) ||| z3) ||| z4) ||| z5) ||| z6) ||| z7)), .second, .val (.long mk), .second, .val (.long x), .second, .val (.long r), .second, .val (.long (-9187201950435737472 : Int64)), .second, .val (.int (1 : Int32)), .val (.int k3)] [(.long x)]))
            refine GoOn.step (fun t₀ k₀ => XS.iconst X36.here hx rfl (hb hby at_324) k₀) ?_
            show GoOn p e below _ (T36.setTop (mkF m 325 #[.val (.long q0), .second, .val (.int q1), .val (.int ((q1 &&& (2147483647 : Int32)) % (9 : Int32))), .val (.long (((((((z0 ||| z1) ||| z2) ||| z3) ||| z4) ||| z5) ||| z6) ||| z7)), .second, .val (.long mk), .second, .val (.long x), .second, .val (.long r), .second, .val (.long (-9187201950435737472 : Int64)), .second, .val (.int (1 : Int32)), .val (.int k3)] [(.int (3 : Int32)), (.long x)]))
            obtain ⟨_, T39, L39, X39, hQ39, st39⟩ := kCallS X36 hx hZ (argsL := [(.long x), (.int (3 : Int32))]) (rest := []) (c_bo l Z a0 hw x (3 : Int32) h0) hown (hw _ (List.mem_of_getElem? (i := 5) rfl)) (hw _ (List.mem_of_getElem? (i := 6) rfl)) (hw _ (List.mem_of_getElem? (i := 3) rfl)) (hw _ (List.mem_of_getElem? (i := 7) rfl)) (by decide) e36 (g := (mkF m 325 #[.val (.long q0), .second, .val (.int q1), .val (.int ((q1 &&& (2147483647 : Int32)) % (9 : Int32))), .val (.long (((((((z0 ||| z1) ||| z2) ||| z3) ||| z4) ||| z5) ||| z6) ||| z7)), .second, .val (.long mk), .second, .val (.long x), .second, .val (.long r), .second, .val (.long (-9187201950435737472 : Int64)), .second, .val (.int (1 : Int32)), .val (.int k3)] [(.int (3 : Int32)), (.long x)])) rfl (by rw [hml]; rfl) (lenOf pd_0 rfl) rfl (W := 0) (by show 2 * 0 + _ ≤ _; exact Nat.le_of_eq rfl) (hb hby at_325) (by decide) (by decide) (by decide) (by decide)
            obtain ⟨rfl, rfl, e39⟩ := hQ39
            rw [List.append_nil] at X39
            refine GoOn.step st39 ?_
            show GoOn p e below _ (T39.setTop (mkF m 328 #[.val (.long q0), .second, .val (.int q1), .val (.int ((q1 &&& (2147483647 : Int32)) % (9 : Int32))), .val (.long (((((((z0 ||| z1) ||| z2) ||| z3) ||| z4) ||| z5) ||| z6) ||| z7)), .second, .val (.long mk), .second, .val (.long x), .second, .val (.long r), .second, .val (.long (-9187201950435737472 : Int64)), .second, .val (.int (1 : Int32)), .val (.int k3)] [(.int (bO x (3 : Int32)))]))
            obtain ⟨_, T40, L40, X40, hQ40, st40⟩ := kCallS X39 hx hZ (argsL := [(.int (bO x (3 : Int32)))]) (rest := []) (c_pl l Z a0 hw (bO x (3 : Int32)) h0) hown (hw _ (List.mem_of_getElem? (i := 23) rfl)) (hw _ (List.mem_of_getElem? (i := 24) rfl)) (hw _ (List.mem_of_getElem? (i := 3) rfl)) (hw _ (List.mem_of_getElem? (i := 25) rfl)) (by decide) e39 (g := (mkF m 328 #[.val (.long q0), .second, .val (.int q1), .val (.int ((q1 &&& (2147483647 : Int32)) % (9 : Int32))), .val (.long (((((((z0 ||| z1) ||| z2) ||| z3) ||| z4) ||| z5) ||| z6) ||| z7)), .second, .val (.long mk), .second, .val (.long x), .second, .val (.long r), .second, .val (.long (-9187201950435737472 : Int64)), .second, .val (.int (1 : Int32)), .val (.int k3)] [(.int (bO x (3 : Int32)))])) rfl (by rw [hml]; rfl) (lenOf pd_1 rfl) rfl (W := 0) (by show 2 * 0 + _ ≤ _; exact Nat.le_of_eq rfl) (hb hby at_328) (by decide) (by decide) (by decide) (by decide)
            obtain ⟨rfl, rfl, e40⟩ := hQ40
            rw [List.append_nil] at X40
            refine GoOn.step st40 ?_
            show GoOn p e below _ (T40.setTop (mkF m 331 #[.val (.long q0), .second, .val (.int q1), .val (.int ((q1 &&& (2147483647 : Int32)) % (9 : Int32))), .val (.long (((((((z0 ||| z1) ||| z2) ||| z3) ||| z4) ||| z5) ||| z6) ||| z7)), .second, .val (.long mk), .second, .val (.long x), .second, .val (.long r), .second, .val (.long (-9187201950435737472 : Int64)), .second, .val (.int (1 : Int32)), .val (.int k3)] [(.int (pV (bO x (3 : Int32))))]))
            by_cases d1 : (pV (bO x (3 : Int32))) = (0 : Int32)
            · refine GoOn.step (fun t₀ k₀ => XS.ifYes X40.here hx rfl (pc0 := 331) (pc' := 338) rfl (hb hby at_331) rfl ((if0 _ _).trans (teq d1).1) (by decide) (by decide) k₀) ?_
              show GoOn p e below _ (T40.setTop (mkF m 338 #[.val (.long q0), .second, .val (.int q1), .val (.int ((q1 &&& (2147483647 : Int32)) % (9 : Int32))), .val (.long (((((((z0 ||| z1) ||| z2) ||| z3) ||| z4) ||| z5) ||| z6) ||| z7)), .second, .val (.long mk), .second, .val (.long x), .second, .val (.long r), .second, .val (.long (-9187201950435737472 : Int64)), .second, .val (.int (1 : Int32)), .val (.int k3)] []))
              refine GoOn.step (fun t₀ k₀ => XS.iconst X40.here hx rfl (hb hby at_338) k₀) ?_
              show GoOn p e below _ (T40.setTop (mkF m 339 #[.val (.long q0), .second, .val (.int q1), .val (.int ((q1 &&& (2147483647 : Int32)) % (9 : Int32))), .val (.long (((((((z0 ||| z1) ||| z2) ||| z3) ||| z4) ||| z5) ||| z6) ||| z7)), .second, .val (.long mk), .second, .val (.long x), .second, .val (.long r), .second, .val (.long (-9187201950435737472 : Int64)), .second, .val (.int (1 : Int32)), .val (.int k3)] [(.int (0 : Int32))]))
              refine GoOn.step (fun t₀ k₀ => XS.istore X40.here hx rfl (hb hby at_339) rfl (l' := #[.val (.long q0), .second, .val (.int q1), .val (.int ((q1 &&& (2147483647 : Int32)) % (9 : Int32))), .val (.long (((((((z0 ||| z1) ||| z2) ||| z3) ||| z4) ||| z5) ||| z6) ||| z7)), .second, .val (.long mk), .second, .val (.long x), .second, .val (.long r), .second, .val (.long (-9187201950435737472 : Int64)), .second, .val (.int (1 : Int32)), .val (.int (0 : Int32))]) rfl k₀) ?_
              show GoOn p e below _ (T40.setTop (mkF m 341 #[.val (.long q0), .second, .val (.int q1), .val (.int ((q1 &&& (2147483647 : Int32)) % (9 : Int32))), .val (.long (((((((z0 ||| z1) ||| z2) ||| z3) ||| z4) ||| z5) ||| z6) ||| z7)), .second, .val (.long mk), .second, .val (.long x), .second, .val (.long r), .second, .val (.long (-9187201950435737472 : Int64)), .second, .val (.int (1 : Int32)), .val (.int (0 : Int32))] []))
              exact J3 _ X40 e40 _ (Or.inl rfl)
            · refine GoOn.step (fun t₀ k₀ => XS.ifNo X40.here hx rfl (hb hby at_331) rfl ((if0 _ _).trans (feq d1).1) k₀) ?_
              show GoOn p e below _ (T40.setTop (mkF m 334 #[.val (.long q0), .second, .val (.int q1), .val (.int ((q1 &&& (2147483647 : Int32)) % (9 : Int32))), .val (.long (((((((z0 ||| z1) ||| z2) ||| z3) ||| z4) ||| z5) ||| z6) ||| z7)), .second, .val (.long mk), .second, .val (.long x), .second, .val (.long r), .second, .val (.long (-9187201950435737472 : Int64)), .second, .val (.int (1 : Int32)), .val (.int k3)] []))
              refine GoOn.step (fun t₀ k₀ => XS.iconst X40.here hx rfl (hb hby at_334) k₀) ?_
              show GoOn p e below _ (T40.setTop (mkF m 335 #[.val (.long q0), .second, .val (.int q1), .val (.int ((q1 &&& (2147483647 : Int32)) % (9 : Int32))), .val (.long (((((((z0 ||| z1) ||| z2) ||| z3) ||| z4) ||| z5) ||| z6) ||| z7)), .second, .val (.long mk), .second, .val (.long x), .second, .val (.long r), .second, .val (.long (-9187201950435737472 : Int64)), .second, .val (.int (1 : Int32)), .val (.int k3)] [(.int (1 : Int32))]))
              refine GoOn.step (fun t₀ k₀ => XS.goto X40.here hx rfl (pc0 := 335) (pc' := 339) rfl (hb hby at_335) (by decide) (by decide) k₀) ?_
              show GoOn p e below _ (T40.setTop (mkF m 339 #[.val (.long q0), .second, .val (.int q1), .val (.int ((q1 &&& (2147483647 : Int32)) % (9 : Int32))), .val (.long (((((((z0 ||| z1) ||| z2) ||| z3) ||| z4) ||| z5) ||| z6) ||| z7)), .second, .val (.long mk), .second, .val (.long x), .second, .val (.long r), .second, .val (.long (-9187201950435737472 : Int64)), .second, .val (.int (1 : Int32)), .val (.int k3)] [(.int (1 : Int32))]))
              refine GoOn.step (fun t₀ k₀ => XS.istore X40.here hx rfl (hb hby at_339) rfl (l' := #[.val (.long q0), .second, .val (.int q1), .val (.int ((q1 &&& (2147483647 : Int32)) % (9 : Int32))), .val (.long (((((((z0 ||| z1) ||| z2) ||| z3) ||| z4) ||| z5) ||| z6) ||| z7)), .second, .val (.long mk), .second, .val (.long x), .second, .val (.long r), .second, .val (.long (-9187201950435737472 : Int64)), .second, .val (.int (1 : Int32)), .val (.int (1 : Int32))]) rfl k₀) ?_
              show GoOn p e below _ (T40.setTop (mkF m 341 #[.val (.long q0), .second, .val (.int q1), .val (.int ((q1 &&& (2147483647 : Int32)) % (9 : Int32))), .val (.long (((((((z0 ||| z1) ||| z2) ||| z3) ||| z4) ||| z5) ||| z6) ||| z7)), .second, .val (.long mk), .second, .val (.long x), .second, .val (.long r), .second, .val (.long (-9187201950435737472 : Int64)), .second, .val (.int (1 : Int32)), .val (.int (1 : Int32))] []))
              exact J3 _ X40 e40 _ (inv_next x 3 _ _ hi d0 d1 (by3 x))
        by_cases d0 : k2 = (0 : Int32)
        · refine GoOn.step (fun t₀ k₀ => XS.ifYes X30.here hx rfl (pc0 := 270) (pc' := 289) rfl (hb hby at_270) rfl ((if0 _ _).trans (teq d0).1) (by decide) (by decide) k₀) ?_
          show GoOn p e below _ (T30.setTop (mkF m 289 #[.val (.long q0), .second, .val (.int q1), .val (.int ((q1 &&& (2147483647 : Int32)) % (9 : Int32))), .val (.long (((((((z0 ||| z1) ||| z2) ||| z3) ||| z4) ||| z5) ||| z6) ||| z7)), .second, .val (.long mk), .second, .val (.long x), .second, .val (.long r), .second, .val (.long (-9187201950435737472 : Int64)), .second, .val (.int (1 : Int32)), .val (.int k2)] []))
          refine GoOn.step (fun t₀ k₀ => XS.iconst X30.here hx rfl (hb hby at_289) k₀) ?_
          show GoOn p e below _ (T30.setTop (mkF m 290 #[.val (.long q0), .second, .val (.int q1), .val (.int ((q1 &&& (2147483647 : Int32)) % (9 : Int32))), .val (.long (((((((z0 ||| z1) ||| z2) ||| z3) ||| z4) ||| z5) ||| z6) ||| z7)), .second, .val (.long mk), .second, .val (.long x), .second, .val (.long r), .second, .val (.long (-9187201950435737472 : Int64)), .second, .val (.int (1 : Int32)), .val (.int k2)] [(.int (0 : Int32))]))
          refine GoOn.step (fun t₀ k₀ => XS.istore X30.here hx rfl (hb hby at_290) rfl (l' := #[.val (.long q0), .second, .val (.int q1), .val (.int ((q1 &&& (2147483647 : Int32)) % (9 : Int32))), .val (.long (((((((z0 ||| z1) ||| z2) ||| z3) ||| z4) ||| z5) ||| z6) ||| z7)), .second, .val (.long mk), .second, .val (.long x), .second, .val (.long r), .second, .val (.long (-9187201950435737472 : Int64)), .second, .val (.int (1 : Int32)), .val (.int (0 : Int32))]) rfl k₀) ?_
          show GoOn p e below _ (T30.setTop (mkF m 292 #[.val (.long q0), .second, .val (.int q1), .val (.int ((q1 &&& (2147483647 : Int32)) % (9 : Int32))), .val (.long (((((((z0 ||| z1) ||| z2) ||| z3) ||| z4) ||| z5) ||| z6) ||| z7)), .second, .val (.long mk), .second, .val (.long x), .second, .val (.long r), .second, .val (.long (-9187201950435737472 : Int64)), .second, .val (.int (1 : Int32)), .val (.int (0 : Int32))] []))
          exact J2 _ X30 e30 _ (Or.inl rfl)
        · refine GoOn.step (fun t₀ k₀ => XS.ifNo X30.here hx rfl (hb hby at_270) rfl ((if0 _ _).trans (feq d0).1) k₀) ?_
          show GoOn p e below _ (T30.setTop (mkF m 273 #[.val (.long q0), .second, .val (.int q1), .val (.int ((q1 &&& (2147483647 : Int32)) % (9 : Int32))), .val (.long (((((((z0 ||| z1) ||| z2) ||| z3) ||| z4) ||| z5) ||| z6) ||| z7)), .second, .val (.long mk), .second, .val (.long x), .second, .val (.long r), .second, .val (.long (-9187201950435737472 : Int64)), .second, .val (.int (1 : Int32)), .val (.int k2)] []))
          refine GoOn.step (fun t₀ k₀ => XS.lload X30.here hx rfl (hb hby at_273) rfl k₀) ?_
          show GoOn p e below _ (T30.setTop (mkF m 275 #[.val (.long q0), .second, .val (.int q1), .val (.int ((q1 &&& (2147483647 : Int32)) % (9 : Int32))), .val (.long (((((((z0 ||| z1) ||| z2) ||| z3) ||| z4) ||| z5) ||| z6) ||| z7)), .second, .val (.long mk), .second, .val (.long x), .second, .val (.long r), .second, .val (.long (-9187201950435737472 : Int64)), .second, .val (.int (1 : Int32)), .val (.int k2)] [(.long x)]))
          refine GoOn.step (fun t₀ k₀ => XS.iconst X30.here hx rfl (hb hby at_275) k₀) ?_
          show GoOn p e below _ (T30.setTop (mkF m 276 #[.val (.long q0), .second, .val (.int q1), .val (.int ((q1 &&& (2147483647 : Int32)) % (9 : Int32))), .val (.long (((((((z0 ||| z1) ||| z2) ||| z3) ||| z4) ||| z5) ||| z6) ||| z7)), .second, .val (.long mk), .second, .val (.long x), .second, .val (.long r), .second, .val (.long (-9187201950435737472 : Int64)), .second, .val (.int (1 : Int32)), .val (.int k2)] [(.int (2 : Int32)), (.long x)]))
          obtain ⟨_, T33, L33, X33, hQ33, st33⟩ := kCallS X30 hx hZ (argsL := [(.long x), (.int (2 : Int32))]) (rest := []) (c_bo l Z a0 hw x (2 : Int32) h0) hown (hw _ (List.mem_of_getElem? (i := 5) rfl)) (hw _ (List.mem_of_getElem? (i := 6) rfl)) (hw _ (List.mem_of_getElem? (i := 3) rfl)) (hw _ (List.mem_of_getElem? (i := 7) rfl)) (by decide) e30 (g := (mkF m 276 #[.val (.long q0), .second, .val (.int q1), .val (.int ((q1 &&& (2147483647 : Int32)) % (9 : Int32))), .val (.long (((((((z0 ||| z1) ||| z2) ||| z3) ||| z4) ||| z5) ||| z6) ||| z7)), .second, .val (.long mk), .second, .val (.long x), .second, .val (.long r), .second, .val (.long (-9187201950435737472 : Int64)), .second, .val (.int (1 : Int32)), .val (.int k2)] [(.int (2 : Int32)), (.long x)])) rfl (by rw [hml]; rfl) (lenOf pd_0 rfl) rfl (W := 0) (by show 2 * 0 + _ ≤ _; exact Nat.le_of_eq rfl) (hb hby at_276) (by decide) (by decide) (by decide) (by decide)
          obtain ⟨rfl, rfl, e33⟩ := hQ33
          rw [List.append_nil] at X33
          refine GoOn.step st33 ?_
          show GoOn p e below _ (T33.setTop (mkF m 279 #[.val (.long q0), .second, .val (.int q1), .val (.int ((q1 &&& (2147483647 : Int32)) % (9 : Int32))), .val (.long (((((((z0 ||| z1) ||| z2) ||| z3) ||| z4) ||| z5) ||| z6) ||| z7)), .second, .val (.long mk), .second, .val (.long x), .second, .val (.long r), .second, .val (.long (-9187201950435737472 : Int64)), .second, .val (.int (1 : Int32)), .val (.int k2)] [(.int (bO x (2 : Int32)))]))
          obtain ⟨_, T34, L34, X34, hQ34, st34⟩ := kCallS X33 hx hZ (argsL := [(.int (bO x (2 : Int32)))]) (rest := []) (c_pl l Z a0 hw (bO x (2 : Int32)) h0) hown (hw _ (List.mem_of_getElem? (i := 23) rfl)) (hw _ (List.mem_of_getElem? (i := 24) rfl)) (hw _ (List.mem_of_getElem? (i := 3) rfl)) (hw _ (List.mem_of_getElem? (i := 25) rfl)) (by decide) e33 (g := (mkF m 279 #[.val (.long q0), .second, .val (.int q1), .val (.int ((q1 &&& (2147483647 : Int32)) % (9 : Int32))), .val (.long (((((((z0 ||| z1) ||| z2) ||| z3) ||| z4) ||| z5) ||| z6) ||| z7)), .second, .val (.long mk), .second, .val (.long x), .second, .val (.long r), .second, .val (.long (-9187201950435737472 : Int64)), .second, .val (.int (1 : Int32)), .val (.int k2)] [(.int (bO x (2 : Int32)))])) rfl (by rw [hml]; rfl) (lenOf pd_1 rfl) rfl (W := 0) (by show 2 * 0 + _ ≤ _; exact Nat.le_of_eq rfl) (hb hby at_279) (by decide) (by decide) (by decide) (by decide)
          obtain ⟨rfl, rfl, e34⟩ := hQ34
          rw [List.append_nil] at X34
          refine GoOn.step st34 ?_
          show GoOn p e below _ (T34.setTop (mkF m 282 #[.val (.long q0), .second, .val (.int q1), .val (.int ((q1 &&& (2147483647 : Int32)) % (9 : Int32))), .val (.long (((((((z0 ||| z1) ||| z2) ||| z3) ||| z4) ||| z5) ||| z6) ||| z7)), .second, .val (.long mk), .second, .val (.long x), .second, .val (.long r), .second, .val (.long (-9187201950435737472 : Int64)), .second, .val (.int (1 : Int32)), .val (.int k2)] [(.int (pV (bO x (2 : Int32))))]))
          by_cases d1 : (pV (bO x (2 : Int32))) = (0 : Int32)
          · refine GoOn.step (fun t₀ k₀ => XS.ifYes X34.here hx rfl (pc0 := 282) (pc' := 289) rfl (hb hby at_282) rfl ((if0 _ _).trans (teq d1).1) (by decide) (by decide) k₀) ?_
            show GoOn p e below _ (T34.setTop (mkF m 289 #[.val (.long q0), .second, .val (.int q1), .val (.int ((q1 &&& (2147483647 : Int32)) % (9 : Int32))), .val (.long (((((((z0 ||| z1) ||| z2) ||| z3) ||| z4) ||| z5) ||| z6) ||| z7)), .second, .val (.long mk), .second, .val (.long x), .second, .val (.long r), .second, .val (.long (-9187201950435737472 : Int64)), .second, .val (.int (1 : Int32)), .val (.int k2)] []))
            refine GoOn.step (fun t₀ k₀ => XS.iconst X34.here hx rfl (hb hby at_289) k₀) ?_
            show GoOn p e below _ (T34.setTop (mkF m 290 #[.val (.long q0), .second, .val (.int q1), .val (.int ((q1 &&& (2147483647 : Int32)) % (9 : Int32))), .val (.long (((((((z0 ||| z1) ||| z2) ||| z3) ||| z4) ||| z5) ||| z6) ||| z7)), .second, .val (.long mk), .second, .val (.long x), .second, .val (.long r), .second, .val (.long (-9187201950435737472 : Int64)), .second, .val (.int (1 : Int32)), .val (.int k2)] [(.int (0 : Int32))]))
            refine GoOn.step (fun t₀ k₀ => XS.istore X34.here hx rfl (hb hby at_290) rfl (l' := #[.val (.long q0), .second, .val (.int q1), .val (.int ((q1 &&& (2147483647 : Int32)) % (9 : Int32))), .val (.long (((((((z0 ||| z1) ||| z2) ||| z3) ||| z4) ||| z5) ||| z6) ||| z7)), .second, .val (.long mk), .second, .val (.long x), .second, .val (.long r), .second, .val (.long (-9187201950435737472 : Int64)), .second, .val (.int (1 : Int32)), .val (.int (0 : Int32))]) rfl k₀) ?_
            show GoOn p e below _ (T34.setTop (mkF m 292 #[.val (.long q0), .second, .val (.int q1), .val (.int ((q1 &&& (2147483647 : Int32)) % (9 : Int32))), .val (.long (((((((z0 ||| z1) ||| z2) ||| z3) ||| z4) ||| z5) ||| z6) ||| z7)), .second, .val (.long mk), .second, .val (.long x), .second, .val (.long r), .second, .val (.long (-9187201950435737472 : Int64)), .second, .val (.int (1 : Int32)), .val (.int (0 : Int32))] []))
            exact J2 _ X34 e34 _ (Or.inl rfl)
          · refine GoOn.step (fun t₀ k₀ => XS.ifNo X34.here hx rfl (hb hby at_282) rfl ((if0 _ _).trans (feq d1).1) k₀) ?_
            show GoOn p e below _ (T34.setTop (mkF m 285 #[.val (.long q0), .second, .val (.int q1), .val (.int ((q1 &&& (2147483647 : Int32)) % (9 : Int32))), .val (.long (((((((z0 ||| z1) ||| z2) ||| z3) ||| z4) ||| z5) ||| z6) ||| z7)), .second, .val (.long mk), .second, .val (.long x), .second, .val (.long r), .second, .val (.long (-9187201950435737472 : Int64)), .second, .val (.int (1 : Int32)), .val (.int k2)] []))
            refine GoOn.step (fun t₀ k₀ => XS.iconst X34.here hx rfl (hb hby at_285) k₀) ?_
            show GoOn p e below _ (T34.setTop (mkF m 286 #[.val (.long q0), .second, .val (.int q1), .val (.int ((q1 &&& (2147483647 : Int32)) % (9 : Int32))), .val (.long (((((((z0 ||| z1) ||| z2) ||| z3) ||| z4) ||| z5) ||| z6) ||| z7)), .second, .val (.long mk), .second, .val (.long x), .second, .val (.long r), .second, .val (.long (-9187201950435737472 : Int64)), .second, .val (.int (1 : Int32)), .val (.int k2)] [(.int (1 : Int32))]))
            refine GoOn.step (fun t₀ k₀ => XS.goto X34.here hx rfl (pc0 := 286) (pc' := 290) rfl (hb hby at_286) (by decide) (by decide) k₀) ?_
            show GoOn p e below _ (T34.setTop (mkF m 290 #[.val (.long q0), .second, .val (.int q1), .val (.int ((q1 &&& (2147483647 : Int32)) % (9 : Int32))), .val (.long (((((((z0 ||| z1) ||| z2) ||| z3) ||| z4) ||| z5) ||| z6) ||| z7)), .second, .val (.long mk), .second, .val (.long x), .second, .val (.long r), .second, .val (.long (-9187201950435737472 : Int64)), .second, .val (.int (1 : Int32)), .val (.int k2)] [(.int (1 : Int32))]))
            refine GoOn.step (fun t₀ k₀ => XS.istore X34.here hx rfl (hb hby at_290) rfl (l' := #[.val (.long q0), .second, .val (.int q1), .val (.int ((q1 &&& (2147483647 : Int32)) % (9 : Int32))), .val (.long (((((((z0 ||| z1) ||| z2) ||| z3) ||| z4) ||| z5) ||| z6) ||| z7)), .second, .val (.long mk), .second, .val (.long x), .second, .val (.long r), .second, .val (.long (-9187201950435737472 : Int64)), .second, .val (.int (1 : Int32)), .val (.int (1 : Int32))]) rfl k₀) ?_
            show GoOn p e below _ (T34.setTop (mkF m 292 #[.val (.long q0), .second, .val (.int q1), .val (.int ((q1 &&& (2147483647 : Int32)) % (9 : Int32))), .val (.long (((((((z0 ||| z1) ||| z2) ||| z3) ||| z4) ||| z5) ||| z6) ||| z7)), .second, .val (.long mk), .second, .val (.long x), .second, .val (.long r), .second, .val (.long (-9187201950435737472 : Int64)), .second, .val (.int (1 : Int32)), .val (.int (1 : Int32))] []))
            exact J2 _ X34 e34 _ (inv_next x 2 _ _ hi d0 d1 (by2 x))
      by_cases d0 : k1 = (0 : Int32)
      · refine GoOn.step (fun t₀ k₀ => XS.ifYes X24.here hx rfl (pc0 := 221) (pc' := 240) rfl (hb hby at_221) rfl ((if0 _ _).trans (teq d0).1) (by decide) (by decide) k₀) ?_
        show GoOn p e below _ (T24.setTop (mkF m 240 #[.val (.long q0), .second, .val (.int q1), .val (.int ((q1 &&& (2147483647 : Int32)) % (9 : Int32))), .val (.long (((((((z0 ||| z1) ||| z2) ||| z3) ||| z4) ||| z5) ||| z6) ||| z7)), .second, .val (.long mk), .second, .val (.long x), .second, .val (.long r), .second, .val (.long (-9187201950435737472 : Int64)), .second, .val (.int (1 : Int32)), .val (.int k1)] []))
        refine GoOn.step (fun t₀ k₀ => XS.iconst X24.here hx rfl (hb hby at_240) k₀) ?_
        show GoOn p e below _ (T24.setTop (mkF m 241 #[.val (.long q0), .second, .val (.int q1), .val (.int ((q1 &&& (2147483647 : Int32)) % (9 : Int32))), .val (.long (((((((z0 ||| z1) ||| z2) ||| z3) ||| z4) ||| z5) ||| z6) ||| z7)), .second, .val (.long mk), .second, .val (.long x), .second, .val (.long r), .second, .val (.long (-9187201950435737472 : Int64)), .second, .val (.int (1 : Int32)), .val (.int k1)] [(.int (0 : Int32))]))
        refine GoOn.step (fun t₀ k₀ => XS.istore X24.here hx rfl (hb hby at_241) rfl (l' := #[.val (.long q0), .second, .val (.int q1), .val (.int ((q1 &&& (2147483647 : Int32)) % (9 : Int32))), .val (.long (((((((z0 ||| z1) ||| z2) ||| z3) ||| z4) ||| z5) ||| z6) ||| z7)), .second, .val (.long mk), .second, .val (.long x), .second, .val (.long r), .second, .val (.long (-9187201950435737472 : Int64)), .second, .val (.int (1 : Int32)), .val (.int (0 : Int32))]) rfl k₀) ?_
        show GoOn p e below _ (T24.setTop (mkF m 243 #[.val (.long q0), .second, .val (.int q1), .val (.int ((q1 &&& (2147483647 : Int32)) % (9 : Int32))), .val (.long (((((((z0 ||| z1) ||| z2) ||| z3) ||| z4) ||| z5) ||| z6) ||| z7)), .second, .val (.long mk), .second, .val (.long x), .second, .val (.long r), .second, .val (.long (-9187201950435737472 : Int64)), .second, .val (.int (1 : Int32)), .val (.int (0 : Int32))] []))
        exact J1 _ X24 e24 _ (Or.inl rfl)
      · refine GoOn.step (fun t₀ k₀ => XS.ifNo X24.here hx rfl (hb hby at_221) rfl ((if0 _ _).trans (feq d0).1) k₀) ?_
        show GoOn p e below _ (T24.setTop (mkF m 224 #[.val (.long q0), .second, .val (.int q1), .val (.int ((q1 &&& (2147483647 : Int32)) % (9 : Int32))), .val (.long (((((((z0 ||| z1) ||| z2) ||| z3) ||| z4) ||| z5) ||| z6) ||| z7)), .second, .val (.long mk), .second, .val (.long x), .second, .val (.long r), .second, .val (.long (-9187201950435737472 : Int64)), .second, .val (.int (1 : Int32)), .val (.int k1)] []))
        refine GoOn.step (fun t₀ k₀ => XS.lload X24.here hx rfl (hb hby at_224) rfl k₀) ?_
        show GoOn p e below _ (T24.setTop (mkF m 226 #[.val (.long q0), .second, .val (.int q1), .val (.int ((q1 &&& (2147483647 : Int32)) % (9 : Int32))), .val (.long (((((((z0 ||| z1) ||| z2) ||| z3) ||| z4) ||| z5) ||| z6) ||| z7)), .second, .val (.long mk), .second, .val (.long x), .second, .val (.long r), .second, .val (.long (-9187201950435737472 : Int64)), .second, .val (.int (1 : Int32)), .val (.int k1)] [(.long x)]))
        refine GoOn.step (fun t₀ k₀ => XS.iconst X24.here hx rfl (hb hby at_226) k₀) ?_
        show GoOn p e below _ (T24.setTop (mkF m 227 #[.val (.long q0), .second, .val (.int q1), .val (.int ((q1 &&& (2147483647 : Int32)) % (9 : Int32))), .val (.long (((((((z0 ||| z1) ||| z2) ||| z3) ||| z4) ||| z5) ||| z6) ||| z7)), .second, .val (.long mk), .second, .val (.long x), .second, .val (.long r), .second, .val (.long (-9187201950435737472 : Int64)), .second, .val (.int (1 : Int32)), .val (.int k1)] [(.int (1 : Int32)), (.long x)]))
        obtain ⟨_, T27, L27, X27, hQ27, st27⟩ := kCallS X24 hx hZ (argsL := [(.long x), (.int (1 : Int32))]) (rest := []) (c_bo l Z a0 hw x (1 : Int32) h0) hown (hw _ (List.mem_of_getElem? (i := 5) rfl)) (hw _ (List.mem_of_getElem? (i := 6) rfl)) (hw _ (List.mem_of_getElem? (i := 3) rfl)) (hw _ (List.mem_of_getElem? (i := 7) rfl)) (by decide) e24 (g := (mkF m 227 #[.val (.long q0), .second, .val (.int q1), .val (.int ((q1 &&& (2147483647 : Int32)) % (9 : Int32))), .val (.long (((((((z0 ||| z1) ||| z2) ||| z3) ||| z4) ||| z5) ||| z6) ||| z7)), .second, .val (.long mk), .second, .val (.long x), .second, .val (.long r), .second, .val (.long (-9187201950435737472 : Int64)), .second, .val (.int (1 : Int32)), .val (.int k1)] [(.int (1 : Int32)), (.long x)])) rfl (by rw [hml]; rfl) (lenOf pd_0 rfl) rfl (W := 0) (by show 2 * 0 + _ ≤ _; exact Nat.le_of_eq rfl) (hb hby at_227) (by decide) (by decide) (by decide) (by decide)
        obtain ⟨rfl, rfl, e27⟩ := hQ27
        rw [List.append_nil] at X27
        refine GoOn.step st27 ?_
        show GoOn p e below _ (T27.setTop (mkF m 230 #[.val (.long q0), .second, .val (.int q1), .val (.int ((q1 &&& (2147483647 : Int32)) % (9 : Int32))), .val (.long (((((((z0 ||| z1) ||| z2) ||| z3) ||| z4) ||| z5) ||| z6) ||| z7)), .second, .val (.long mk), .second, .val (.long x), .second, .val (.long r), .second, .val (.long (-9187201950435737472 : Int64)), .second, .val (.int (1 : Int32)), .val (.int k1)] [(.int (bO x (1 : Int32)))]))
        obtain ⟨_, T28, L28, X28, hQ28, st28⟩ := kCallS X27 hx hZ (argsL := [(.int (bO x (1 : Int32)))]) (rest := []) (c_pl l Z a0 hw (bO x (1 : Int32)) h0) hown (hw _ (List.mem_of_getElem? (i := 23) rfl)) (hw _ (List.mem_of_getElem? (i := 24) rfl)) (hw _ (List.mem_of_getElem? (i := 3) rfl)) (hw _ (List.mem_of_getElem? (i := 25) rfl)) (by decide) e27 (g := (mkF m 230 #[.val (.long q0), .second, .val (.int q1), .val (.int ((q1 &&& (2147483647 : Int32)) % (9 : Int32))), .val (.long (((((((z0 ||| z1) ||| z2) ||| z3) ||| z4) ||| z5) ||| z6) ||| z7)), .second, .val (.long mk), .second, .val (.long x), .second, .val (.long r), .second, .val (.long (-9187201950435737472 : Int64)), .second, .val (.int (1 : Int32)), .val (.int k1)] [(.int (bO x (1 : Int32)))])) rfl (by rw [hml]; rfl) (lenOf pd_1 rfl) rfl (W := 0) (by show 2 * 0 + _ ≤ _; exact Nat.le_of_eq rfl) (hb hby at_230) (by decide) (by decide) (by decide) (by decide)
        obtain ⟨rfl, rfl, e28⟩ := hQ28
        rw [List.append_nil] at X28
        refine GoOn.step st28 ?_
        show GoOn p e below _ (T28.setTop (mkF m 233 #[.val (.long q0), .second, .val (.int q1), .val (.int ((q1 &&& (2147483647 : Int32)) % (9 : Int32))), .val (.long (((((((z0 ||| z1) ||| z2) ||| z3) ||| z4) ||| z5) ||| z6) ||| z7)), .second, .val (.long mk), .second, .val (.long x), .second, .val (.long r), .second, .val (.long (-9187201950435737472 : Int64)), .second, .val (.int (1 : Int32)), .val (.int k1)] [(.int (pV (bO x (1 : Int32))))]))
        by_cases d1 : (pV (bO x (1 : Int32))) = (0 : Int32)
        · refine GoOn.step (fun t₀ k₀ => XS.ifYes X28.here hx rfl (pc0 := 233) (pc' := 240) rfl (hb hby at_233) rfl ((if0 _ _).trans (teq d1).1) (by decide) (by decide) k₀) ?_
          show GoOn p e below _ (T28.setTop (mkF m 240 #[.val (.long q0), .second, .val (.int q1), .val (.int ((q1 &&& (2147483647 : Int32)) % (9 : Int32))), .val (.long (((((((z0 ||| z1) ||| z2) ||| z3) ||| z4) ||| z5) ||| z6) ||| z7)), .second, .val (.long mk), .second, .val (.long x), .second, .val (.long r), .second, .val (.long (-9187201950435737472 : Int64)), .second, .val (.int (1 : Int32)), .val (.int k1)] []))
          refine GoOn.step (fun t₀ k₀ => XS.iconst X28.here hx rfl (hb hby at_240) k₀) ?_
          show GoOn p e below _ (T28.setTop (mkF m 241 #[.val (.long q0), .second, .val (.int q1), .val (.int ((q1 &&& (2147483647 : Int32)) % (9 : Int32))), .val (.long (((((((z0 ||| z1) ||| z2) ||| z3) ||| z4) ||| z5) ||| z6) ||| z7)), .second, .val (.long mk), .second, .val (.long x), .second, .val (.long r), .second, .val (.long (-9187201950435737472 : Int64)), .second, .val (.int (1 : Int32)), .val (.int k1)] [(.int (0 : Int32))]))
          refine GoOn.step (fun t₀ k₀ => XS.istore X28.here hx rfl (hb hby at_241) rfl (l' := #[.val (.long q0), .second, .val (.int q1), .val (.int ((q1 &&& (2147483647 : Int32)) % (9 : Int32))), .val (.long (((((((z0 ||| z1) ||| z2) ||| z3) ||| z4) ||| z5) ||| z6) ||| z7)), .second, .val (.long mk), .second, .val (.long x), .second, .val (.long r), .second, .val (.long (-9187201950435737472 : Int64)), .second, .val (.int (1 : Int32)), .val (.int (0 : Int32))]) rfl k₀) ?_
          show GoOn p e below _ (T28.setTop (mkF m 243 #[.val (.long q0), .second, .val (.int q1), .val (.int ((q1 &&& (2147483647 : Int32)) % (9 : Int32))), .val (.long (((((((z0 ||| z1) ||| z2) ||| z3) ||| z4) ||| z5) ||| z6) ||| z7)), .second, .val (.long mk), .second, .val (.long x), .second, .val (.long r), .second, .val (.long (-9187201950435737472 : Int64)), .second, .val (.int (1 : Int32)), .val (.int (0 : Int32))] []))
          exact J1 _ X28 e28 _ (Or.inl rfl)
        · refine GoOn.step (fun t₀ k₀ => XS.ifNo X28.here hx rfl (hb hby at_233) rfl ((if0 _ _).trans (feq d1).1) k₀) ?_
          show GoOn p e below _ (T28.setTop (mkF m 236 #[.val (.long q0), .second, .val (.int q1), .val (.int ((q1 &&& (2147483647 : Int32)) % (9 : Int32))), .val (.long (((((((z0 ||| z1) ||| z2) ||| z3) ||| z4) ||| z5) ||| z6) ||| z7)), .second, .val (.long mk), .second, .val (.long x), .second, .val (.long r), .second, .val (.long (-9187201950435737472 : Int64)), .second, .val (.int (1 : Int32)), .val (.int k1)] []))
          refine GoOn.step (fun t₀ k₀ => XS.iconst X28.here hx rfl (hb hby at_236) k₀) ?_
          show GoOn p e below _ (T28.setTop (mkF m 237 #[.val (.long q0), .second, .val (.int q1), .val (.int ((q1 &&& (2147483647 : Int32)) % (9 : Int32))), .val (.long (((((((z0 ||| z1) ||| z2) ||| z3) ||| z4) ||| z5) ||| z6) ||| z7)), .second, .val (.long mk), .second, .val (.long x), .second, .val (.long r), .second, .val (.long (-9187201950435737472 : Int64)), .second, .val (.int (1 : Int32)), .val (.int k1)] [(.int (1 : Int32))]))
          refine GoOn.step (fun t₀ k₀ => XS.goto X28.here hx rfl (pc0 := 237) (pc' := 241) rfl (hb hby at_237) (by decide) (by decide) k₀) ?_
          show GoOn p e below _ (T28.setTop (mkF m 241 #[.val (.long q0), .second, .val (.int q1), .val (.int ((q1 &&& (2147483647 : Int32)) % (9 : Int32))), .val (.long (((((((z0 ||| z1) ||| z2) ||| z3) ||| z4) ||| z5) ||| z6) ||| z7)), .second, .val (.long mk), .second, .val (.long x), .second, .val (.long r), .second, .val (.long (-9187201950435737472 : Int64)), .second, .val (.int (1 : Int32)), .val (.int k1)] [(.int (1 : Int32))]))
          refine GoOn.step (fun t₀ k₀ => XS.istore X28.here hx rfl (hb hby at_241) rfl (l' := #[.val (.long q0), .second, .val (.int q1), .val (.int ((q1 &&& (2147483647 : Int32)) % (9 : Int32))), .val (.long (((((((z0 ||| z1) ||| z2) ||| z3) ||| z4) ||| z5) ||| z6) ||| z7)), .second, .val (.long mk), .second, .val (.long x), .second, .val (.long r), .second, .val (.long (-9187201950435737472 : Int64)), .second, .val (.int (1 : Int32)), .val (.int (1 : Int32))]) rfl k₀) ?_
          show GoOn p e below _ (T28.setTop (mkF m 243 #[.val (.long q0), .second, .val (.int q1), .val (.int ((q1 &&& (2147483647 : Int32)) % (9 : Int32))), .val (.long (((((((z0 ||| z1) ||| z2) ||| z3) ||| z4) ||| z5) ||| z6) ||| z7)), .second, .val (.long mk), .second, .val (.long x), .second, .val (.long r), .second, .val (.long (-9187201950435737472 : Int64)), .second, .val (.int (1 : Int32)), .val (.int (1 : Int32))] []))
          exact J1 _ X28 e28 _ (inv_next x 1 _ _ hi d0 d1 (by1 x))
    by_cases d0 : (1 : Int32) = (0 : Int32)
    · refine GoOn.step (fun t₀ k₀ => XS.ifYes X18.here hx rfl (pc0 := 172) (pc' := 191) rfl (hb hby at_172) rfl ((if0 _ _).trans (teq d0).1) (by decide) (by decide) k₀) ?_
      show GoOn p e below _ (T18.setTop (mkF m 191 #[.val (.long q0), .second, .val (.int q1), .val (.int ((q1 &&& (2147483647 : Int32)) % (9 : Int32))), .val (.long (((((((z0 ||| z1) ||| z2) ||| z3) ||| z4) ||| z5) ||| z6) ||| z7)), .second, .val (.long mk), .second, .val (.long x), .second, .val (.long r), .second, .val (.long (-9187201950435737472 : Int64)), .second, .val (.int (1 : Int32)), .val (.int (1 : Int32))] []))
      refine GoOn.step (fun t₀ k₀ => XS.iconst X18.here hx rfl (hb hby at_191) k₀) ?_
      show GoOn p e below _ (T18.setTop (mkF m 192 #[.val (.long q0), .second, .val (.int q1), .val (.int ((q1 &&& (2147483647 : Int32)) % (9 : Int32))), .val (.long (((((((z0 ||| z1) ||| z2) ||| z3) ||| z4) ||| z5) ||| z6) ||| z7)), .second, .val (.long mk), .second, .val (.long x), .second, .val (.long r), .second, .val (.long (-9187201950435737472 : Int64)), .second, .val (.int (1 : Int32)), .val (.int (1 : Int32))] [(.int (0 : Int32))]))
      refine GoOn.step (fun t₀ k₀ => XS.istore X18.here hx rfl (hb hby at_192) rfl (l' := #[.val (.long q0), .second, .val (.int q1), .val (.int ((q1 &&& (2147483647 : Int32)) % (9 : Int32))), .val (.long (((((((z0 ||| z1) ||| z2) ||| z3) ||| z4) ||| z5) ||| z6) ||| z7)), .second, .val (.long mk), .second, .val (.long x), .second, .val (.long r), .second, .val (.long (-9187201950435737472 : Int64)), .second, .val (.int (1 : Int32)), .val (.int (0 : Int32))]) rfl k₀) ?_
      show GoOn p e below _ (T18.setTop (mkF m 194 #[.val (.long q0), .second, .val (.int q1), .val (.int ((q1 &&& (2147483647 : Int32)) % (9 : Int32))), .val (.long (((((((z0 ||| z1) ||| z2) ||| z3) ||| z4) ||| z5) ||| z6) ||| z7)), .second, .val (.long mk), .second, .val (.long x), .second, .val (.long r), .second, .val (.long (-9187201950435737472 : Int64)), .second, .val (.int (1 : Int32)), .val (.int (0 : Int32))] []))
      exact J0 _ X18 e18 _ (Or.inl rfl)
    · refine GoOn.step (fun t₀ k₀ => XS.ifNo X18.here hx rfl (hb hby at_172) rfl ((if0 _ _).trans (feq d0).1) k₀) ?_
      show GoOn p e below _ (T18.setTop (mkF m 175 #[.val (.long q0), .second, .val (.int q1), .val (.int ((q1 &&& (2147483647 : Int32)) % (9 : Int32))), .val (.long (((((((z0 ||| z1) ||| z2) ||| z3) ||| z4) ||| z5) ||| z6) ||| z7)), .second, .val (.long mk), .second, .val (.long x), .second, .val (.long r), .second, .val (.long (-9187201950435737472 : Int64)), .second, .val (.int (1 : Int32)), .val (.int (1 : Int32))] []))
      refine GoOn.step (fun t₀ k₀ => XS.lload X18.here hx rfl (hb hby at_175) rfl k₀) ?_
      show GoOn p e below _ (T18.setTop (mkF m 177 #[.val (.long q0), .second, .val (.int q1), .val (.int ((q1 &&& (2147483647 : Int32)) % (9 : Int32))), .val (.long (((((((z0 ||| z1) ||| z2) ||| z3) ||| z4) ||| z5) ||| z6) ||| z7)), .second, .val (.long mk), .second, .val (.long x), .second, .val (.long r), .second, .val (.long (-9187201950435737472 : Int64)), .second, .val (.int (1 : Int32)), .val (.int (1 : Int32))] [(.long x)]))
      refine GoOn.step (fun t₀ k₀ => XS.iconst X18.here hx rfl (hb hby at_177) k₀) ?_
      show GoOn p e below _ (T18.setTop (mkF m 178 #[.val (.long q0), .second, .val (.int q1), .val (.int ((q1 &&& (2147483647 : Int32)) % (9 : Int32))), .val (.long (((((((z0 ||| z1) ||| z2) ||| z3) ||| z4) ||| z5) ||| z6) ||| z7)), .second, .val (.long mk), .second, .val (.long x), .second, .val (.long r), .second, .val (.long (-9187201950435737472 : Int64)), .second, .val (.int (1 : Int32)), .val (.int (1 : Int32))] [(.int (0 : Int32)), (.long x)]))
      obtain ⟨_, T21, L21, X21, hQ21, st21⟩ := kCallS X18 hx hZ (argsL := [(.long x), (.int (0 : Int32))]) (rest := []) (c_bo l Z a0 hw x (0 : Int32) h0) hown (hw _ (List.mem_of_getElem? (i := 5) rfl)) (hw _ (List.mem_of_getElem? (i := 6) rfl)) (hw _ (List.mem_of_getElem? (i := 3) rfl)) (hw _ (List.mem_of_getElem? (i := 7) rfl)) (by decide) e18 (g := (mkF m 178 #[.val (.long q0), .second, .val (.int q1), .val (.int ((q1 &&& (2147483647 : Int32)) % (9 : Int32))), .val (.long (((((((z0 ||| z1) ||| z2) ||| z3) ||| z4) ||| z5) ||| z6) ||| z7)), .second, .val (.long mk), .second, .val (.long x), .second, .val (.long r), .second, .val (.long (-9187201950435737472 : Int64)), .second, .val (.int (1 : Int32)), .val (.int (1 : Int32))] [(.int (0 : Int32)), (.long x)])) rfl (by rw [hml]; rfl) (lenOf pd_0 rfl) rfl (W := 0) (by show 2 * 0 + _ ≤ _; exact Nat.le_of_eq rfl) (hb hby at_178) (by decide) (by decide) (by decide) (by decide)
      obtain ⟨rfl, rfl, e21⟩ := hQ21
      rw [List.append_nil] at X21
      refine GoOn.step st21 ?_
      show GoOn p e below _ (T21.setTop (mkF m 181 #[.val (.long q0), .second, .val (.int q1), .val (.int ((q1 &&& (2147483647 : Int32)) % (9 : Int32))), .val (.long (((((((z0 ||| z1) ||| z2) ||| z3) ||| z4) ||| z5) ||| z6) ||| z7)), .second, .val (.long mk), .second, .val (.long x), .second, .val (.long r), .second, .val (.long (-9187201950435737472 : Int64)), .second, .val (.int (1 : Int32)), .val (.int (1 : Int32))] [(.int (bO x (0 : Int32)))]))
      obtain ⟨_, T22, L22, X22, hQ22, st22⟩ := kCallS X21 hx hZ (argsL := [(.int (bO x (0 : Int32)))]) (rest := []) (c_pl l Z a0 hw (bO x (0 : Int32)) h0) hown (hw _ (List.mem_of_getElem? (i := 23) rfl)) (hw _ (List.mem_of_getElem? (i := 24) rfl)) (hw _ (List.mem_of_getElem? (i := 3) rfl)) (hw _ (List.mem_of_getElem? (i := 25) rfl)) (by decide) e21 (g := (mkF m 181 #[.val (.long q0), .second, .val (.int q1), .val (.int ((q1 &&& (2147483647 : Int32)) % (9 : Int32))), .val (.long (((((((z0 ||| z1) ||| z2) ||| z3) ||| z4) ||| z5) ||| z6) ||| z7)), .second, .val (.long mk), .second, .val (.long x), .second, .val (.long r), .second, .val (.long (-9187201950435737472 : Int64)), .second, .val (.int (1 : Int32)), .val (.int (1 : Int32))] [(.int (bO x (0 : Int32)))])) rfl (by rw [hml]; rfl) (lenOf pd_1 rfl) rfl (W := 0) (by show 2 * 0 + _ ≤ _; exact Nat.le_of_eq rfl) (hb hby at_181) (by decide) (by decide) (by decide) (by decide)
      obtain ⟨rfl, rfl, e22⟩ := hQ22
      rw [List.append_nil] at X22
      refine GoOn.step st22 ?_
      show GoOn p e below _ (T22.setTop (mkF m 184 #[.val (.long q0), .second, .val (.int q1), .val (.int ((q1 &&& (2147483647 : Int32)) % (9 : Int32))), .val (.long (((((((z0 ||| z1) ||| z2) ||| z3) ||| z4) ||| z5) ||| z6) ||| z7)), .second, .val (.long mk), .second, .val (.long x), .second, .val (.long r), .second, .val (.long (-9187201950435737472 : Int64)), .second, .val (.int (1 : Int32)), .val (.int (1 : Int32))] [(.int (pV (bO x (0 : Int32))))]))
      by_cases d1 : (pV (bO x (0 : Int32))) = (0 : Int32)
      · refine GoOn.step (fun t₀ k₀ => XS.ifYes X22.here hx rfl (pc0 := 184) (pc' := 191) rfl (hb hby at_184) rfl ((if0 _ _).trans (teq d1).1) (by decide) (by decide) k₀) ?_
        show GoOn p e below _ (T22.setTop (mkF m 191 #[.val (.long q0), .second, .val (.int q1), .val (.int ((q1 &&& (2147483647 : Int32)) % (9 : Int32))), .val (.long (((((((z0 ||| z1) ||| z2) ||| z3) ||| z4) ||| z5) ||| z6) ||| z7)), .second, .val (.long mk), .second, .val (.long x), .second, .val (.long r), .second, .val (.long (-9187201950435737472 : Int64)), .second, .val (.int (1 : Int32)), .val (.int (1 : Int32))] []))
        refine GoOn.step (fun t₀ k₀ => XS.iconst X22.here hx rfl (hb hby at_191) k₀) ?_
        show GoOn p e below _ (T22.setTop (mkF m 192 #[.val (.long q0), .second, .val (.int q1), .val (.int ((q1 &&& (2147483647 : Int32)) % (9 : Int32))), .val (.long (((((((z0 ||| z1) ||| z2) ||| z3) ||| z4) ||| z5) ||| z6) ||| z7)), .second, .val (.long mk), .second, .val (.long x), .second, .val (.long r), .second, .val (.long (-9187201950435737472 : Int64)), .second, .val (.int (1 : Int32)), .val (.int (1 : Int32))] [(.int (0 : Int32))]))
        refine GoOn.step (fun t₀ k₀ => XS.istore X22.here hx rfl (hb hby at_192) rfl (l' := #[.val (.long q0), .second, .val (.int q1), .val (.int ((q1 &&& (2147483647 : Int32)) % (9 : Int32))), .val (.long (((((((z0 ||| z1) ||| z2) ||| z3) ||| z4) ||| z5) ||| z6) ||| z7)), .second, .val (.long mk), .second, .val (.long x), .second, .val (.long r), .second, .val (.long (-9187201950435737472 : Int64)), .second, .val (.int (1 : Int32)), .val (.int (0 : Int32))]) rfl k₀) ?_
        show GoOn p e below _ (T22.setTop (mkF m 194 #[.val (.long q0), .second, .val (.int q1), .val (.int ((q1 &&& (2147483647 : Int32)) % (9 : Int32))), .val (.long (((((((z0 ||| z1) ||| z2) ||| z3) ||| z4) ||| z5) ||| z6) ||| z7)), .second, .val (.long mk), .second, .val (.long x), .second, .val (.long r), .second, .val (.long (-9187201950435737472 : Int64)), .second, .val (.int (1 : Int32)), .val (.int (0 : Int32))] []))
        exact J0 _ X22 e22 _ (Or.inl rfl)
      · refine GoOn.step (fun t₀ k₀ => XS.ifNo X22.here hx rfl (hb hby at_184) rfl ((if0 _ _).trans (feq d1).1) k₀) ?_
        show GoOn p e below _ (T22.setTop (mkF m 187 #[.val (.long q0), .second, .val (.int q1), .val (.int ((q1 &&& (2147483647 : Int32)) % (9 : Int32))), .val (.long (((((((z0 ||| z1) ||| z2) ||| z3) ||| z4) ||| z5) ||| z6) ||| z7)), .second, .val (.long mk), .second, .val (.long x), .second, .val (.long r), .second, .val (.long (-9187201950435737472 : Int64)), .second, .val (.int (1 : Int32)), .val (.int (1 : Int32))] []))
        refine GoOn.step (fun t₀ k₀ => XS.iconst X22.here hx rfl (hb hby at_187) k₀) ?_
        show GoOn p e below _ (T22.setTop (mkF m 188 #[.val (.long q0), .second, .val (.int q1), .val (.int ((q1 &&& (2147483647 : Int32)) % (9 : Int32))), .val (.long (((((((z0 ||| z1) ||| z2) ||| z3) ||| z4) ||| z5) ||| z6) ||| z7)), .second, .val (.long mk), .second, .val (.long x), .second, .val (.long r), .second, .val (.long (-9187201950435737472 : Int64)), .second, .val (.int (1 : Int32)), .val (.int (1 : Int32))] [(.int (1 : Int32))]))
        refine GoOn.step (fun t₀ k₀ => XS.goto X22.here hx rfl (pc0 := 188) (pc' := 192) rfl (hb hby at_188) (by decide) (by decide) k₀) ?_
        show GoOn p e below _ (T22.setTop (mkF m 192 #[.val (.long q0), .second, .val (.int q1), .val (.int ((q1 &&& (2147483647 : Int32)) % (9 : Int32))), .val (.long (((((((z0 ||| z1) ||| z2) ||| z3) ||| z4) ||| z5) ||| z6) ||| z7)), .second, .val (.long mk), .second, .val (.long x), .second, .val (.long r), .second, .val (.long (-9187201950435737472 : Int64)), .second, .val (.int (1 : Int32)), .val (.int (1 : Int32))] [(.int (1 : Int32))]))
        refine GoOn.step (fun t₀ k₀ => XS.istore X22.here hx rfl (hb hby at_192) rfl (l' := #[.val (.long q0), .second, .val (.int q1), .val (.int ((q1 &&& (2147483647 : Int32)) % (9 : Int32))), .val (.long (((((((z0 ||| z1) ||| z2) ||| z3) ||| z4) ||| z5) ||| z6) ||| z7)), .second, .val (.long mk), .second, .val (.long x), .second, .val (.long r), .second, .val (.long (-9187201950435737472 : Int64)), .second, .val (.int (1 : Int32)), .val (.int (1 : Int32))]) rfl k₀) ?_
        show GoOn p e below _ (T22.setTop (mkF m 194 #[.val (.long q0), .second, .val (.int q1), .val (.int ((q1 &&& (2147483647 : Int32)) % (9 : Int32))), .val (.long (((((((z0 ||| z1) ||| z2) ||| z3) ||| z4) ||| z5) ||| z6) ||| z7)), .second, .val (.long mk), .second, .val (.long x), .second, .val (.long r), .second, .val (.long (-9187201950435737472 : Int64)), .second, .val (.int (1 : Int32)), .val (.int (1 : Int32))] []))
        exact J0 _ X22 e22 _ (inv_next x 0 _ _ hi d0 d1 (by0 x))
  by_cases m0 : ((q1 &&& (2147483647 : Int32)) % (9 : Int32)) = (0 : Int32)
  · refine GoOn.step (fun t₀ k₀ => XS.ifNo X14.here hx rfl (hb hby at_60) rfl ((if0 _ _).trans (teq m0).2) k₀) ?_
    show GoOn p e below _ (T14.setTop (mkF m 63 #[.val (.long q0), .second, .val (.int q1), .val (.int ((q1 &&& (2147483647 : Int32)) % (9 : Int32))), .val (.long (((((((z0 ||| z1) ||| z2) ||| z3) ||| z4) ||| z5) ||| z6) ||| z7)), .second, .unset, .unset, .unset, .unset, .unset, .unset, .unset, .unset, .unset, .unset] []))
    refine GoOn.step (fun t₀ k₀ => XS.lconst X14.here hx rfl (hb hby at_63) k₀) ?_
    show GoOn p e below _ (T14.setTop (mkF m 64 #[.val (.long q0), .second, .val (.int q1), .val (.int ((q1 &&& (2147483647 : Int32)) % (9 : Int32))), .val (.long (((((((z0 ||| z1) ||| z2) ||| z3) ||| z4) ||| z5) ||| z6) ||| z7)), .second, .unset, .unset, .unset, .unset, .unset, .unset, .unset, .unset, .unset, .unset] [(.long (0 : Int64))]))
    refine GoOn.step (fun t₀ k₀ => XS.lstore X14.here hx rfl (hb hby at_64) rfl (l' := #[.val (.long q0), .second, .val (.int q1), .val (.int ((q1 &&& (2147483647 : Int32)) % (9 : Int32))), .val (.long (((((((z0 ||| z1) ||| z2) ||| z3) ||| z4) ||| z5) ||| z6) ||| z7)), .second, .val (.long (0 : Int64)), .second, .unset, .unset, .unset, .unset, .unset, .unset, .unset, .unset]) rfl k₀) ?_
    show GoOn p e below _ (T14.setTop (mkF m 66 #[.val (.long q0), .second, .val (.int q1), .val (.int ((q1 &&& (2147483647 : Int32)) % (9 : Int32))), .val (.long (((((((z0 ||| z1) ||| z2) ||| z3) ||| z4) ||| z5) ||| z6) ||| z7)), .second, .val (.long (0 : Int64)), .second, .unset, .unset, .unset, .unset, .unset, .unset, .unset, .unset] []))
    refine GoOn.step (fun t₀ k₀ => XS.goto X14.here hx rfl (pc0 := 66) (pc' := 93) rfl (hb hby at_66) (by decide) (by decide) k₀) ?_
    show GoOn p e below _ (T14.setTop (mkF m 93 #[.val (.long q0), .second, .val (.int q1), .val (.int ((q1 &&& (2147483647 : Int32)) % (9 : Int32))), .val (.long (((((((z0 ||| z1) ||| z2) ||| z3) ||| z4) ||| z5) ||| z6) ||| z7)), .second, .val (.long (0 : Int64)), .second, .unset, .unset, .unset, .unset, .unset, .unset, .unset, .unset] []))
    exact J _
  · refine GoOn.step (fun t₀ k₀ => XS.ifYes X14.here hx rfl (pc0 := 60) (pc' := 69) rfl (hb hby at_60) rfl ((if0 _ _).trans (feq m0).2) (by decide) (by decide) k₀) ?_
    show GoOn p e below _ (T14.setTop (mkF m 69 #[.val (.long q0), .second, .val (.int q1), .val (.int ((q1 &&& (2147483647 : Int32)) % (9 : Int32))), .val (.long (((((((z0 ||| z1) ||| z2) ||| z3) ||| z4) ||| z5) ||| z6) ||| z7)), .second, .unset, .unset, .unset, .unset, .unset, .unset, .unset, .unset, .unset, .unset] []))
    refine GoOn.step (fun t₀ k₀ => XS.iloadN X14.here hx rfl (hb hby at_69) rfl k₀) ?_
    show GoOn p e below _ (T14.setTop (mkF m 70 #[.val (.long q0), .second, .val (.int q1), .val (.int ((q1 &&& (2147483647 : Int32)) % (9 : Int32))), .val (.long (((((((z0 ||| z1) ||| z2) ||| z3) ||| z4) ||| z5) ||| z6) ||| z7)), .second, .unset, .unset, .unset, .unset, .unset, .unset, .unset, .unset, .unset, .unset] [(.int ((q1 &&& (2147483647 : Int32)) % (9 : Int32)))]))
    refine GoOn.step (fun t₀ k₀ => XS.bipush X14.here hx rfl (hb hby at_70) k₀) ?_
    show GoOn p e below _ (T14.setTop (mkF m 72 #[.val (.long q0), .second, .val (.int q1), .val (.int ((q1 &&& (2147483647 : Int32)) % (9 : Int32))), .val (.long (((((((z0 ||| z1) ||| z2) ||| z3) ||| z4) ||| z5) ||| z6) ||| z7)), .second, .unset, .unset, .unset, .unset, .unset, .unset, .unset, .unset, .unset, .unset] [(.int (8 : Int32)), (.int ((q1 &&& (2147483647 : Int32)) % (9 : Int32)))]))
    by_cases m1 : ((q1 &&& (2147483647 : Int32)) % (9 : Int32)) = (8 : Int32)
    · refine GoOn.step (fun t₀ k₀ => XS.icmpNo X14.here hx rfl (hb hby at_72) rfl (teq m1).2 k₀) ?_
      show GoOn p e below _ (T14.setTop (mkF m 75 #[.val (.long q0), .second, .val (.int q1), .val (.int ((q1 &&& (2147483647 : Int32)) % (9 : Int32))), .val (.long (((((((z0 ||| z1) ||| z2) ||| z3) ||| z4) ||| z5) ||| z6) ||| z7)), .second, .unset, .unset, .unset, .unset, .unset, .unset, .unset, .unset, .unset, .unset] []))
      refine GoOn.step (fun t₀ k₀ => X14.ldc2Long hx hown (mvT hZ (hw _ (List.mem_of_getElem? (i := 9) rfl))) (g := (mkF m 75 #[.val (.long q0), .second, .val (.int q1), .val (.int ((q1 &&& (2147483647 : Int32)) % (9 : Int32))), .val (.long (((((((z0 ||| z1) ||| z2) ||| z3) ||| z4) ||| z5) ||| z6) ||| z7)), .second, .unset, .unset, .unset, .unset, .unset, .unset, .unset, .unset, .unset, .unset] [])) rfl (hb hby at_75) t₀ k₀) ?_
      show GoOn p e below _ (T14.setTop (mkF m 78 #[.val (.long q0), .second, .val (.int q1), .val (.int ((q1 &&& (2147483647 : Int32)) % (9 : Int32))), .val (.long (((((((z0 ||| z1) ||| z2) ||| z3) ||| z4) ||| z5) ||| z6) ||| z7)), .second, .unset, .unset, .unset, .unset, .unset, .unset, .unset, .unset, .unset, .unset] [(.long (-1 : Int64))]))
      refine GoOn.step (fun t₀ k₀ => XS.lstore X14.here hx rfl (hb hby at_78) rfl (l' := #[.val (.long q0), .second, .val (.int q1), .val (.int ((q1 &&& (2147483647 : Int32)) % (9 : Int32))), .val (.long (((((((z0 ||| z1) ||| z2) ||| z3) ||| z4) ||| z5) ||| z6) ||| z7)), .second, .val (.long (-1 : Int64)), .second, .unset, .unset, .unset, .unset, .unset, .unset, .unset, .unset]) rfl k₀) ?_
      show GoOn p e below _ (T14.setTop (mkF m 80 #[.val (.long q0), .second, .val (.int q1), .val (.int ((q1 &&& (2147483647 : Int32)) % (9 : Int32))), .val (.long (((((((z0 ||| z1) ||| z2) ||| z3) ||| z4) ||| z5) ||| z6) ||| z7)), .second, .val (.long (-1 : Int64)), .second, .unset, .unset, .unset, .unset, .unset, .unset, .unset, .unset] []))
      refine GoOn.step (fun t₀ k₀ => XS.goto X14.here hx rfl (pc0 := 80) (pc' := 93) rfl (hb hby at_80) (by decide) (by decide) k₀) ?_
      show GoOn p e below _ (T14.setTop (mkF m 93 #[.val (.long q0), .second, .val (.int q1), .val (.int ((q1 &&& (2147483647 : Int32)) % (9 : Int32))), .val (.long (((((((z0 ||| z1) ||| z2) ||| z3) ||| z4) ||| z5) ||| z6) ||| z7)), .second, .val (.long (-1 : Int64)), .second, .unset, .unset, .unset, .unset, .unset, .unset, .unset, .unset] []))
      exact J _
    · refine GoOn.step (fun t₀ k₀ => XS.icmpYes X14.here hx rfl (pc0 := 72) (pc' := 83) rfl (hb hby at_72) rfl (feq m1).2 (by decide) (by decide) k₀) ?_
      show GoOn p e below _ (T14.setTop (mkF m 83 #[.val (.long q0), .second, .val (.int q1), .val (.int ((q1 &&& (2147483647 : Int32)) % (9 : Int32))), .val (.long (((((((z0 ||| z1) ||| z2) ||| z3) ||| z4) ||| z5) ||| z6) ||| z7)), .second, .unset, .unset, .unset, .unset, .unset, .unset, .unset, .unset, .unset, .unset] []))
      refine GoOn.step (fun t₀ k₀ => XS.lconst X14.here hx rfl (hb hby at_83) k₀) ?_
      show GoOn p e below _ (T14.setTop (mkF m 84 #[.val (.long q0), .second, .val (.int q1), .val (.int ((q1 &&& (2147483647 : Int32)) % (9 : Int32))), .val (.long (((((((z0 ||| z1) ||| z2) ||| z3) ||| z4) ||| z5) ||| z6) ||| z7)), .second, .unset, .unset, .unset, .unset, .unset, .unset, .unset, .unset, .unset, .unset] [(.long (1 : Int64))]))
      refine GoOn.step (fun t₀ k₀ => XS.bipush X14.here hx rfl (hb hby at_84) k₀) ?_
      show GoOn p e below _ (T14.setTop (mkF m 86 #[.val (.long q0), .second, .val (.int q1), .val (.int ((q1 &&& (2147483647 : Int32)) % (9 : Int32))), .val (.long (((((((z0 ||| z1) ||| z2) ||| z3) ||| z4) ||| z5) ||| z6) ||| z7)), .second, .unset, .unset, .unset, .unset, .unset, .unset, .unset, .unset, .unset, .unset] [(.int (8 : Int32)), (.long (1 : Int64))]))
      refine GoOn.step (fun t₀ k₀ => XS.iloadN X14.here hx rfl (hb hby at_86) rfl k₀) ?_
      show GoOn p e below _ (T14.setTop (mkF m 87 #[.val (.long q0), .second, .val (.int q1), .val (.int ((q1 &&& (2147483647 : Int32)) % (9 : Int32))), .val (.long (((((((z0 ||| z1) ||| z2) ||| z3) ||| z4) ||| z5) ||| z6) ||| z7)), .second, .unset, .unset, .unset, .unset, .unset, .unset, .unset, .unset, .unset, .unset] [(.int ((q1 &&& (2147483647 : Int32)) % (9 : Int32))), (.int (8 : Int32)), (.long (1 : Int64))]))
      refine GoOn.step (fun t₀ k₀ => XS.imul X14.here hx rfl (hb hby at_87) rfl k₀) ?_
      show GoOn p e below _ (T14.setTop (mkF m 88 #[.val (.long q0), .second, .val (.int q1), .val (.int ((q1 &&& (2147483647 : Int32)) % (9 : Int32))), .val (.long (((((((z0 ||| z1) ||| z2) ||| z3) ||| z4) ||| z5) ||| z6) ||| z7)), .second, .unset, .unset, .unset, .unset, .unset, .unset, .unset, .unset, .unset, .unset] [(.int ((8 : Int32) * ((q1 &&& (2147483647 : Int32)) % (9 : Int32)))), (.long (1 : Int64))]))
      refine GoOn.step (fun t₀ k₀ => XS.lshl X14.here hx rfl (hb hby at_88) rfl k₀) ?_
      show GoOn p e below _ (T14.setTop (mkF m 89 #[.val (.long q0), .second, .val (.int q1), .val (.int ((q1 &&& (2147483647 : Int32)) % (9 : Int32))), .val (.long (((((((z0 ||| z1) ||| z2) ||| z3) ||| z4) ||| z5) ||| z6) ||| z7)), .second, .unset, .unset, .unset, .unset, .unset, .unset, .unset, .unset, .unset, .unset] [(.long ((1 : Int64) <<< (((8 : Int32) * ((q1 &&& (2147483647 : Int32)) % (9 : Int32))) &&& 0x3f).toInt64))]))
      refine GoOn.step (fun t₀ k₀ => XS.lconst X14.here hx rfl (hb hby at_89) k₀) ?_
      show GoOn p e below _ (T14.setTop (mkF m 90 #[.val (.long q0), .second, .val (.int q1), .val (.int ((q1 &&& (2147483647 : Int32)) % (9 : Int32))), .val (.long (((((((z0 ||| z1) ||| z2) ||| z3) ||| z4) ||| z5) ||| z6) ||| z7)), .second, .unset, .unset, .unset, .unset, .unset, .unset, .unset, .unset, .unset, .unset] [(.long (1 : Int64)), (.long ((1 : Int64) <<< (((8 : Int32) * ((q1 &&& (2147483647 : Int32)) % (9 : Int32))) &&& 0x3f).toInt64))]))
      refine GoOn.step (fun t₀ k₀ => XS.lsub X14.here hx rfl (hb hby at_90) rfl k₀) ?_
      show GoOn p e below _ (T14.setTop (mkF m 91 #[.val (.long q0), .second, .val (.int q1), .val (.int ((q1 &&& (2147483647 : Int32)) % (9 : Int32))), .val (.long (((((((z0 ||| z1) ||| z2) ||| z3) ||| z4) ||| z5) ||| z6) ||| z7)), .second, .unset, .unset, .unset, .unset, .unset, .unset, .unset, .unset, .unset, .unset] [(.long (((1 : Int64) <<< (((8 : Int32) * ((q1 &&& (2147483647 : Int32)) % (9 : Int32))) &&& 0x3f).toInt64) - (1 : Int64)))]))
      refine GoOn.step (fun t₀ k₀ => XS.lstore X14.here hx rfl (hb hby at_91) rfl (l' := #[.val (.long q0), .second, .val (.int q1), .val (.int ((q1 &&& (2147483647 : Int32)) % (9 : Int32))), .val (.long (((((((z0 ||| z1) ||| z2) ||| z3) ||| z4) ||| z5) ||| z6) ||| z7)), .second, .val (.long (((1 : Int64) <<< (((8 : Int32) * ((q1 &&& (2147483647 : Int32)) % (9 : Int32))) &&& 0x3f).toInt64) - (1 : Int64))), .second, .unset, .unset, .unset, .unset, .unset, .unset, .unset, .unset]) rfl k₀) ?_
      show GoOn p e below _ (T14.setTop (mkF m 93 #[.val (.long q0), .second, .val (.int q1), .val (.int ((q1 &&& (2147483647 : Int32)) % (9 : Int32))), .val (.long (((((((z0 ||| z1) ||| z2) ||| z3) ||| z4) ||| z5) ||| z6) ||| z7)), .second, .val (.long (((1 : Int64) <<< (((8 : Int32) * ((q1 &&& (2147483647 : Int32)) % (9 : Int32))) &&& 0x3f).toInt64) - (1 : Int64))), .second, .unset, .unset, .unset, .unset, .unset, .unset, .unset, .unset] []))
      exact J _
set_option maxRecDepth 65536 in
set_option maxHeartbeats 40000000 in
theorem comes_1 {Post : Tables → Env → Array Value → State → Outcome → State → Prop} (hpost : ∀ tb e args s v u, (limb_1_1.after args s (.returned v) u = true ∧ limb_1_2.after args s (.returned v) u = true ∧ True) → FrameEnd s (.returned v) u (Jvm.fieldLocs frame_1_writes args s ++ Jvm.arrayLocs frame_1_arrays args s ++ Jvm.staticLocs frame_1_statics s) 0 0 → Post tb e args s (.returned v) u) :
    ArmFor flags0 classFile x code maxLocals ret World_1 tables_1 room_1 Calls_1 rest_1 Pre_1 Post := by
  intro l hfl _ _ p e ha hc hk s m args below hf hA hF happ hP
  obtain ⟨hcalls, hrest, hpre⟩ := hP
  obtain ⟨-, -, -, hnamed, -, -, -, hat⟩ := (Spec.applies_iff hf).mp happ
  obtain ⟨hg, hn⟩ := and_e (Cond.before_iff.mp (show (Jvm.Cond.and given_1 narrow_1).before args s = true from hpre))
  obtain ⟨g0, r0⟩ := and_e hg
  obtain ⟨g1, r1⟩ := and_e r0
  obtain ⟨w0, w1, rfl⟩ : ∃ w0 w1 : Value, args = #[w0, w1] := by
    have hs : args.size = 2 := by simpa [Cond.value, given_1] using g0
    obtain ⟨L⟩ := args
    match L, hs with
    | [w0, w1], _ => exact ⟨w0, w1, rfl⟩
  have hw := fun d (hd : d ∈ tables_1) => atoms_spec (ws := Jvm.Cond.code x code maxLocals ret :: tables_1) hat d (List.mem_cons_of_mem _ hd)
  have hfit : Fit s := fun {y c} hc i hi => by
    obtain ⟨ha, rfl⟩ := Array.getElem?_eq_some_iff.mp hc
    have q := List.all_eq_true.mp ((Array.all_eq_true_iff_forall_mem.mp hF) _ (Array.getElem_mem ha)) i (List.mem_range.mpr hi)
    simpa [Array.getElem?_eq_getElem hi] using q
  obtain ⟨i0, ei0⟩ := isL_v g1
  obtain rfl : w0 = (.long i0) := Option.some.inj ei0
  obtain ⟨i1, ei1⟩ := is_v r1
  obtain rfl : w1 = (.int i1) := Option.some.inj ei1
  obtain ⟨n, o, h1, h2, h3, _, L, rfl, ⟨rfl, N⟩, hq⟩ := law_ok l s _ hw i0 i1 s.heap s.heap.size (Nat.le_refl _) tables_1 p e ha hc hk s m _ below hf ((Spec.applies_iff_loose hf).mp happ).1 ⟨rfl, State.Warmed39.refl s, rfl⟩ trivial
  refine ⟨n, _, h1, h2, h3, hpost _ _ _ _ _ _ ⟨Cond.after_iff.mpr rfl, Cond.after_iff.mpr (eq_i res_at (Term.int_eval (1)) rfl), trivial⟩ ⟨hq.1, hq.2.1, (hq.2.2.sift fun y hy => Or.inr (N y hy)).mono (by decide) (by decide)⟩⟩
theorem main_1_1 : Claimed_1_1 := comes_1 fun _ _ _ _ _ _ h hF => ⟨h.1, hF⟩
theorem main_1_2 : Claimed_1_2 := comes_1 fun _ _ _ _ _ _ h hF => ⟨h.2.1, hF⟩
end Jvm.Pilot.@@N@@
namespace Jvm.Pilot.@@N@@
open Jvm Jvm.ClassFile Sem Op Lib Jvm.Free Jvm.Stand Jvm.Pilot.@@N@@.Jvm.D
/-! MADE BY PROGRAM (witnessworld.py) out of the Statement's table words and the real class files: 7 classes; the members and pool entries that the words name. The judged class is class 1, her method 1. -/
namespace start1
open Jvm.ClassFile
def u (s : String) : CpInfo := .utf8 (stringToUtf16 s)
/-- a pool by its gaps: so many unusable entries, then the entry; so many at the end -/
def gap : Nat → List CpInfo → List CpInfo
  | 0, r => r
  | n + 1, r => .unusable :: gap n r
def poolList (es : List (Nat × CpInfo)) (last : Nat) : List CpInfo := es.foldr (fun e r => gap e.1 (e.2 :: r)) (gap last [])
def pool (es : List (Nat × CpInfo)) (last : Nat) : Array CpInfo := ⟨poolList es last⟩
def fileOf (pool : Array CpInfo) (this : Nat) (attrs : Array Attribute := #[]) (ms : Array MethodInfo := #[]) (fl : Nat := 33) (sup : Nat := 0) (ifs : Array Nat := #[]) (fds : Array FieldInfo := #[]) : ClassFile where
  minorVersion := 0
  majorVersion := 65
  constantPool := pool
  accessFlags := fl
  thisClass := this
  superClass := sup
  interfaces := ifs
  fields := fds
  methods := ms
  attributes := attrs
def plain (name : String) (sup : Option ClassId) : Class where
  name := name
  kind := .ordinary
  loader := none
  accessFlags := 33
  super := sup
  interfaces := #[]
  cf := none
  fields := #[]
  methods := #[]
  instanceTypes := #[]
  staticTypes := #[]
  resolved := #[]
  callSites := []
  init := .initialized
  statics := none
  mirror := none

def pool0 : Array CpInfo := pool [(5, u "<init>"), (0, u "()V"), (1, .class_ 10), (1, u "java/lang/Object")] 113

def k0m0 : Method := { name := "<init>", desc := "()V", sig := { parameters := [], returnType := none }, accessFlags := 1, code := none }
/-- java/lang/Object -/
def k0 : Class := { plain "java/lang/Object" none with
  accessFlags := 33
  interfaces := #[]
  cf := some (fileOf pool0 8 #[] #[{ accessFlags := 1, nameIndex := 5, descriptorIndex := 6, attributes := #[] }] 33 0 #[] #[])
  fields := #[]
  methods := #[k0m0]
  instanceTypes := #[]
  staticTypes := #[]
  resolved := Array.replicate 124 none
  statics := none }

def pool1 : Array CpInfo := pool [(2, .class_ 4), (1, u "java/lang/Object"), (0, u "<init>"), (0, u "()V"), (0, .integer 2147483647), (0, .methodref 9 10), (0, .class_ 11), (0, .nameAndType 12 13), (0, u "com/example/austere_log/austerelog/http/ObjectBodyNotPlainPinLaw"), (0, u "plainAt"), (0, u "(JI)J"), (0, .long 18446744073709551615), (1, .methodref 17 18), (0, .class_ 19), (0, .nameAndType 20 21), (0, u "com/example/austere_log/austerelog/http/ObjectBody"), (0, u "notPlain"), (0, u "(J)J"), (0, .long 9259542123273814144), (1, .methodref 9 25), (0, .nameAndType 26 27), (0, u "byteOk"), (0, u "(JJIZ)Z"), (0, .methodref 9 29), (0, .nameAndType 30 31), (0, u "byteOf"), (0, u "(JI)I"), (0, .methodref 9 33), (0, .nameAndType 34 35), (0, u "plain"), (0, u "(I)Z"), (0, .long 255), (3, u "law"), (0, u "(JI)Z")] 3

def k1m0 : Method := { name := "<init>", desc := "()V", sig := { parameters := [], returnType := none }, accessFlags := 2, code := none }
def k1c1 : Code := { maxStack := 8, maxLocals := 16, code := code, exceptionTable := #[], attributes := #[] }
def k1m1 : Method := { name := "law", desc := "(JI)Z", sig := { parameters := [.long, .int], returnType := some .boolean }, accessFlags := 9, code := some k1c1 }
def k1c2 : Code := { maxStack := 4, maxLocals := 3, code := method_3_code, exceptionTable := #[], attributes := #[] }
def k1m2 : Method := { name := "byteOf", desc := "(JI)I", sig := { parameters := [.long, .int], returnType := some .int }, accessFlags := 10, code := some k1c2 }
def k1c3 : Code := { maxStack := 2, maxLocals := 1, code := method_4_code, exceptionTable := #[], attributes := #[] }
def k1m3 : Method := { name := "plain", desc := "(I)Z", sig := { parameters := [.int], returnType := some .boolean }, accessFlags := 10, code := some k1c3 }
def k1c4 : Code := { maxStack := 4, maxLocals := 5, code := method_5_code, exceptionTable := #[], attributes := #[] }
def k1m4 : Method := { name := "plainAt", desc := "(JI)J", sig := { parameters := [.long, .int], returnType := some .long }, accessFlags := 10, code := some k1c4 }
def k1c5 : Code := { maxStack := 4, maxLocals := 8, code := method_6_code, exceptionTable := #[], attributes := #[] }
def k1m5 : Method := { name := "byteOk", desc := "(JJIZ)Z", sig := { parameters := [.long, .long, .int, .boolean], returnType := some .boolean }, accessFlags := 10, code := some k1c5 }
/-- com/example/austere_log/austerelog/http/ObjectBodyNotPlainPinLaw -/
def k1 : Class := { plain "com/example/austere_log/austerelog/http/ObjectBodyNotPlainPinLaw" (some 0) with
  accessFlags := 49
  interfaces := #[]
  cf := some (fileOf pool1 9 #[] #[{ accessFlags := 2, nameIndex := 5, descriptorIndex := 6, attributes := #[] }, { accessFlags := 9, nameIndex := 40, descriptorIndex := 41, attributes := #[] }, { accessFlags := 10, nameIndex := 30, descriptorIndex := 31, attributes := #[] }, { accessFlags := 10, nameIndex := 34, descriptorIndex := 35, attributes := #[] }, { accessFlags := 10, nameIndex := 12, descriptorIndex := 13, attributes := #[] }, { accessFlags := 10, nameIndex := 26, descriptorIndex := 27, attributes := #[] }] 49 2 #[] #[])
  fields := #[]
  methods := #[k1m0, k1m1, k1m2, k1m3, k1m4, k1m5]
  instanceTypes := #[]
  staticTypes := #[]
  resolved := Array.replicate 45 none
  statics := none }

def pool2 : Array CpInfo := pool [(4, .class_ 6), (1, u "java/lang/Object"), (0, u "<init>"), (0, u "()V"), (0, .class_ 10), (0, u "com/example/austere_log/austerelog/http/ObjectBody$Value"), (4, .class_ 17), (1, u "com/example/austere_log/austerelog/http/ObjectBody"), (0, u "value"), (0, u "Lcom/example/austere_log/austerelog/http/ObjectBody$Value;"), (0, .class_ 21), (0, u "com/example/austere_log/austerelog/http/ObjectBody$Names"), (2, u "namesByPlace"), (0, u "[Lcom/example/austere_log/austerelog/http/ObjectBody$Names;"), (2, u "objectsOpen"), (0, u "[Z"), (2, u "body"), (0, u "[B"), (2, u "deepest"), (0, u "I"), (2, u "BYTE_ORDER_MARK"), (54, .class_ 97), (1, u "com/example/austere_log/austerelog/http/ObjectBody$Kind"), (24, .class_ 124), (1, u "com/example/austere_log/austerelog/http/ObjectBody$MemberReader"), (21, u "EIGHT_BYTES"), (0, u "Ljava/lang/invoke/VarHandle;"), (47, u "TRUE_BYTES"), (6, u "FALSE_BYTES"), (2, u "NULL_BYTES"), (7, u "notPlain"), (0, u "(J)J"), (8, u "$assertionsDisabled"), (0, u "Z"), (32, u "PLAIN"), (0, .long 2314885530818453536), (1, .long 2459565876494606882), (1, .long 72340172838076673), (1, .long 6655295901103053916), (1, .long 9259542123273814144), (120, u "MAX_DEPTH"), (2, u "KEPT_NAMES"), (1, u "KEPT_PLACES"), (1, u "ESCAPES"), (0, u "Ljava/lang/String;"), (0, u "ESCAPED"), (0, u "NAMES_COMPARED_PAIRWISE"), (1, u "FILTER_WORDS"), (1, u "FILTER_WORD_SHIFT"), (1, u "FILTER_BIT_SHIFT"), (1, u "SLOTS_PER_NAME"), (0, u "MAX_PROBES"), (1, u "HASH_MULTIPLIER"), (0, u "J"), (0, u "END"), (1, u "MIN_PLACES"), (0, u "EACH_BYTE"), (0, u "HIGH_BITS")] 38

def k2m0 : Method := { name := "<init>", desc := "()V", sig := { parameters := [], returnType := none }, accessFlags := 0, code := none }
def k2c1 : Code := { maxStack := 4, maxLocals := 8, code := prog_10_method_15_code, exceptionTable := #[], attributes := #[] }
def k2m1 : Method := { name := "notPlain", desc := "(J)J", sig := { parameters := [.long], returnType := some .long }, accessFlags := 8, code := some k2c1 }
/-- com/example/austere_log/austerelog/http/ObjectBody -/
def k2 : Class := { plain "com/example/austere_log/austerelog/http/ObjectBody" (some 0) with
  accessFlags := 48
  interfaces := #[]
  cf := some (fileOf pool2 15 #[.nestMembers #[20, 9, 122, 95]] #[{ accessFlags := 0, nameIndex := 7, descriptorIndex := 8, attributes := #[] }, { accessFlags := 8, nameIndex := 213, descriptorIndex := 214, attributes := #[] }] 48 4 #[] #[{ accessFlags := 24, nameIndex := 387, descriptorIndex := 37, attributes := #[] }, { accessFlags := 24, nameIndex := 390, descriptorIndex := 37, attributes := #[] }, { accessFlags := 24, nameIndex := 392, descriptorIndex := 37, attributes := #[] }, { accessFlags := 26, nameIndex := 40, descriptorIndex := 33, attributes := #[] }, { accessFlags := 26, nameIndex := 195, descriptorIndex := 33, attributes := #[] }, { accessFlags := 26, nameIndex := 202, descriptorIndex := 33, attributes := #[] }, { accessFlags := 26, nameIndex := 205, descriptorIndex := 33, attributes := #[] }, { accessFlags := 26, nameIndex := 394, descriptorIndex := 395, attributes := #[] }, { accessFlags := 26, nameIndex := 396, descriptorIndex := 395, attributes := #[] }, { accessFlags := 26, nameIndex := 397, descriptorIndex := 37, attributes := #[] }, { accessFlags := 26, nameIndex := 399, descriptorIndex := 37, attributes := #[] }, { accessFlags := 26, nameIndex := 401, descriptorIndex := 37, attributes := #[] }, { accessFlags := 26, nameIndex := 403, descriptorIndex := 37, attributes := #[] }, { accessFlags := 26, nameIndex := 405, descriptorIndex := 37, attributes := #[] }, { accessFlags := 26, nameIndex := 406, descriptorIndex := 37, attributes := #[] }, { accessFlags := 26, nameIndex := 408, descriptorIndex := 409, attributes := #[] }, { accessFlags := 26, nameIndex := 410, descriptorIndex := 37, attributes := #[] }, { accessFlags := 26, nameIndex := 412, descriptorIndex := 37, attributes := #[] }, { accessFlags := 26, nameIndex := 257, descriptorIndex := 29, attributes := #[] }, { accessFlags := 26, nameIndex := 146, descriptorIndex := 147, attributes := #[] }, { accessFlags := 26, nameIndex := 413, descriptorIndex := 409, attributes := #[] }, { accessFlags := 26, nameIndex := 414, descriptorIndex := 409, attributes := #[] }, { accessFlags := 2, nameIndex := 32, descriptorIndex := 33, attributes := #[] }, { accessFlags := 18, nameIndex := 18, descriptorIndex := 19, attributes := #[] }, { accessFlags := 2, nameIndex := 24, descriptorIndex := 25, attributes := #[] }, { accessFlags := 2, nameIndex := 28, descriptorIndex := 29, attributes := #[] }, { accessFlags := 2, nameIndex := 36, descriptorIndex := 37, attributes := #[] }, { accessFlags := 4120, nameIndex := 223, descriptorIndex := 224, attributes := #[] }])
  fields := #[{ name := "MAX_DEPTH", type := .int, accessFlags := 24, slot := 0, constantValue := 0 }, { name := "KEPT_NAMES", type := .int, accessFlags := 24, slot := 1, constantValue := 0 }, { name := "KEPT_PLACES", type := .int, accessFlags := 24, slot := 2, constantValue := 0 }, { name := "BYTE_ORDER_MARK", type := (.array .byte), accessFlags := 26, slot := 3, constantValue := 0 }, { name := "TRUE_BYTES", type := (.array .byte), accessFlags := 26, slot := 4, constantValue := 0 }, { name := "FALSE_BYTES", type := (.array .byte), accessFlags := 26, slot := 5, constantValue := 0 }, { name := "NULL_BYTES", type := (.array .byte), accessFlags := 26, slot := 6, constantValue := 0 }, { name := "ESCAPES", type := (.object "java/lang/String"), accessFlags := 26, slot := 7, constantValue := 0 }, { name := "ESCAPED", type := (.object "java/lang/String"), accessFlags := 26, slot := 8, constantValue := 0 }, { name := "NAMES_COMPARED_PAIRWISE", type := .int, accessFlags := 26, slot := 9, constantValue := 0 }, { name := "FILTER_WORDS", type := .int, accessFlags := 26, slot := 10, constantValue := 0 }, { name := "FILTER_WORD_SHIFT", type := .int, accessFlags := 26, slot := 11, constantValue := 0 }, { name := "FILTER_BIT_SHIFT", type := .int, accessFlags := 26, slot := 12, constantValue := 0 }, { name := "SLOTS_PER_NAME", type := .int, accessFlags := 26, slot := 13, constantValue := 0 }, { name := "MAX_PROBES", type := .int, accessFlags := 26, slot := 14, constantValue := 0 }, { name := "HASH_MULTIPLIER", type := .long, accessFlags := 26, slot := 15, constantValue := 0 }, { name := "END", type := .int, accessFlags := 26, slot := 16, constantValue := 0 }, { name := "MIN_PLACES", type := .int, accessFlags := 26, slot := 17, constantValue := 0 }, { name := "PLAIN", type := (.array .boolean), accessFlags := 26, slot := 18, constantValue := 0 }, { name := "EIGHT_BYTES", type := (.object "java/lang/invoke/VarHandle"), accessFlags := 26, slot := 19, constantValue := 0 }, { name := "EACH_BYTE", type := .long, accessFlags := 26, slot := 20, constantValue := 0 }, { name := "HIGH_BITS", type := .long, accessFlags := 26, slot := 21, constantValue := 0 }, { name := "body", type := (.array .byte), accessFlags := 2, slot := 0, constantValue := 0 }, { name := "value", type := (.object "com/example/austere_log/austerelog/http/ObjectBody$Value"), accessFlags := 18, slot := 1, constantValue := 0 }, { name := "namesByPlace", type := (.array (.object "com/example/austere_log/austerelog/http/ObjectBody$Names")), accessFlags := 2, slot := 2, constantValue := 0 }, { name := "objectsOpen", type := (.array .boolean), accessFlags := 2, slot := 3, constantValue := 0 }, { name := "deepest", type := .int, accessFlags := 2, slot := 4, constantValue := 0 }, { name := "$assertionsDisabled", type := .boolean, accessFlags := 4120, slot := 22, constantValue := 0 }]
  methods := #[k2m0, k2m1]
  instanceTypes := #[(.array .byte), (.object "com/example/austere_log/austerelog/http/ObjectBody$Value"), (.array (.object "com/example/austere_log/austerelog/http/ObjectBody$Names")), (.array .boolean), .int]
  staticTypes := #[.int, .int, .int, (.array .byte), (.array .byte), (.array .byte), (.array .byte), (.object "java/lang/String"), (.object "java/lang/String"), .int, .int, .int, .int, .int, .int, .long, .int, .int, (.array .boolean), (.object "java/lang/invoke/VarHandle"), .long, .long, .boolean]
  resolved := Array.replicate 453 none
  statics := none }

def pool3 : Array CpInfo := pool [(1, u "java/lang/Cloneable"), (0, .class_ 1), (0, u "java/lang/Object"), (0, .class_ 3)] 3

/-- java/lang/Cloneable -/
def k3 : Class := { plain "java/lang/Cloneable" (some 0) with
  accessFlags := 1537
  interfaces := #[]
  cf := some (fileOf pool3 2 #[] #[] 1537 4 #[] #[])
  fields := #[]
  methods := #[]
  instanceTypes := #[]
  staticTypes := #[]
  resolved := Array.replicate 8 none
  statics := none }

def pool4 : Array CpInfo := pool [(1, u "java/io/Serializable"), (0, .class_ 1), (0, u "java/lang/Object"), (0, .class_ 3)] 3

/-- java/io/Serializable -/
def k4 : Class := { plain "java/io/Serializable" (some 0) with
  accessFlags := 1537
  interfaces := #[]
  cf := some (fileOf pool4 2 #[] #[] 1537 4 #[] #[])
  fields := #[]
  methods := #[]
  instanceTypes := #[]
  staticTypes := #[]
  resolved := Array.replicate 8 none
  statics := none }

/-- the primitive byte -/
def k5 : Class := { plain "byte" none with kind := .primitive 'B', accessFlags := 0x411 }
/-- [B -/
def k6 : Class := { plain "[B" (some 0) with kind := .array 5 .byte, interfaces := #[3, 4], accessFlags := 1041 }

def heap : Heap := #[]
def classes : Array Class := #[k0, k1, k2, k3, k4, k5, k6]
def interned : List (Array UInt16 × Addr) := []
def slotsUsed : Nat := 0
def theMethod : MethodId := ⟨1, 1⟩
def args0 : Array Value := #[.long 50, .int 7]
def aboutOver (below : List Frame) : State where
  vm := { classes := classes, interned := interned.toArray }
  heap := heap
  slotsUsed := slotsUsed
  threads := #[{ frames := .invoking theMethod args0 :: below }]
def below0 : List Frame := [.native { method := ⟨0, 0⟩, args := #[] }]
def about1 : State := aboutOver below0
def p0 : Program := .bare "" "" ""
def e0 : Env := launch0.env 0 0 0
theorem w_frames : about1.frames = Frame.invoking theMethod args0 :: below0 := rfl
set_option maxRecDepth 65536 in
theorem w_args : argsFit about1.vm theMethod args0 = true := by decide +kernel
set_option maxRecDepth 65536 in
theorem w_heap : heapFits about1 = true := by decide +kernel
set_option maxRecDepth 65536 in
theorem w_runnable : about1.curStatus? = some .runnable := by decide +kernel
set_option maxRecDepth 65536 in
theorem w_alone : about1.alone = true := by decide +kernel
set_option maxRecDepth 65536 in
theorem w_named : about1.methodNamed? x = some theMethod := by decide +kernel
set_option maxRecDepth 65536 in
theorem w_hears : about1.hears theMethod below0 = true := by decide +kernel
set_option maxRecDepth 65536 in
theorem w_ripe : about1.ripe theMethod args0 below0 = true := by decide +kernel
theorem w_running : about1.status = .running := rfl
set_option maxRecDepth 65536 in
theorem w_room : about1.hasRoom e0.platform room_1 = true :=
  launch0.hasRoom_least _ room_1 (by decide +kernel) (by decide +kernel) (by decide +kernel) (by decide +kernel) (by decide +kernel) (by decide +kernel)
theorem allAtoms_all (ts : List Jvm.Cond) (a : Array Jvm.Value) (st : Jvm.State) : (allAtoms ts).before a st = ts.all (fun c => c.before a st) := by
  induction ts with
  | nil => rfl
  | cons c t ih =>
    show (Jvm.Cond.and c (allAtoms t)).before a st = _
    rw [Jvm.Cond.before_and, ih, List.all_cons]
def words1 : List Jvm.Cond := Jvm.Cond.code x code maxLocals ret :: tables_1
/-- a 'code' word, met by the world's own term for the bytes: nothing is compared byte by byte -/
theorem code_word {y : MethodName} {bytes : ByteArray} {mx : Nat} {rt : Option FieldType} {a : Array Value} {s : State} {m : MethodId} {meth : Method} {c : Code} (h1 : s.methodNamed? y = some m) (h2 : s.vm.method? m = some meth) (h3 : meth.code = some c) (h4 : c.code = bytes)
    (h5 : (c.maxLocals == mx && c.exceptionTable.isEmpty && decide (c.maxStack ≤ mostOperands) && decide (meth.sig.returnType = rt) && !meth.locks && decide (parseMethodDescriptor y.desc = some meth.sig)) = true) : (Jvm.Cond.code y bytes mx rt).before a s = true := by
  simp only [Bool.and_eq_true, beq_iff_eq, Bool.not_eq_true', decide_eq_true_eq] at h5
  obtain ⟨⟨⟨⟨⟨g1, g2⟩, g3⟩, g4⟩, g5⟩, g6⟩ := h5
  simp [Cond.before, Cond.holds, Cond.value, h1, h2, h3, h4, g1, g2, g3, g4, g5, g6]
def isCode : Jvm.Cond → Bool
  | .code _ _ _ _ => true
  | _ => false
theorem all_split {L : List Jvm.Cond} {P : Jvm.Cond → Bool} (h1 : L.all (fun c => isCode c || P c) = true) (h2 : ∀ c ∈ L.filter isCode, P c = true) : L.all P = true := by
  refine List.all_eq_true.mpr fun c hc => ?_
  have h := List.all_eq_true.mp h1 c hc
  rcases Bool.eq_false_or_eq_true (isCode c) with hi | hi
  · exact h2 c (List.mem_filter.mpr ⟨hc, hi⟩)
  · simpa [hi] using h
set_option maxRecDepth 65536 in
theorem w_c0 : (Jvm.Cond.code x code maxLocals ret).before args0 about1 = true := code_word (m := ⟨1, 1⟩) (meth := k1m1) (c := k1c1) (by decide +kernel) rfl rfl rfl (by decide +kernel)
set_option maxRecDepth 65536 in
theorem w_c1 : (Jvm.Cond.code ({ cls := "com/example/austere_log/austerelog/http/ObjectBodyNotPlainPinLaw", name := "plainAt", desc := "(JI)J" } : Jvm.MethodName) method_5_code (5 : Nat) (Option.some Jvm.ClassFile.FieldType.long)).before args0 about1 = true := code_word (m := ⟨1, 4⟩) (meth := k1m4) (c := k1c4) (by decide +kernel) rfl rfl rfl (by decide +kernel)
set_option maxRecDepth 65536 in
theorem w_c2 : (Jvm.Cond.code ({ cls := "com/example/austere_log/austerelog/http/ObjectBodyNotPlainPinLaw", name := "byteOf", desc := "(JI)I" } : Jvm.MethodName) method_3_code (3 : Nat) (Option.some Jvm.ClassFile.FieldType.int)).before args0 about1 = true := code_word (m := ⟨1, 2⟩) (meth := k1m2) (c := k1c2) (by decide +kernel) rfl rfl rfl (by decide +kernel)
set_option maxRecDepth 65536 in
theorem w_c3 : (Jvm.Cond.code ({ cls := "com/example/austere_log/austerelog/http/ObjectBody", name := "notPlain", desc := "(J)J" } : Jvm.MethodName) prog_10_method_15_code (8 : Nat) (Option.some Jvm.ClassFile.FieldType.long)).before args0 about1 = true := code_word (m := ⟨2, 1⟩) (meth := k2m1) (c := k2c1) (by decide +kernel) rfl rfl rfl (by decide +kernel)
set_option maxRecDepth 65536 in
theorem w_c4 : (Jvm.Cond.code ({ cls := "com/example/austere_log/austerelog/http/ObjectBodyNotPlainPinLaw", name := "byteOk", desc := "(JJIZ)Z" } : Jvm.MethodName) method_6_code (8 : Nat) (Option.some Jvm.ClassFile.FieldType.boolean)).before args0 about1 = true := code_word (m := ⟨1, 5⟩) (meth := k1m5) (c := k1c5) (by decide +kernel) rfl rfl rfl (by decide +kernel)
set_option maxRecDepth 65536 in
theorem w_c5 : (Jvm.Cond.code ({ cls := "com/example/austere_log/austerelog/http/ObjectBodyNotPlainPinLaw", name := "plain", desc := "(I)Z" } : Jvm.MethodName) method_4_code (1 : Nat) (Option.some Jvm.ClassFile.FieldType.boolean)).before args0 about1 = true := code_word (m := ⟨1, 3⟩) (meth := k1m3) (c := k1c3) (by decide +kernel) rfl rfl rfl (by decide +kernel)
def codes1 : List Jvm.Cond := [Jvm.Cond.code x code maxLocals ret, Jvm.Cond.code ({ cls := "com/example/austere_log/austerelog/http/ObjectBodyNotPlainPinLaw", name := "plainAt", desc := "(JI)J" } : Jvm.MethodName) method_5_code (5 : Nat) (Option.some Jvm.ClassFile.FieldType.long), Jvm.Cond.code ({ cls := "com/example/austere_log/austerelog/http/ObjectBodyNotPlainPinLaw", name := "byteOf", desc := "(JI)I" } : Jvm.MethodName) method_3_code (3 : Nat) (Option.some Jvm.ClassFile.FieldType.int), Jvm.Cond.code ({ cls := "com/example/austere_log/austerelog/http/ObjectBody", name := "notPlain", desc := "(J)J" } : Jvm.MethodName) prog_10_method_15_code (8 : Nat) (Option.some Jvm.ClassFile.FieldType.long), Jvm.Cond.code ({ cls := "com/example/austere_log/austerelog/http/ObjectBodyNotPlainPinLaw", name := "byteOk", desc := "(JJIZ)Z" } : Jvm.MethodName) method_6_code (8 : Nat) (Option.some Jvm.ClassFile.FieldType.boolean), Jvm.Cond.code ({ cls := "com/example/austere_log/austerelog/http/ObjectBodyNotPlainPinLaw", name := "plain", desc := "(I)Z" } : Jvm.MethodName) method_4_code (1 : Nat) (Option.some Jvm.ClassFile.FieldType.boolean)]
set_option maxRecDepth 65536 in
theorem codes_eq : words1.filter isCode = codes1 := rfl
theorem w_codes : ∀ c ∈ words1.filter isCode, c.before args0 about1 = true := by
  rw [codes_eq]
  intro c hc
  simp only [codes1, List.mem_cons, List.not_mem_nil, or_false] at hc
  rcases hc with rfl | rfl | rfl | rfl | rfl | rfl
  · exact w_c0
  · exact w_c1
  · exact w_c2
  · exact w_c3
  · exact w_c4
  · exact w_c5
set_option maxRecDepth 65536 in
theorem w_t1 : (words1.take 24).all (fun c => isCode c || c.before args0 about1) = true := by decide +kernel
set_option maxRecDepth 65536 in
theorem w_t2 : (words1.drop 24).all (fun c => isCode c || c.before args0 about1) = true := by decide +kernel
theorem w_tables : (allAtoms (Jvm.Cond.code x code maxLocals ret :: tables_1)).before args0 about1 = true := by
  rw [allAtoms_all]
  show words1.all (fun c => c.before args0 about1) = true
  refine all_split ?_ w_codes
  rw [← List.take_append_drop 24 words1, List.all_append, w_t1, w_t2]
  rfl
set_option maxRecDepth 65536 in
theorem w_case : (Jvm.Cond.and given_1 narrow_1).before args0 about1 = true := by decide +kernel
theorem w_applies : (headSpec (Jvm.Cond.code x code maxLocals ret :: tables_1) room_1).applies x e0.platform about1 = true :=
  (Spec.applies_iff w_frames).mpr ⟨w_running, w_runnable, w_alone, w_named, w_hears, w_ripe, w_room, w_tables⟩
theorem atStart : AtStart classFile x code maxLocals ret World_1 tables_1 room_1 Calls_1 rest_1 Pre_1 launch0 p0 e0 about1 theMethod args0 below0 :=
  ⟨lists_1, trivial, launch0.admits_env _ _ _, launch0.least_env, fairChoices_fair.cas, fairChoices_fair.clock, w_frames, w_args, w_heap, w_applies, trivial, trivial, w_case⟩
end start1
theorem witness_1 : WitnessClaimed_1 := ⟨start1.p0, start1.e0, start1.about1, start1.theMethod, start1.args0, start1.below0, start1.atStart⟩
end Jvm.Pilot.@@N@@
