import JvmDerived
import JvmDerived.Pilot.@@N@@Statement
import JvmDerived.Pilot.@@N@@Code
set_option linter.unusedVariables false
set_option linter.unusedSimpArgs false
namespace Jvm.Pilot.@@N@@
open Jvm Jvm.ClassFile Sem Op Lib Jvm.Free Jvm.Stand Jvm.LawKit Jvm.RoadKit Bundle Jvm.Pilot.@@N@@.Jvm.D
/-! ## own kit: a walk in continuation style over the library's steps -/
section OwnKit
variable {p : Program} {l : Launch} {e : Env} {R : Room} {s : State} {m : MethodId} {args : Array Value} {below : List Frame} {meth : Method} {c : Code} {T : State} {locs : List Loc} {cells slots : Nat} {Z : State} {a0 : Array Value} {h h' : Heap}
/-- from U the run ends, and then E holds -/
def GoOn (p : Program) (e : Env) (below : List Frame) (E : State → Outcome → Prop) (U : State) : Prop :=
  ∃ t o, Steps p.tables e below U t ∧ t.status = .running ∧ Ended t below o ∧ E t o
theorem GoOn.step {E : State → Outcome → Prop} {U U' : State} (hs : ∀ t, Steps p.tables e below U' t → Steps p.tables e below U t) (g : GoOn p e below E U') : GoOn p e below E U := by
  obtain ⟨t, o, h1, h2⟩ := g
  exact ⟨t, o, hs _ h1, h2⟩
/-- how a body ends: what it returns, its heap, the places that it wrote -/
abbrev EndQ (s : State) (rm : Room) (Q : Option Value → Heap → List Loc → Prop) : State → Outcome → Prop :=
  fun U o => ∃ v L, o = .returned v ∧ Q v U.heap L ∧ FrameEnd s o U L rm.cells rm.slots
/-- a body's contract at one array of arguments and one heap -/
def Con (l : Launch) (Z : State) (y : MethodName) (bytes : ByteArray) (mx : Nat) (rt : Option FieldType) (rm : Room) (as : Array Value) (h : Heap) (Q : Option Value → Heap → List Loc → Prop) : Prop :=
  ∀ ws : List Jvm.Cond, MetFree l y (head1 (Jvm.Cond.code y bytes mx rt :: ws) rm) (fun a U => a = as ∧ Z.Warmed39 U.vm ∧ U.heap = h) (fun _ _ _ _ _ => True) (fun _ U o U' => ∃ v L, o = .returned v ∧ Q v U'.heap L ∧ FrameEnd U o U' L rm.cells rm.slots)
theorem Con.intro {y : MethodName} {bytes : ByteArray} {mx : Nat} {rt : Option FieldType} {rm : Room} {as : Array Value} {Q : Option Value → Heap → List Loc → Prop} (hp : plainFor y = true)
    (body : ∀ (p : Program) (e : Env) (s : State) (m : MethodId) (below : List Frame) (meth : Method) (c : Code) (s₁ : State), p.tables.exec = Jvm.exec → c.code = bytes → c.maxLocals = mx → meth.sig.returnType = rt → meth.locks = false → Z.Warmed39 s.vm → s.vm.findClass y.cls = some m.cls → meth.name = y.name →
      Stand p l e rm s m as below meth c s₁ [] 0 0 → s₁.heap = h → GoOn p e below (EndQ s rm Q) (s₁.setTop (entryFrame m as mx))) : Con l Z y bytes mx rt rm as h Q := fun ws => by
  refine MetFree.of_bodySF hp hisR ?_
  intro p e s m args below meth c s₁ Bd hml0 hP hK
  obtain ⟨rfl, hZ, hh⟩ := hP
  have X0 : Stand p l e rm s m args below meth c s₁ [] 0 0 := Stand.of_body Bd
  obtain ⟨t, o, h1, h2, h3, h4⟩ := body p e s m below meth c s₁ Bd.exec Bd.bytes hml0 Bd.returns Bd.notSynchronized hZ (findClass_of_methodNamed Bd.named) (name_of_methodNamed Bd.named Bd.method).1 X0 (by rw [← hh, Bd.state]; rfl)
  exact ⟨t, o, h1, h2, h3, h4⟩
theorem GoOn.cast {E : State → Outcome → Prop} {g g' : JFrame} (q : g = g') (k : GoOn p e below E (T.setTop g')) : GoOn p e below E (T.setTop g) := q ▸ k
theorem GoOn.retI (X : Stand p l e R s m args below meth c T locs cells slots) (hx : p.tables.exec = Jvm.exec) (hrt : meth.sig.returnType = some .int) (hlk : meth.locks = false) {rm : Room} {Q : Option Value → Heap → List Loc → Prop} {pc : Nat} {Ls : Array Slot} {z : Int32} {rest : List Value}
    (hd : decode c.code pc = .ok (.ireturn, 1)) (hc : cells ≤ rm.cells) (hs : slots ≤ rm.slots) (hQ : Q (some (.int z)) T.heap locs) : GoOn p e below (EndQ s rm Q) (T.setTop (mkF m pc Ls (.int z :: rest))) := by
  obtain ⟨fs, hr, hrun, hended, hW, hsame⟩ := X.leave (v := some (.int z)) (fun h => by rw [hrt] at h; cases h) hlk
  exact ⟨_, _, Jvm.RoadKit.retOut X hx hrt rfl (Or.inl ⟨rfl, Or.inl rfl, _, rfl⟩) hd hr, hrun, hended, _, _, rfl, hQ, ⟨_, rfl⟩, hW, hsame.mono hc hs⟩
theorem GoOn.retN (X : Stand p l e R s m args below meth c T locs cells slots) (hx : p.tables.exec = Jvm.exec) {t : FieldType} (hrt : meth.sig.returnType = some t) (hlk : meth.locks = false) {rm : Room} {Q : Option Value → Heap → List Loc → Prop} {pc : Nat} {Ls : Array Slot} {z : Int32} {rest : List Value} (ht : t = .boolean ∨ t = .byte ∨ t = .char ∨ t = .short)
    (hd : decode c.code pc = .ok (.ireturn, 1)) (hc : cells ≤ rm.cells) (hs : slots ≤ rm.slots) (hQ : Q (some (.int (nar t z))) T.heap locs) : GoOn p e below (EndQ s rm Q) (T.setTop (mkF m pc Ls (.int z :: rest))) := by
  obtain ⟨fs, hr, hrun, hended, hW, hsame⟩ := X.leave (v := some (.int (nar t z))) (fun h => by rw [hrt] at h; cases h) hlk
  exact ⟨_, _, Jvm.RoadKit.retN X hx hrt ht hd hr, hrun, hended, _, _, rfl, hQ, ⟨_, rfl⟩, hW, hsame.mono hc hs⟩
theorem GoOn.retJ (X : Stand p l e R s m args below meth c T locs cells slots) (hx : p.tables.exec = Jvm.exec) (hrt : meth.sig.returnType = some .long) (hlk : meth.locks = false) {rm : Room} {Q : Option Value → Heap → List Loc → Prop} {pc : Nat} {Ls : Array Slot} {z : Int64} {rest : List Value}
    (hd : decode c.code pc = .ok (.lreturn, 1)) (hc : cells ≤ rm.cells) (hs : slots ≤ rm.slots) (hQ : Q (some (.long z)) T.heap locs) : GoOn p e below (EndQ s rm Q) (T.setTop (mkF m pc Ls (.long z :: rest))) := by
  obtain ⟨fs, hr, hrun, hended, hW, hsame⟩ := X.leave (v := some (.long z)) (fun h => by rw [hrt] at h; cases h) hlk
  exact ⟨_, _, Jvm.RoadKit.retOut X hx hrt rfl (Or.inr (Or.inl ⟨rfl, rfl, _, rfl⟩)) hd hr, hrun, hended, _, _, rfl, hQ, ⟨_, rfl⟩, hW, hsame.mono hc hs⟩
theorem GoOn.retR (X : Stand p l e R s m args below meth c T locs cells slots) (hx : p.tables.exec = Jvm.exec) {t : FieldType} (hrt : meth.sig.returnType = some t) (htr : t.isReference = true) (hlk : meth.locks = false) {rm : Room} {Q : Option Value → Heap → List Loc → Prop} {pc : Nat} {Ls : Array Slot} {z : Value} (hz : z.isRef = true) {rest : List Value}
    (hd : decode c.code pc = .ok (.areturn, 1)) (hc : cells ≤ rm.cells) (hs : slots ≤ rm.slots) (hQ : Q (some z) T.heap locs) : GoOn p e below (EndQ s rm Q) (T.setTop (mkF m pc Ls (z :: rest))) := by
  obtain ⟨fs, hr, hrun, hended, hW, hsame⟩ := X.leave (v := some z) (fun h => by rw [hrt] at h; cases h) hlk
  refine ⟨_, _, Jvm.RoadKit.retOut X hx hrt ?_ (Or.inr (Or.inr (Or.inr (Or.inr ⟨rfl, htr, hz⟩)))) hd hr, hrun, hended, _, _, rfl, hQ, ⟨_, rfl⟩, hW, hsame.mono hc hs⟩
  cases z <;> first | (cases t <;> rfl) | (simp [Value.isRef] at hz)
theorem GoOn.ret0 (X : Stand p l e R s m args below meth c T locs cells slots) (hx : p.tables.exec = Jvm.exec) (hrt : meth.sig.returnType = none) (hlk : meth.locks = false) {rm : Room} {Q : Option Value → Heap → List Loc → Prop} {pc : Nat} {Ls : Array Slot}
    (hd : decode c.code pc = .ok (.return_, 1)) (hc : cells ≤ rm.cells) (hs : slots ≤ rm.slots) (hQ : Q none T.heap locs) : GoOn p e below (EndQ s rm Q) (T.setTop (mkF m pc Ls [])) := by
  obtain ⟨fs, hr, hrun, hended, hW, hsame⟩ := X.leave (v := none) (fun _ => rfl) hlk
  exact ⟨_, _, X.returnOut hx hrt hd hr, hrun, hended, _, _, rfl, hQ, ⟨_, rfl⟩, hW, hsame.mono hc hs⟩
/-- a static call by its contract -/
theorem kCallS (X : Stand p l e R s m args below meth c T locs cells slots) (hx : p.tables.exec = Jvm.exec) (hZ : Z.Warmed39 s.vm) {own : String} {index : Nat} {y : MethodName} {bytes : ByteArray} {mx : Nat} {rt : Option FieldType} {rm : Room} {Q : Option Value → Heap → List Loc → Prop} {argsL rest : List Value}
    (K : Con l Z y bytes mx rt rm argsL.toArray h Q) (hown : s.vm.findClass own = some m.cls) (w1 : (Jvm.Cond.methodLink own index y).before a0 Z = true) (w2 : (Jvm.Cond.static y).before a0 Z = true) (w3 : (Jvm.Cond.initialized y.cls).before a0 Z = true) (w4 : (Jvm.Cond.code y bytes mx rt).before a0 Z = true)
    (hy : y.cls ≠ "java/lang/invoke/MethodHandle" ∧ y.cls ≠ "java/lang/invoke/VarHandle") (eT : T.heap = h) {g : JFrame} (hg : g.method = m) (hsize : g.locals.size = c.maxLocals) (hlen : ∀ sig, parseMethodDescriptor y.desc = some sig → argsL.length = sig.parameters.length) (hstack : g.stack = argsL.reverse ++ rest)
    {W : Nat} (hW : 2 * g.monitorRoom + (rest.map fun v => v.category).sum ≤ W) (hd : decode c.code g.pc = .ok (.invokestatic index, 3)) (hf : rm.frames + 1 ≤ R.frames) (hl : W + (mx + 11) + rm.locals ≤ R.locals) (hc : cells + rm.cells ≤ R.cells) (hs : slots + rm.slots ≤ R.slots) :
    ∃ v T' L, Stand p l e R s m args below meth c T' (locs ++ L) (cells + rm.cells) (slots + rm.slots) ∧ Q v T'.heap L ∧ ∀ target, Steps p.tables e below (T'.setTop { g with pc := g.pc + 3, stack := v.toList ++ rest }) target → Steps p.tables e below (T.setTop g) target := by
  obtain ⟨v, _, ⟨T', L', k', n'⟩, -, X', ⟨L, hQ, l1, l2, l3⟩, st⟩ := Jvm.LawKit.callS X hx (y := y) hown (mvT hZ w1) (mvT hZ w2) (mvT hZ w3) (mvT hZ w4) hy (backOf (W := W) (K []) hZ w4 w3 hf hl) hg hsize hlen hstack hW hd (fun _ _ => ⟨rfl, eT, hc, hs⟩)
  dsimp only [Pt.U, Pt.locs, Pt.cells, Pt.slots] at X' l1 l2 l3 hQ st
  subst l1 l2 l3
  exact ⟨v, T', L, X', hQ, fun t k => st _ k⟩
/-- a constructor by its contract -/
theorem kCallI (X : Stand p l e R s m args below meth c T locs cells slots) (hx : p.tables.exec = Jvm.exec) (hZ : Z.Warmed39 s.vm) {own : String} {index : Nat} {y : MethodName} {bytes : ByteArray} {mx : Nat} {rm : Room} {Q : Option Value → Heap → List Loc → Prop} {a : Addr} {argsL rest : List Value}
    (K : Con l Z y bytes mx none rm (.ref a :: argsL).toArray h Q) (hy1 : y.name = "<init>") (hown : s.vm.findClass own = some m.cls) (w1 : (Jvm.Cond.methodLink own index y).before a0 Z = true) (w2 : (Jvm.Cond.instanceMethod y).before a0 Z = true) (w3 : (Jvm.Cond.initialized y.cls).before a0 Z = true) (w4 : (Jvm.Cond.code y bytes mx none).before a0 Z = true)
    (hy : y.cls ≠ "java/lang/invoke/MethodHandle" ∧ y.cls ≠ "java/lang/invoke/VarHandle") (eT : T.heap = h) {g : JFrame} (hg : g.method = m) (hsize : g.locals.size = c.maxLocals) (hlen : ∀ sig, parseMethodDescriptor y.desc = some sig → argsL.length = sig.parameters.length) (hstack : g.stack = argsL.reverse ++ .ref a :: rest)
    {W : Nat} (hW : 2 * g.monitorRoom + (rest.map fun v => v.category).sum ≤ W) (hd : decode c.code g.pc = .ok (.invokespecial index, 3)) (hf : rm.frames + 1 ≤ R.frames) (hl : W + (mx + 11) + rm.locals ≤ R.locals) (hc : cells + rm.cells ≤ R.cells) (hs : slots + rm.slots ≤ R.slots) :
    ∃ v T' L, Stand p l e R s m args below meth c T' (locs ++ L) (cells + rm.cells) (slots + rm.slots) ∧ Q v T'.heap L ∧ ∀ target, Steps p.tables e below (T'.setTop { g with pc := g.pc + 3, stack := v.toList ++ rest }) target → Steps p.tables e below (T.setTop g) target := by
  obtain ⟨v, _, ⟨T', L', k', n'⟩, -, X', ⟨L, hQ, l1, l2, l3⟩, st⟩ := X.specialBack hx (y := y) hy1 hown (mvT hZ w1) (mvT hZ w2) (mvT hZ w4) hy (backOf (W := W) (K []) hZ w4 w3 hf hl) hg hsize (Steps.refl _) (a := a) hlen hstack hW hd (fun _ _ => ⟨rfl, eT, hc, hs⟩)
  dsimp only [Pt.U, Pt.locs, Pt.cells, Pt.slots] at X' l1 l2 l3 hQ st
  subst l1 l2 l3
  exact ⟨v, T', L, X', hQ, fun t k => st.trans k⟩
/-- an instance method by its contract, on an object of that very class -/
theorem kCallV (X : Stand p l e R s m args below meth c T locs cells slots) (hx : p.tables.exec = Jvm.exec) (hZ : Z.Warmed39 s.vm) {own C : String} {index : Nat} {y z : MethodName} {bytes : ByteArray} {mx : Nat} {rt : Option FieldType} {rm : Room} {Q : Option Value → Heap → List Loc → Prop} {a : Addr} {argsL rest : List Value}
    (K : Con l Z z bytes mx rt rm (.ref a :: argsL).toArray h Q) (hown : s.vm.findClass own = some m.cls) (w1 : (Jvm.Cond.methodLink own index y).before a0 Z = true) (wd : (Jvm.Cond.declares y).before a0 Z = true) (hnf : NotFace s y) (ws : (Jvm.Cond.selects C y z).before a0 Z = true) (w2 : (Jvm.Cond.instanceMethod z).before a0 Z = true) (w3 : (Jvm.Cond.initialized z.cls).before a0 Z = true) (w4 : (Jvm.Cond.code z bytes mx rt).before a0 Z = true)
    (hy : y.cls ≠ "java/lang/invoke/MethodHandle" ∧ y.cls ≠ "java/lang/invoke/VarHandle") (eT : T.heap = h) (E : Exa Z h a C) {g : JFrame} (hg : g.method = m) (hsize : g.locals.size = c.maxLocals) (hlen : ∀ sig, parseMethodDescriptor y.desc = some sig → argsL.length = sig.parameters.length) (hstack : g.stack = argsL.reverse ++ .ref a :: rest)
    {W : Nat} (hW : 2 * g.monitorRoom + (rest.map fun v => v.category).sum ≤ W) (hd : decode c.code g.pc = .ok (.invokevirtual index, 3)) (hf : rm.frames + 1 ≤ R.frames) (hl : W + (mx + 11) + rm.locals ≤ R.locals) (hc : cells + rm.cells ≤ R.cells) (hs : slots + rm.slots ≤ R.slots) :
    ∃ v T' L, Stand p l e R s m args below meth c T' (locs ++ L) (cells + rm.cells) (slots + rm.slots) ∧ Q v T'.heap L ∧ ∀ target, Steps p.tables e below (T'.setTop { g with pc := g.pc + 3, stack := v.toList ++ rest }) target → Steps p.tables e below (T.setTop g) target := by
  obtain ⟨cB, kB, q1, q2, q3⟩ := isOf hZ eT E
  obtain ⟨v, _, ⟨T', L', k', n'⟩, -, X', ⟨L, hQ, l1, l2, l3⟩, st⟩ := X.virtualBack hx (y := y) (z := z) hown (mvT hZ w1) (mvT hZ wd) hnf (mvT hZ ws) (mvT hZ w2) hy (backOf (W := W) (K []) hZ w4 w3 hf hl) q1 q3 hg hsize (Steps.refl _) hlen hstack hW hd (fun _ _ => ⟨rfl, eT, hc, hs⟩)
  dsimp only [Pt.U, Pt.locs, Pt.cells, Pt.slots] at X' l1 l2 l3 hQ st
  subst l1 l2 l3
  exact ⟨v, T', L, X', hQ, fun t k => st.trans k⟩
/-- a private method by its contract ('invokevirtual'); y2: a method of the same class of which is known that its class is no interface -/
theorem kCallP (X : Stand p l e R s m args below meth c T locs cells slots) (hx : p.tables.exec = Jvm.exec) (hZ : Z.Warmed39 s.vm) {own C : String} {index : Nat} {y y2 : MethodName} {bytes : ByteArray} {mx : Nat} {rt : Option FieldType} {rm : Room} {Q : Option Value → Heap → List Loc → Prop} {a : Addr} {argsL rest : List Value}
    (K : Con l Z y bytes mx rt rm (.ref a :: argsL).toArray h Q) (hown : s.vm.findClass own = some m.cls) (w1 : (Jvm.Cond.methodLink own index y).before a0 Z = true) (w2 : (Jvm.Cond.instanceMethod y).before a0 Z = true) (wp : (Jvm.Cond.privateMethod y).before a0 Z = true) (w3 : (Jvm.Cond.initialized y.cls).before a0 Z = true) (w4 : (Jvm.Cond.code y bytes mx rt).before a0 Z = true)
    (hnf : NotFace s y2) (hcl : y2.cls = y.cls) (w5 : (Jvm.Cond.instanceMethod y2).before a0 Z = true)
    (hy : y.cls ≠ "java/lang/invoke/MethodHandle" ∧ y.cls ≠ "java/lang/invoke/VarHandle") (eT : T.heap = h) (E : Exa Z h a C) {g : JFrame} (hg : g.method = m) (hsize : g.locals.size = c.maxLocals) (hlen : ∀ sig, parseMethodDescriptor y.desc = some sig → argsL.length = sig.parameters.length) (hstack : g.stack = argsL.reverse ++ .ref a :: rest)
    {W : Nat} (hW : 2 * g.monitorRoom + (rest.map fun v => v.category).sum ≤ W) (hd : decode c.code g.pc = .ok (.invokevirtual index, 3)) (hf : rm.frames + 1 ≤ R.frames) (hl : W + (mx + 11) + rm.locals ≤ R.locals) (hc : cells + rm.cells ≤ R.cells) (hs : slots + rm.slots ≤ R.slots) :
    ∃ v T' L, Stand p l e R s m args below meth c T' (locs ++ L) (cells + rm.cells) (slots + rm.slots) ∧ Q v T'.heap L ∧ ∀ target, Steps p.tables e below (T'.setTop { g with pc := g.pc + 3, stack := v.toList ++ rest }) target → Steps p.tables e below (T.setTop g) target := by
  obtain ⟨cB, kB, q1, q2, cell, q3, q4, q5⟩ := isOf hZ eT E
  obtain ⟨mk, methM, hnamed, hmethM, hstM, habM⟩ := Cond.instanceMethod_spec (mvT (args := args) hZ w2)
  obtain ⟨methM', cM, hmethM', -, -, -, -, -, -, hsigM⟩ := Cond.code_spec hnamed (mvT (args := args) hZ w4)
  cases hmethM.symm.trans hmethM'
  obtain ⟨mk2, methM2, hnamed2, -⟩ := Cond.instanceMethod_spec (mvT (args := args) hZ w5)
  obtain ⟨kP, hkP, hkPi⟩ := hnf mk2 hnamed2
  have hcc : mk2.cls = mk.cls := by
    have u1 := findClass_of_methodNamed hnamed2
    rw [hcl] at u1
    exact Option.some.inj (u1.symm.trans (findClass_of_methodNamed hnamed))
  rw [hcc] at hkP
  have hpriv : s.PrivateAt y := Cond.privateMethod_at (mvP hZ wp (args := args))
  obtain ⟨vm₁, X₁, hstep₁⟩ := X.invokevirtual hx hown (mvT hZ w1) hnamed hmethM hstM hkP hkPi hy (a := a) (cell := cell) q3 (fun q z => by rw [z] at q5; cases q5) (selectMethod_private hmethM (hpriv mk methM hnamed hmethM)) hmethM habM hkP hkPi (g := g) hg (argsL := argsL) (rest := rest) (hlen _ hsigM) hstack hd
  obtain ⟨v, ⟨T', L', k', n'⟩, X', ⟨L, hQ, l1, l2, l3⟩, st⟩ := (backOf (W := W) (K []) hZ w4 w3 hf hl) m meth c ⟨T.setVm vm₁, locs, cells, slots⟩ { g with stack := rest } (.invokevirtual index) mk (.ref a :: argsL).toArray X₁ hg hsize hd hW (X₁.named hnamed) ⟨rfl, eT, hc, hs⟩
  dsimp only [Pt.U, Pt.locs, Pt.cells, Pt.slots] at X' l1 l2 l3 hQ st
  subst l1 l2 l3
  exact ⟨v, T', L, X', hQ, fun t k => (hstep₁ _ fun acts => by rw [doInvoke_state]; exact Steps.refl _).trans (st.trans k)⟩
/-- an array: its kind, its length, what each place holds -/
def Jar (Z : State) (h : Heap) (a : Addr) (ty : FieldType) (n : Nat) (f : Nat → Value) : Prop := ∃ cl : Cell, Arr Z h a cl ty ∧ cl.slots.size = n ∧ ∀ i, i < n → cl.slots[i]? = some (f i)
section JarS
variable {a b : Addr} {ty : FieldType} {n : Nat} {f g : Nat → Value} {v : Value} {sl : Nat} {ws : List Addr}
theorem Jar.lt (F : Jar Z h a ty n f) : a < h.size := by obtain ⟨cl, A, -⟩ := F; exact A.lt
theorem Jar.ext (F : Jar Z h a ty n f) (E : Ext h h') : Jar Z h' a ty n f := by obtain ⟨cl, A, r⟩ := F; exact ⟨cl, A.ext E, r⟩
theorem Jar.other (F : Jar Z h b ty n f) (W : Wr h h' a sl v) (q : b ≠ a) : Jar Z h' b ty n f := by obtain ⟨cl, A, r⟩ := F; exact ⟨cl, A.other W q, r⟩
theorem Jar.keep (F : Jar Z h a ty n f) (K : Keep h h' ws) (q : a ∉ ws) : Jar Z h' a ty n f := by obtain ⟨cl, A, r⟩ := F; exact ⟨cl, ⟨K.2.1 a cl A.1 q, A.2⟩, r⟩
theorem Jar.congr (F : Jar Z h a ty n f) (q : ∀ i, i < n → f i = g i) : Jar Z h a ty n g := by obtain ⟨cl, A, s1, s2⟩ := F; exact ⟨cl, A, s1, fun i hi => by rw [s2 i hi, q i hi]⟩
theorem Jar.new {k : ClassId} {z : Int32} (A : Arr Z h a (newA k ty z) ty) (hz : z.toNatClampNeg = n) : Jar Z h a ty n (fun _ => defaultValue ty) := ⟨_, A, (sz_new _ _ _).trans hz, fun i hi => by simp [newA, hz, hi]⟩
theorem Jar.set (F : Jar Z h a ty n f) (W : Wr h h' a sl v) : Jar Z h' a ty n (fun i => if i = sl then v else f i) := by
  obtain ⟨cl, A, s1, s2⟩ := F
  obtain ⟨c2, q1, -, q3, -⟩ := id W
  cases A.1.symm.trans q1
  refine ⟨_, Arr.same W A, by simp [Cell.setSlot, s1], fun i hi => ?_⟩
  by_cases q : i = sl
  · subst q; simp [Cell.setSlot, q3]
  · show (cl.slots.setIfInBounds sl v)[i]? = some (if i = sl then v else f i)
    rw [if_neg q, ← s2 i hi, Array.getElem?_setIfInBounds_ne (Ne.symm q)]
theorem Jar.ints (F : Jar Z h a ty n f) (H : ∀ i, ∃ x, f i = .int x) : ∃ g : Nat → Int32, Jar Z h a ty n (fun i => .int (g i)) := ⟨fun i => Classical.choose (H i), F.congr fun i _ => Classical.choose_spec (H i)⟩
theorem Jar.longs (F : Jar Z h a ty n f) (H : ∀ i, ∃ x, f i = .long x) : ∃ g : Nat → Int64, Jar Z h a ty n (fun i => .long (g i)) := ⟨fun i => Classical.choose (H i), F.congr fun i _ => Classical.choose_spec (H i)⟩
theorem inJ {cl : Cell} {j : Int32} (s1 : cl.slots.size = n) (hj : 0 ≤ j.toInt ∧ j.toInt < n) : ¬ (j < 0 ∨ cl.slots.size ≤ j.toNatClampNeg) := by
  rw [s1, Int32.lt_iff_toInt_lt]
  have e1 : (0 : Int32).toInt = 0 := rfl
  have e2 : j.toNatClampNeg = j.toInt.toNat := rfl
  omega
theorem natJ {j : Int32} (hj : 0 ≤ j.toInt ∧ j.toInt < n) : j.toNatClampNeg < n := by
  have e2 : j.toNatClampNeg = j.toInt.toNat := rfl
  omega
end JarS
theorem kLdI (X : Stand p l e R s m args below meth c T locs cells slots) (hx : p.tables.exec = Jvm.exec) (hZ : Z.Warmed39 s.vm) (eT : T.heap = h) {a : Addr} {n : Nat} {f : Nat → Value} (F : Jar Z h a .int n f) {j : Int32} {v : Value} (hj : 0 ≤ j.toInt ∧ j.toInt < n) (hv : f j.toNatClampNeg = v) {g : JFrame} (hg : g.method = m) {rest : List Value} (hs : g.stack = .int j :: .ref a :: rest) (hd : decode c.code g.pc = .ok (.iaload, 1)) :
    ∀ t, Steps p.tables e below (T.setTop { g with pc := g.pc + 1, stack := v :: rest }) t → Steps p.tables e below (T.setTop g) t := by
  obtain ⟨cl, A, s1, s2⟩ := F
  exact X.iaload hx (j := j) (v := v) (by rw [eT]; exact A.1) (State.isArrayOf_alike hZ.alike A.2.1) A.2.2 (inJ s1 hj) (by rw [s2 _ (natJ hj), hv]) hg hs hd
theorem kLdJ (X : Stand p l e R s m args below meth c T locs cells slots) (hx : p.tables.exec = Jvm.exec) (hZ : Z.Warmed39 s.vm) (eT : T.heap = h) {a : Addr} {n : Nat} {f : Nat → Value} (F : Jar Z h a .long n f) {j : Int32} {v : Value} (hj : 0 ≤ j.toInt ∧ j.toInt < n) (hv : f j.toNatClampNeg = v) {g : JFrame} (hg : g.method = m) {rest : List Value} (hs : g.stack = .int j :: .ref a :: rest) (hd : decode c.code g.pc = .ok (.laload, 1)) :
    ∀ t, Steps p.tables e below (T.setTop { g with pc := g.pc + 1, stack := v :: rest }) t → Steps p.tables e below (T.setTop g) t := by
  obtain ⟨cl, A, s1, s2⟩ := F
  exact X.laload hx (j := j) (v := v) (by rw [eT]; exact A.1) (State.isArrayOf_alike hZ.alike A.2.1) A.2.2 (inJ s1 hj) (by rw [s2 _ (natJ hj), hv]) hg hs hd
theorem kLdB (X : Stand p l e R s m args below meth c T locs cells slots) (hx : p.tables.exec = Jvm.exec) (hZ : Z.Warmed39 s.vm) (eT : T.heap = h) {a : Addr} {n : Nat} {f : Nat → Value} (F : Jar Z h a .byte n f) {j : Int32} {v : Value} (hj : 0 ≤ j.toInt ∧ j.toInt < n) (hv : f j.toNatClampNeg = v) {g : JFrame} (hg : g.method = m) {rest : List Value} (hs : g.stack = .int j :: .ref a :: rest) (hd : decode c.code g.pc = .ok (.baload, 1)) :
    ∀ t, Steps p.tables e below (T.setTop { g with pc := g.pc + 1, stack := v :: rest }) t → Steps p.tables e below (T.setTop g) t := by
  obtain ⟨cl, A, s1, s2⟩ := F
  exact X.baloadBytes hx (j := j) (v := v) (by rw [eT]; exact A.1) (State.isArrayOf_alike hZ.alike A.2.1) A.2.2 (inJ s1 hj) (by rw [s2 _ (natJ hj), hv]) hg hs hd
theorem kLdA (X : Stand p l e R s m args below meth c T locs cells slots) (hx : p.tables.exec = Jvm.exec) (hZ : Z.Warmed39 s.vm) (eT : T.heap = h) {a : Addr} {ty : FieldType} {n : Nat} {f : Nat → Value} (F : Jar Z h a ty n f) (hty : ty.isReference = true) {j : Int32} {v : Value} (hj : 0 ≤ j.toInt ∧ j.toInt < n) (hv : f j.toNatClampNeg = v) {g : JFrame} (hg : g.method = m) {rest : List Value} (hs : g.stack = .int j :: .ref a :: rest) (hd : decode c.code g.pc = .ok (.aaload, 1)) :
    ∀ t, Steps p.tables e below (T.setTop { g with pc := g.pc + 1, stack := v :: rest }) t → Steps p.tables e below (T.setTop g) t := by
  obtain ⟨cl, A, s1, s2⟩ := F
  exact X.aaload hx (j := j) (v := v) (by rw [eT]; exact A.1) (State.isArrayOf_alike hZ.alike A.2.1) hty A.2.2 (inJ s1 hj) (by rw [s2 _ (natJ hj), hv]) hg hs hd
theorem kLen (X : Stand p l e R s m args below meth c T locs cells slots) (hx : p.tables.exec = Jvm.exec) (hZ : Z.Warmed39 s.vm) (eT : T.heap = h) {a : Addr} {ty : FieldType} {n : Nat} {f : Nat → Value} (F : Jar Z h a ty n f) {z : Int32} (hz : n.toInt32 = z) {g : JFrame} (hg : g.method = m) {rest : List Value} (hs : g.stack = .ref a :: rest) (hd : decode c.code g.pc = .ok (.arraylength, 1)) :
    ∀ t, Steps p.tables e below (T.setTop { g with pc := g.pc + 1, stack := .int z :: rest }) t → Steps p.tables e below (T.setTop g) t := by
  obtain ⟨cl, A, s1, s2⟩ := F
  subst hz s1
  exact X.arraylength hx (by rw [eT]; exact A.1) (State.isArrayOf_alike hZ.alike A.2.1) hg hs hd
/-- a store: what the three kinds say alike -/
theorem kStI (X : Stand p l e R s m args below meth c T locs cells slots) (hx : p.tables.exec = Jvm.exec) (hZ : Z.Warmed39 s.vm) (eT : T.heap = h) {a : Addr} {n : Nat} {f : Nat → Value} (F : Jar Z h a .int n f) {j x : Int32} (hj : 0 ≤ j.toInt ∧ j.toInt < n) {g : JFrame} (hg : g.method = m) {rest : List Value} (hs : g.stack = .int x :: .int j :: .ref a :: rest) (hd : decode c.code g.pc = .ok (.iastore, 1)) :
    ∃ T' h', Stand p l e R s m args below meth c T' (locs ++ [⟨a, j.toNatClampNeg⟩]) cells slots ∧ T'.heap = h' ∧ Wr h h' a j.toNatClampNeg (.int x) ∧ ∀ target, Steps p.tables e below (T'.setTop { g with pc := g.pc + 1, stack := rest }) target → Steps p.tables e below (T.setTop g) target := by
  obtain ⟨cl, A, s1, s2⟩ := F
  exact stI X hx hZ eT A (inJ s1 hj) hg hs hd
theorem kStJ (X : Stand p l e R s m args below meth c T locs cells slots) (hx : p.tables.exec = Jvm.exec) (hZ : Z.Warmed39 s.vm) (eT : T.heap = h) {a : Addr} {n : Nat} {f : Nat → Value} (F : Jar Z h a .long n f) {j : Int32} {x : Int64} (hj : 0 ≤ j.toInt ∧ j.toInt < n) {g : JFrame} (hg : g.method = m) {rest : List Value} (hs : g.stack = .long x :: .int j :: .ref a :: rest) (hd : decode c.code g.pc = .ok (.lastore, 1)) :
    ∃ T' h', Stand p l e R s m args below meth c T' (locs ++ [⟨a, j.toNatClampNeg⟩]) cells slots ∧ T'.heap = h' ∧ Wr h h' a j.toNatClampNeg (.long x) ∧ ∀ target, Steps p.tables e below (T'.setTop { g with pc := g.pc + 1, stack := rest }) target → Steps p.tables e below (T.setTop g) target := by
  obtain ⟨cl, A, s1, s2⟩ := F
  exact stJ X hx hZ eT A (inJ s1 hj) hg hs hd
theorem kStB (X : Stand p l e R s m args below meth c T locs cells slots) (hx : p.tables.exec = Jvm.exec) (hZ : Z.Warmed39 s.vm) (eT : T.heap = h) {a : Addr} {n : Nat} {f : Nat → Value} (F : Jar Z h a .byte n f) {j x : Int32} (hj : 0 ≤ j.toInt ∧ j.toInt < n) {g : JFrame} (hg : g.method = m) {rest : List Value} (hs : g.stack = .int x :: .int j :: .ref a :: rest) (hd : decode c.code g.pc = .ok (.bastore, 1)) :
    ∃ T' h', Stand p l e R s m args below meth c T' (locs ++ [⟨a, j.toNatClampNeg⟩]) cells slots ∧ T'.heap = h' ∧ Wr h h' a j.toNatClampNeg (.int (x.toInt8.toInt32)) ∧ ∀ target, Steps p.tables e below (T'.setTop { g with pc := g.pc + 1, stack := rest }) target → Steps p.tables e below (T.setTop g) target := by
  obtain ⟨cl, A, s1, s2⟩ := F
  exact stB X hx hZ eT A (inJ s1 hj) hg hs hd
theorem kClone (X : Stand p l e R s m args below meth c T locs cells slots) (hx : p.tables.exec = Jvm.exec) (hZ : Z.Warmed39 s.vm) {own ad : String} {index : Nat} (hown : s.vm.findClass own = some m.cls)
    (w1 : (Jvm.Cond.methodLink own index ⟨ad, "clone", "()Ljava/lang/Object;"⟩).before a0 Z = true) (w2 : (Jvm.Cond.sameMethod ad "java/lang/Object" "clone" "()Ljava/lang/Object;").before a0 Z = true) (w3 : (Jvm.Cond.native ⟨"java/lang/Object", "clone", "()Ljava/lang/Object;"⟩).before a0 Z = true)
    (w4 : (Jvm.Cond.instanceMethod ⟨"java/lang/Object", "clone", "()Ljava/lang/Object;"⟩).before a0 Z = true) (w5 : (Jvm.Cond.selects ad ⟨ad, "clone", "()Ljava/lang/Object;"⟩ ⟨"java/lang/Object", "clone", "()Ljava/lang/Object;"⟩).before a0 Z = true) (w6 : (Jvm.Cond.castable ad "java/lang/Cloneable").before a0 Z = true)
    (eT : T.heap = h) {a : Addr} {ty : FieldType} {n : Nat} {f : Nat → Value} (F : Jar Z h a ty n f) (E : Exa Z h a ad) (hft : ∀ i, i < n → fits ty (f i) = true) {g : JFrame} (hg : g.method = m) (hsize : g.locals.size = c.maxLocals) {rest : List Value} (hs : g.stack = .ref a :: rest) (hd : decode c.code g.pc = .ok (.invokevirtual index, 3))
    (hf : 1 ≤ R.frames) {W cap : Nat} (hW : 2 * g.monitorRoom + (rest.map fun v => v.category).sum ≤ W) (hl : W + 14 ≤ R.locals) (hcap : n ≤ cap) (hc : cells + 1 ≤ R.cells) (hsl : slots + cap ≤ R.slots) :
    ∃ T' h', Stand p l e R s m args below meth c T' locs (cells + 1) (slots + cap) ∧ T'.heap = h' ∧ Ext h h' ∧ Jar Z h' h.size ty n f ∧ Exa Z h' h.size ad ∧
      ∀ target, Steps p.tables e below (T'.setTop { g with pc := g.pc + 3, stack := .ref h.size :: rest }) target → Steps p.tables e below (T.setTop g) target := by
  obtain ⟨cl, A, s1, s2⟩ := F
  have FC : FitC Z cl := fitC_of A fun i hi v hv => by rw [s2 i (s1 ▸ hi)] at hv; cases hv; exact hft i (s1 ▸ hi)
  obtain ⟨T', h', X', e', ex, A', E', st⟩ := cloneA X hx hZ hown w1 w2 w3 w4 w5 w6 eT A E FC hg hsize hs hd hf hW hl (by rw [s1]; exact hcap) hc hsl
  exact ⟨T', h', X', e', ex, ⟨cloneOf cl, A', s1, s2⟩, E', st⟩
theorem narO {C : String} (v : Value) : narrow (.object C) v = v := by cases v <;> rfl
theorem fitO {C : String} {v : Value} (h : v.isRef = true) : fits (.object C) v = true := by cases v <;> first | rfl | (simp [Value.isRef] at h)
/-- what a body that writes nothing and makes nothing leaves -/
def PQ (r : Option Value) (h0 : Heap) : Option Value → Heap → List Loc → Prop := fun v h L => v = r ∧ L = [] ∧ h = h0
/-- what the law leaves -/
def LQ (n0 : Nat) : Option Value → Heap → List Loc → Prop := fun v _ L => v = some (.int 1) ∧ Fr n0 L
end OwnKit
theorem pn_0 : plainName "com/example/austere_log/austerelog/log/DecimalDigitsPinLaw" = true := by first | (simp [plainName, overriddenIn]; done) | decide +kernel
theorem d3_0 : decode method_3_code 0 = .ok (.lload_n 0, 1) := by decide +kernel
theorem d3_1 : decode method_3_code 1 = .ok (.lload_n 2, 1) := by decide +kernel
theorem d3_2 : decode method_3_code 2 = .ok (.lcmp, 1) := by decide +kernel
theorem d3_3 : decode method_3_code 3 = .ok (.ifCond .lt 7, 3) := by decide +kernel
theorem d3_10 : decode method_3_code 10 = .ok (.iconst 0, 1) := by decide +kernel
theorem d3_11 : decode method_3_code 11 = .ok (.ireturn, 1) := by decide +kernel
theorem d3_6 : decode method_3_code 6 = .ok (.iconst 1, 1) := by decide +kernel
theorem d3_7 : decode method_3_code 7 = .ok (.goto 4, 3) := by decide +kernel
theorem d2_0 : decode method_4_code 0 = .ok (.iconst 1, 1) := by decide +kernel
theorem d2_1 : decode method_4_code 1 = .ok (.lload_n 0, 1) := by decide +kernel
theorem d2_2 : decode method_4_code 2 = .ok (.aload_n 2, 1) := by decide +kernel
theorem d2_3 : decode method_4_code 3 = .ok (.iconst 1, 1) := by decide +kernel
theorem d2_4 : decode method_4_code 4 = .ok (.laload, 1) := by decide +kernel
theorem pd_0 : parseMethodDescriptor "(JJ)I" = some ⟨[.long, .long], some .int⟩ := by decide +kernel
theorem d2_5 : decode method_4_code 5 = .ok (.invokestatic 60, 3) := by decide +kernel
theorem d2_8 : decode method_4_code 8 = .ok (.iadd, 1) := by decide +kernel
theorem d2_9 : decode method_4_code 9 = .ok (.lload_n 0, 1) := by decide +kernel
theorem d2_10 : decode method_4_code 10 = .ok (.aload_n 2, 1) := by decide +kernel
theorem d2_11 : decode method_4_code 11 = .ok (.iconst 2, 1) := by decide +kernel
theorem d2_12 : decode method_4_code 12 = .ok (.laload, 1) := by decide +kernel
theorem d2_13 : decode method_4_code 13 = .ok (.invokestatic 60, 3) := by decide +kernel
theorem d2_16 : decode method_4_code 16 = .ok (.iadd, 1) := by decide +kernel
theorem d2_17 : decode method_4_code 17 = .ok (.lload_n 0, 1) := by decide +kernel
theorem d2_18 : decode method_4_code 18 = .ok (.aload_n 2, 1) := by decide +kernel
theorem d2_19 : decode method_4_code 19 = .ok (.iconst 3, 1) := by decide +kernel
theorem d2_20 : decode method_4_code 20 = .ok (.laload, 1) := by decide +kernel
theorem d2_21 : decode method_4_code 21 = .ok (.invokestatic 60, 3) := by decide +kernel
theorem d2_24 : decode method_4_code 24 = .ok (.iadd, 1) := by decide +kernel
theorem d2_25 : decode method_4_code 25 = .ok (.lload_n 0, 1) := by decide +kernel
theorem d2_26 : decode method_4_code 26 = .ok (.aload_n 2, 1) := by decide +kernel
theorem d2_27 : decode method_4_code 27 = .ok (.iconst 4, 1) := by decide +kernel
theorem d2_28 : decode method_4_code 28 = .ok (.laload, 1) := by decide +kernel
theorem d2_29 : decode method_4_code 29 = .ok (.invokestatic 60, 3) := by decide +kernel
theorem d2_32 : decode method_4_code 32 = .ok (.iadd, 1) := by decide +kernel
theorem d2_33 : decode method_4_code 33 = .ok (.lload_n 0, 1) := by decide +kernel
theorem d2_34 : decode method_4_code 34 = .ok (.aload_n 2, 1) := by decide +kernel
theorem d2_35 : decode method_4_code 35 = .ok (.iconst 5, 1) := by decide +kernel
theorem d2_36 : decode method_4_code 36 = .ok (.laload, 1) := by decide +kernel
theorem d2_37 : decode method_4_code 37 = .ok (.invokestatic 60, 3) := by decide +kernel
theorem d2_40 : decode method_4_code 40 = .ok (.iadd, 1) := by decide +kernel
theorem d2_41 : decode method_4_code 41 = .ok (.lload_n 0, 1) := by decide +kernel
theorem d2_42 : decode method_4_code 42 = .ok (.aload_n 2, 1) := by decide +kernel
theorem d2_43 : decode method_4_code 43 = .ok (.bipush 6, 2) := by decide +kernel
theorem d2_45 : decode method_4_code 45 = .ok (.laload, 1) := by decide +kernel
theorem d2_46 : decode method_4_code 46 = .ok (.invokestatic 60, 3) := by decide +kernel
theorem d2_49 : decode method_4_code 49 = .ok (.iadd, 1) := by decide +kernel
theorem d2_50 : decode method_4_code 50 = .ok (.lload_n 0, 1) := by decide +kernel
theorem d2_51 : decode method_4_code 51 = .ok (.aload_n 2, 1) := by decide +kernel
theorem d2_52 : decode method_4_code 52 = .ok (.bipush 7, 2) := by decide +kernel
theorem d2_54 : decode method_4_code 54 = .ok (.laload, 1) := by decide +kernel
theorem d2_55 : decode method_4_code 55 = .ok (.invokestatic 60, 3) := by decide +kernel
theorem d2_58 : decode method_4_code 58 = .ok (.iadd, 1) := by decide +kernel
theorem d2_59 : decode method_4_code 59 = .ok (.lload_n 0, 1) := by decide +kernel
theorem d2_60 : decode method_4_code 60 = .ok (.aload_n 2, 1) := by decide +kernel
theorem d2_61 : decode method_4_code 61 = .ok (.bipush 8, 2) := by decide +kernel
theorem d2_63 : decode method_4_code 63 = .ok (.laload, 1) := by decide +kernel
theorem d2_64 : decode method_4_code 64 = .ok (.invokestatic 60, 3) := by decide +kernel
theorem d2_67 : decode method_4_code 67 = .ok (.iadd, 1) := by decide +kernel
theorem d2_68 : decode method_4_code 68 = .ok (.lload_n 0, 1) := by decide +kernel
theorem d2_69 : decode method_4_code 69 = .ok (.aload_n 2, 1) := by decide +kernel
theorem d2_70 : decode method_4_code 70 = .ok (.bipush 9, 2) := by decide +kernel
theorem d2_72 : decode method_4_code 72 = .ok (.laload, 1) := by decide +kernel
theorem d2_73 : decode method_4_code 73 = .ok (.invokestatic 60, 3) := by decide +kernel
theorem d2_76 : decode method_4_code 76 = .ok (.iadd, 1) := by decide +kernel
theorem d2_77 : decode method_4_code 77 = .ok (.lload_n 0, 1) := by decide +kernel
theorem d2_78 : decode method_4_code 78 = .ok (.aload_n 2, 1) := by decide +kernel
theorem d2_79 : decode method_4_code 79 = .ok (.bipush 10, 2) := by decide +kernel
theorem d2_81 : decode method_4_code 81 = .ok (.laload, 1) := by decide +kernel
theorem d2_82 : decode method_4_code 82 = .ok (.invokestatic 60, 3) := by decide +kernel
theorem d2_85 : decode method_4_code 85 = .ok (.iadd, 1) := by decide +kernel
theorem d2_86 : decode method_4_code 86 = .ok (.lload_n 0, 1) := by decide +kernel
theorem d2_87 : decode method_4_code 87 = .ok (.aload_n 2, 1) := by decide +kernel
theorem d2_88 : decode method_4_code 88 = .ok (.bipush 11, 2) := by decide +kernel
theorem d2_90 : decode method_4_code 90 = .ok (.laload, 1) := by decide +kernel
theorem d2_91 : decode method_4_code 91 = .ok (.invokestatic 60, 3) := by decide +kernel
theorem d2_94 : decode method_4_code 94 = .ok (.iadd, 1) := by decide +kernel
theorem d2_95 : decode method_4_code 95 = .ok (.lload_n 0, 1) := by decide +kernel
theorem d2_96 : decode method_4_code 96 = .ok (.aload_n 2, 1) := by decide +kernel
theorem d2_97 : decode method_4_code 97 = .ok (.bipush 12, 2) := by decide +kernel
theorem d2_99 : decode method_4_code 99 = .ok (.laload, 1) := by decide +kernel
theorem d2_100 : decode method_4_code 100 = .ok (.invokestatic 60, 3) := by decide +kernel
theorem d2_103 : decode method_4_code 103 = .ok (.iadd, 1) := by decide +kernel
theorem d2_104 : decode method_4_code 104 = .ok (.lload_n 0, 1) := by decide +kernel
theorem d2_105 : decode method_4_code 105 = .ok (.aload_n 2, 1) := by decide +kernel
theorem d2_106 : decode method_4_code 106 = .ok (.bipush 13, 2) := by decide +kernel
theorem d2_108 : decode method_4_code 108 = .ok (.laload, 1) := by decide +kernel
theorem d2_109 : decode method_4_code 109 = .ok (.invokestatic 60, 3) := by decide +kernel
theorem d2_112 : decode method_4_code 112 = .ok (.iadd, 1) := by decide +kernel
theorem d2_113 : decode method_4_code 113 = .ok (.lload_n 0, 1) := by decide +kernel
theorem d2_114 : decode method_4_code 114 = .ok (.aload_n 2, 1) := by decide +kernel
theorem d2_115 : decode method_4_code 115 = .ok (.bipush 14, 2) := by decide +kernel
theorem d2_117 : decode method_4_code 117 = .ok (.laload, 1) := by decide +kernel
theorem d2_118 : decode method_4_code 118 = .ok (.invokestatic 60, 3) := by decide +kernel
theorem d2_121 : decode method_4_code 121 = .ok (.iadd, 1) := by decide +kernel
theorem d2_122 : decode method_4_code 122 = .ok (.lload_n 0, 1) := by decide +kernel
theorem d2_123 : decode method_4_code 123 = .ok (.aload_n 2, 1) := by decide +kernel
theorem d2_124 : decode method_4_code 124 = .ok (.bipush 15, 2) := by decide +kernel
theorem d2_126 : decode method_4_code 126 = .ok (.laload, 1) := by decide +kernel
theorem d2_127 : decode method_4_code 127 = .ok (.invokestatic 60, 3) := by decide +kernel
theorem d2_130 : decode method_4_code 130 = .ok (.iadd, 1) := by decide +kernel
theorem d2_131 : decode method_4_code 131 = .ok (.lload_n 0, 1) := by decide +kernel
theorem d2_132 : decode method_4_code 132 = .ok (.aload_n 2, 1) := by decide +kernel
theorem d2_133 : decode method_4_code 133 = .ok (.bipush 16, 2) := by decide +kernel
theorem d2_135 : decode method_4_code 135 = .ok (.laload, 1) := by decide +kernel
theorem d2_136 : decode method_4_code 136 = .ok (.invokestatic 60, 3) := by decide +kernel
theorem d2_139 : decode method_4_code 139 = .ok (.iadd, 1) := by decide +kernel
theorem d2_140 : decode method_4_code 140 = .ok (.lload_n 0, 1) := by decide +kernel
theorem d2_141 : decode method_4_code 141 = .ok (.aload_n 2, 1) := by decide +kernel
theorem d2_142 : decode method_4_code 142 = .ok (.bipush 17, 2) := by decide +kernel
theorem d2_144 : decode method_4_code 144 = .ok (.laload, 1) := by decide +kernel
theorem d2_145 : decode method_4_code 145 = .ok (.invokestatic 60, 3) := by decide +kernel
theorem d2_148 : decode method_4_code 148 = .ok (.iadd, 1) := by decide +kernel
theorem d2_149 : decode method_4_code 149 = .ok (.lload_n 0, 1) := by decide +kernel
theorem d2_150 : decode method_4_code 150 = .ok (.aload_n 2, 1) := by decide +kernel
theorem d2_151 : decode method_4_code 151 = .ok (.bipush 18, 2) := by decide +kernel
theorem d2_153 : decode method_4_code 153 = .ok (.laload, 1) := by decide +kernel
theorem d2_154 : decode method_4_code 154 = .ok (.invokestatic 60, 3) := by decide +kernel
theorem d2_157 : decode method_4_code 157 = .ok (.iadd, 1) := by decide +kernel
theorem d2_158 : decode method_4_code 158 = .ok (.ireturn, 1) := by decide +kernel
theorem pn_1 : plainName "com/example/austere_log/austerelog/log/Decimal" = true := by first | (simp [plainName, overriddenIn]; done) | decide +kernel
theorem d1_0 : decode prog_20_method_2_code 0 = .ok (.iconst 1, 1) := by decide +kernel
theorem d1_1 : decode prog_20_method_2_code 1 = .ok (.istore_n 2, 1) := by decide +kernel
theorem d1_2 : decode prog_20_method_2_code 2 = .ok (.lload_n 0, 1) := by decide +kernel
theorem d1_3 : decode prog_20_method_2_code 3 = .ok (.ldc2_w 7, 3) := by decide +kernel
theorem d1_6 : decode prog_20_method_2_code 6 = .ok (.ldiv, 1) := by decide +kernel
theorem d1_7 : decode prog_20_method_2_code 7 = .ok (.lstore_n 3, 1) := by decide +kernel
theorem d1_8 : decode prog_20_method_2_code 8 = .ok (.lload_n 3, 1) := by decide +kernel
theorem d1_9 : decode prog_20_method_2_code 9 = .ok (.lconst 0, 1) := by decide +kernel
theorem d1_10 : decode prog_20_method_2_code 10 = .ok (.lcmp, 1) := by decide +kernel
theorem d1_11 : decode prog_20_method_2_code 11 = .ok (.ifCond .le 15, 3) := by decide +kernel
theorem d1_14 : decode prog_20_method_2_code 14 = .ok (.iinc 2 1, 3) := by decide +kernel
theorem d1_17 : decode prog_20_method_2_code 17 = .ok (.lload_n 3, 1) := by decide +kernel
theorem d1_18 : decode prog_20_method_2_code 18 = .ok (.ldc2_w 7, 3) := by decide +kernel
theorem d1_21 : decode prog_20_method_2_code 21 = .ok (.ldiv, 1) := by decide +kernel
theorem d1_22 : decode prog_20_method_2_code 22 = .ok (.lstore_n 3, 1) := by decide +kernel
theorem d1_23 : decode prog_20_method_2_code 23 = .ok (.goto (-15), 3) := by decide +kernel
theorem d1_26 : decode prog_20_method_2_code 26 = .ok (.iload_n 2, 1) := by decide +kernel
theorem d1_27 : decode prog_20_method_2_code 27 = .ok (.ireturn, 1) := by decide +kernel
theorem pd_1 : parseMethodDescriptor "(J)I" = some ⟨[.long], some .int⟩ := by decide +kernel
theorem pd_2 : parseMethodDescriptor "(J[J)I" = some ⟨[.long, (.array .long)], some .int⟩ := by decide +kernel
def dz (N : Nat) : Nat := if N = 0 then 0 else 1 + dz (N / 10)
termination_by N
decreasing_by omega
theorem dz0 : dz 0 = 0 := by rw [dz]; simp
theorem dzp {N : Nat} (h : 0 < N) : dz N = 1 + dz (N / 10) := by rw [dz, if_neg (by omega)]
def digV (n : Int64) : Int32 := 1 + Int32.ofNat (dz (n.toInt.toNat / 10))
def p10 (i : Nat) : Int64 := [(1 : Int64), (10 : Int64), (100 : Int64), (1000 : Int64), (10000 : Int64), (100000 : Int64), (1000000 : Int64), (10000000 : Int64), (100000000 : Int64), (1000000000 : Int64), (10000000000 : Int64), (100000000000 : Int64), (1000000000000 : Int64), (10000000000000 : Int64), (100000000000000 : Int64), (1000000000000000 : Int64), (10000000000000000 : Int64), (100000000000000000 : Int64), (1000000000000000000 : Int64)].getD i 0
def expV (n : Int64) : Int32 := (((((((((((((((((((1 : Int32) + (if n < (10 : Int64) then (0 : Int32) else 1)) + (if n < (100 : Int64) then (0 : Int32) else 1)) + (if n < (1000 : Int64) then (0 : Int32) else 1)) + (if n < (10000 : Int64) then (0 : Int32) else 1)) + (if n < (100000 : Int64) then (0 : Int32) else 1)) + (if n < (1000000 : Int64) then (0 : Int32) else 1)) + (if n < (10000000 : Int64) then (0 : Int32) else 1)) + (if n < (100000000 : Int64) then (0 : Int32) else 1)) + (if n < (1000000000 : Int64) then (0 : Int32) else 1)) + (if n < (10000000000 : Int64) then (0 : Int32) else 1)) + (if n < (100000000000 : Int64) then (0 : Int32) else 1)) + (if n < (1000000000000 : Int64) then (0 : Int32) else 1)) + (if n < (10000000000000 : Int64) then (0 : Int32) else 1)) + (if n < (100000000000000 : Int64) then (0 : Int32) else 1)) + (if n < (1000000000000000 : Int64) then (0 : Int32) else 1)) + (if n < (10000000000000000 : Int64) then (0 : Int32) else 1)) + (if n < (100000000000000000 : Int64) then (0 : Int32) else 1)) + (if n < (1000000000000000000 : Int64) then (0 : Int32) else 1))
set_option maxHeartbeats 4000000 in
theorem pl_dig (n : Int64) (hn : 0 ≤ n.toInt) : digV n = expV n := by
  have hr := rng64 n
  obtain ⟨N, hN⟩ : ∃ N : Nat, n.toInt = N := ⟨n.toInt.toNat, by omega⟩
  have hN' : n.toInt.toNat = N := by omega
  have k1 : n < (10 : Int64) ↔ N < 10 := by rw [Int64.lt_iff_toInt_lt, hN, show (10 : Int64).toInt = 10 from by decide]; omega
  have k2 : n < (100 : Int64) ↔ N < 100 := by rw [Int64.lt_iff_toInt_lt, hN, show (100 : Int64).toInt = 100 from by decide]; omega
  have k3 : n < (1000 : Int64) ↔ N < 1000 := by rw [Int64.lt_iff_toInt_lt, hN, show (1000 : Int64).toInt = 1000 from by decide]; omega
  have k4 : n < (10000 : Int64) ↔ N < 10000 := by rw [Int64.lt_iff_toInt_lt, hN, show (10000 : Int64).toInt = 10000 from by decide]; omega
  have k5 : n < (100000 : Int64) ↔ N < 100000 := by rw [Int64.lt_iff_toInt_lt, hN, show (100000 : Int64).toInt = 100000 from by decide]; omega
  have k6 : n < (1000000 : Int64) ↔ N < 1000000 := by rw [Int64.lt_iff_toInt_lt, hN, show (1000000 : Int64).toInt = 1000000 from by decide]; omega
  have k7 : n < (10000000 : Int64) ↔ N < 10000000 := by rw [Int64.lt_iff_toInt_lt, hN, show (10000000 : Int64).toInt = 10000000 from by decide]; omega
  have k8 : n < (100000000 : Int64) ↔ N < 100000000 := by rw [Int64.lt_iff_toInt_lt, hN, show (100000000 : Int64).toInt = 100000000 from by decide]; omega
  have k9 : n < (1000000000 : Int64) ↔ N < 1000000000 := by rw [Int64.lt_iff_toInt_lt, hN, show (1000000000 : Int64).toInt = 1000000000 from by decide]; omega
  have k10 : n < (10000000000 : Int64) ↔ N < 10000000000 := by rw [Int64.lt_iff_toInt_lt, hN, show (10000000000 : Int64).toInt = 10000000000 from by decide]; omega
  have k11 : n < (100000000000 : Int64) ↔ N < 100000000000 := by rw [Int64.lt_iff_toInt_lt, hN, show (100000000000 : Int64).toInt = 100000000000 from by decide]; omega
  have k12 : n < (1000000000000 : Int64) ↔ N < 1000000000000 := by rw [Int64.lt_iff_toInt_lt, hN, show (1000000000000 : Int64).toInt = 1000000000000 from by decide]; omega
  have k13 : n < (10000000000000 : Int64) ↔ N < 10000000000000 := by rw [Int64.lt_iff_toInt_lt, hN, show (10000000000000 : Int64).toInt = 10000000000000 from by decide]; omega
  have k14 : n < (100000000000000 : Int64) ↔ N < 100000000000000 := by rw [Int64.lt_iff_toInt_lt, hN, show (100000000000000 : Int64).toInt = 100000000000000 from by decide]; omega
  have k15 : n < (1000000000000000 : Int64) ↔ N < 1000000000000000 := by rw [Int64.lt_iff_toInt_lt, hN, show (1000000000000000 : Int64).toInt = 1000000000000000 from by decide]; omega
  have k16 : n < (10000000000000000 : Int64) ↔ N < 10000000000000000 := by rw [Int64.lt_iff_toInt_lt, hN, show (10000000000000000 : Int64).toInt = 10000000000000000 from by decide]; omega
  have k17 : n < (100000000000000000 : Int64) ↔ N < 100000000000000000 := by rw [Int64.lt_iff_toInt_lt, hN, show (100000000000000000 : Int64).toInt = 100000000000000000 from by decide]; omega
  have k18 : n < (1000000000000000000 : Int64) ↔ N < 1000000000000000000 := by rw [Int64.lt_iff_toInt_lt, hN, show (1000000000000000000 : Int64).toInt = 1000000000000000000 from by decide]; omega
  rw [digV, expV, hN']
  simp only [k1, k2, k3, k4, k5, k6, k7, k8, k9, k10, k11, k12, k13, k14, k15, k16, k17, k18]
  by_cases r1 : N < 10
  · have d : dz (N / 10) = 0 := by
      have e : N / 10 = 0 := by omega
      rw [e, dz0]
    rw [d]
    simp only [if_pos (show N < 10 by omega), if_pos (show N < 100 by omega), if_pos (show N < 1000 by omega), if_pos (show N < 10000 by omega), if_pos (show N < 100000 by omega), if_pos (show N < 1000000 by omega), if_pos (show N < 10000000 by omega), if_pos (show N < 100000000 by omega), if_pos (show N < 1000000000 by omega), if_pos (show N < 10000000000 by omega), if_pos (show N < 100000000000 by omega), if_pos (show N < 1000000000000 by omega), if_pos (show N < 10000000000000 by omega), if_pos (show N < 100000000000000 by omega), if_pos (show N < 1000000000000000 by omega), if_pos (show N < 10000000000000000 by omega), if_pos (show N < 100000000000000000 by omega), if_pos (show N < 1000000000000000000 by omega)]
    decide
  -- at least 10
  by_cases r2 : N < 100
  · have d : dz (N / 10) = 1 := by
      have s1 : dz (N / 10) = 1 + dz (N / 100) := by rw [dzp (by omega), Nat.div_div_eq_div_mul]
      have e : N / 100 = 0 := by omega
      rw [s1, e, dz0]
    rw [d]
    simp only [if_neg (show ¬ N < 10 by omega), if_pos (show N < 100 by omega), if_pos (show N < 1000 by omega), if_pos (show N < 10000 by omega), if_pos (show N < 100000 by omega), if_pos (show N < 1000000 by omega), if_pos (show N < 10000000 by omega), if_pos (show N < 100000000 by omega), if_pos (show N < 1000000000 by omega), if_pos (show N < 10000000000 by omega), if_pos (show N < 100000000000 by omega), if_pos (show N < 1000000000000 by omega), if_pos (show N < 10000000000000 by omega), if_pos (show N < 100000000000000 by omega), if_pos (show N < 1000000000000000 by omega), if_pos (show N < 10000000000000000 by omega), if_pos (show N < 100000000000000000 by omega), if_pos (show N < 1000000000000000000 by omega)]
    decide
  -- at least 100
  by_cases r3 : N < 1000
  · have d : dz (N / 10) = 2 := by
      have s1 : dz (N / 10) = 1 + dz (N / 100) := by rw [dzp (by omega), Nat.div_div_eq_div_mul]
      have s2 : dz (N / 100) = 1 + dz (N / 1000) := by rw [dzp (by omega), Nat.div_div_eq_div_mul]
      have e : N / 1000 = 0 := by omega
      rw [s1, s2, e, dz0]
    rw [d]
    simp only [if_neg (show ¬ N < 10 by omega), if_neg (show ¬ N < 100 by omega), if_pos (show N < 1000 by omega), if_pos (show N < 10000 by omega), if_pos (show N < 100000 by omega), if_pos (show N < 1000000 by omega), if_pos (show N < 10000000 by omega), if_pos (show N < 100000000 by omega), if_pos (show N < 1000000000 by omega), if_pos (show N < 10000000000 by omega), if_pos (show N < 100000000000 by omega), if_pos (show N < 1000000000000 by omega), if_pos (show N < 10000000000000 by omega), if_pos (show N < 100000000000000 by omega), if_pos (show N < 1000000000000000 by omega), if_pos (show N < 10000000000000000 by omega), if_pos (show N < 100000000000000000 by omega), if_pos (show N < 1000000000000000000 by omega)]
    decide
  -- at least 1000
  by_cases r4 : N < 10000
  · have d : dz (N / 10) = 3 := by
      have s1 : dz (N / 10) = 1 + dz (N / 100) := by rw [dzp (by omega), Nat.div_div_eq_div_mul]
      have s2 : dz (N / 100) = 1 + dz (N / 1000) := by rw [dzp (by omega), Nat.div_div_eq_div_mul]
      have s3 : dz (N / 1000) = 1 + dz (N / 10000) := by rw [dzp (by omega), Nat.div_div_eq_div_mul]
      have e : N / 10000 = 0 := by omega
      rw [s1, s2, s3, e, dz0]
    rw [d]
    simp only [if_neg (show ¬ N < 10 by omega), if_neg (show ¬ N < 100 by omega), if_neg (show ¬ N < 1000 by omega), if_pos (show N < 10000 by omega), if_pos (show N < 100000 by omega), if_pos (show N < 1000000 by omega), if_pos (show N < 10000000 by omega), if_pos (show N < 100000000 by omega), if_pos (show N < 1000000000 by omega), if_pos (show N < 10000000000 by omega), if_pos (show N < 100000000000 by omega), if_pos (show N < 1000000000000 by omega), if_pos (show N < 10000000000000 by omega), if_pos (show N < 100000000000000 by omega), if_pos (show N < 1000000000000000 by omega), if_pos (show N < 10000000000000000 by omega), if_pos (show N < 100000000000000000 by omega), if_pos (show N < 1000000000000000000 by omega)]
    decide
  -- at least 10000
  by_cases r5 : N < 100000
  · have d : dz (N / 10) = 4 := by
      have s1 : dz (N / 10) = 1 + dz (N / 100) := by rw [dzp (by omega), Nat.div_div_eq_div_mul]
      have s2 : dz (N / 100) = 1 + dz (N / 1000) := by rw [dzp (by omega), Nat.div_div_eq_div_mul]
      have s3 : dz (N / 1000) = 1 + dz (N / 10000) := by rw [dzp (by omega), Nat.div_div_eq_div_mul]
      have s4 : dz (N / 10000) = 1 + dz (N / 100000) := by rw [dzp (by omega), Nat.div_div_eq_div_mul]
      have e : N / 100000 = 0 := by omega
      rw [s1, s2, s3, s4, e, dz0]
    rw [d]
    simp only [if_neg (show ¬ N < 10 by omega), if_neg (show ¬ N < 100 by omega), if_neg (show ¬ N < 1000 by omega), if_neg (show ¬ N < 10000 by omega), if_pos (show N < 100000 by omega), if_pos (show N < 1000000 by omega), if_pos (show N < 10000000 by omega), if_pos (show N < 100000000 by omega), if_pos (show N < 1000000000 by omega), if_pos (show N < 10000000000 by omega), if_pos (show N < 100000000000 by omega), if_pos (show N < 1000000000000 by omega), if_pos (show N < 10000000000000 by omega), if_pos (show N < 100000000000000 by omega), if_pos (show N < 1000000000000000 by omega), if_pos (show N < 10000000000000000 by omega), if_pos (show N < 100000000000000000 by omega), if_pos (show N < 1000000000000000000 by omega)]
    decide
  -- at least 100000
  by_cases r6 : N < 1000000
  · have d : dz (N / 10) = 5 := by
      have s1 : dz (N / 10) = 1 + dz (N / 100) := by rw [dzp (by omega), Nat.div_div_eq_div_mul]
      have s2 : dz (N / 100) = 1 + dz (N / 1000) := by rw [dzp (by omega), Nat.div_div_eq_div_mul]
      have s3 : dz (N / 1000) = 1 + dz (N / 10000) := by rw [dzp (by omega), Nat.div_div_eq_div_mul]
      have s4 : dz (N / 10000) = 1 + dz (N / 100000) := by rw [dzp (by omega), Nat.div_div_eq_div_mul]
      have s5 : dz (N / 100000) = 1 + dz (N / 1000000) := by rw [dzp (by omega), Nat.div_div_eq_div_mul]
      have e : N / 1000000 = 0 := by omega
      rw [s1, s2, s3, s4, s5, e, dz0]
    rw [d]
    simp only [if_neg (show ¬ N < 10 by omega), if_neg (show ¬ N < 100 by omega), if_neg (show ¬ N < 1000 by omega), if_neg (show ¬ N < 10000 by omega), if_neg (show ¬ N < 100000 by omega), if_pos (show N < 1000000 by omega), if_pos (show N < 10000000 by omega), if_pos (show N < 100000000 by omega), if_pos (show N < 1000000000 by omega), if_pos (show N < 10000000000 by omega), if_pos (show N < 100000000000 by omega), if_pos (show N < 1000000000000 by omega), if_pos (show N < 10000000000000 by omega), if_pos (show N < 100000000000000 by omega), if_pos (show N < 1000000000000000 by omega), if_pos (show N < 10000000000000000 by omega), if_pos (show N < 100000000000000000 by omega), if_pos (show N < 1000000000000000000 by omega)]
    decide
  -- at least 1000000
  by_cases r7 : N < 10000000
  · have d : dz (N / 10) = 6 := by
      have s1 : dz (N / 10) = 1 + dz (N / 100) := by rw [dzp (by omega), Nat.div_div_eq_div_mul]
      have s2 : dz (N / 100) = 1 + dz (N / 1000) := by rw [dzp (by omega), Nat.div_div_eq_div_mul]
      have s3 : dz (N / 1000) = 1 + dz (N / 10000) := by rw [dzp (by omega), Nat.div_div_eq_div_mul]
      have s4 : dz (N / 10000) = 1 + dz (N / 100000) := by rw [dzp (by omega), Nat.div_div_eq_div_mul]
      have s5 : dz (N / 100000) = 1 + dz (N / 1000000) := by rw [dzp (by omega), Nat.div_div_eq_div_mul]
      have s6 : dz (N / 1000000) = 1 + dz (N / 10000000) := by rw [dzp (by omega), Nat.div_div_eq_div_mul]
      have e : N / 10000000 = 0 := by omega
      rw [s1, s2, s3, s4, s5, s6, e, dz0]
    rw [d]
    simp only [if_neg (show ¬ N < 10 by omega), if_neg (show ¬ N < 100 by omega), if_neg (show ¬ N < 1000 by omega), if_neg (show ¬ N < 10000 by omega), if_neg (show ¬ N < 100000 by omega), if_neg (show ¬ N < 1000000 by omega), if_pos (show N < 10000000 by omega), if_pos (show N < 100000000 by omega), if_pos (show N < 1000000000 by omega), if_pos (show N < 10000000000 by omega), if_pos (show N < 100000000000 by omega), if_pos (show N < 1000000000000 by omega), if_pos (show N < 10000000000000 by omega), if_pos (show N < 100000000000000 by omega), if_pos (show N < 1000000000000000 by omega), if_pos (show N < 10000000000000000 by omega), if_pos (show N < 100000000000000000 by omega), if_pos (show N < 1000000000000000000 by omega)]
    decide
  -- at least 10000000
  by_cases r8 : N < 100000000
  · have d : dz (N / 10) = 7 := by
      have s1 : dz (N / 10) = 1 + dz (N / 100) := by rw [dzp (by omega), Nat.div_div_eq_div_mul]
      have s2 : dz (N / 100) = 1 + dz (N / 1000) := by rw [dzp (by omega), Nat.div_div_eq_div_mul]
      have s3 : dz (N / 1000) = 1 + dz (N / 10000) := by rw [dzp (by omega), Nat.div_div_eq_div_mul]
      have s4 : dz (N / 10000) = 1 + dz (N / 100000) := by rw [dzp (by omega), Nat.div_div_eq_div_mul]
      have s5 : dz (N / 100000) = 1 + dz (N / 1000000) := by rw [dzp (by omega), Nat.div_div_eq_div_mul]
      have s6 : dz (N / 1000000) = 1 + dz (N / 10000000) := by rw [dzp (by omega), Nat.div_div_eq_div_mul]
      have s7 : dz (N / 10000000) = 1 + dz (N / 100000000) := by rw [dzp (by omega), Nat.div_div_eq_div_mul]
      have e : N / 100000000 = 0 := by omega
      rw [s1, s2, s3, s4, s5, s6, s7, e, dz0]
    rw [d]
    simp only [if_neg (show ¬ N < 10 by omega), if_neg (show ¬ N < 100 by omega), if_neg (show ¬ N < 1000 by omega), if_neg (show ¬ N < 10000 by omega), if_neg (show ¬ N < 100000 by omega), if_neg (show ¬ N < 1000000 by omega), if_neg (show ¬ N < 10000000 by omega), if_pos (show N < 100000000 by omega), if_pos (show N < 1000000000 by omega), if_pos (show N < 10000000000 by omega), if_pos (show N < 100000000000 by omega), if_pos (show N < 1000000000000 by omega), if_pos (show N < 10000000000000 by omega), if_pos (show N < 100000000000000 by omega), if_pos (show N < 1000000000000000 by omega), if_pos (show N < 10000000000000000 by omega), if_pos (show N < 100000000000000000 by omega), if_pos (show N < 1000000000000000000 by omega)]
    decide
  -- at least 100000000
  by_cases r9 : N < 1000000000
  · have d : dz (N / 10) = 8 := by
      have s1 : dz (N / 10) = 1 + dz (N / 100) := by rw [dzp (by omega), Nat.div_div_eq_div_mul]
      have s2 : dz (N / 100) = 1 + dz (N / 1000) := by rw [dzp (by omega), Nat.div_div_eq_div_mul]
      have s3 : dz (N / 1000) = 1 + dz (N / 10000) := by rw [dzp (by omega), Nat.div_div_eq_div_mul]
      have s4 : dz (N / 10000) = 1 + dz (N / 100000) := by rw [dzp (by omega), Nat.div_div_eq_div_mul]
      have s5 : dz (N / 100000) = 1 + dz (N / 1000000) := by rw [dzp (by omega), Nat.div_div_eq_div_mul]
      have s6 : dz (N / 1000000) = 1 + dz (N / 10000000) := by rw [dzp (by omega), Nat.div_div_eq_div_mul]
      have s7 : dz (N / 10000000) = 1 + dz (N / 100000000) := by rw [dzp (by omega), Nat.div_div_eq_div_mul]
      have s8 : dz (N / 100000000) = 1 + dz (N / 1000000000) := by rw [dzp (by omega), Nat.div_div_eq_div_mul]
      have e : N / 1000000000 = 0 := by omega
      rw [s1, s2, s3, s4, s5, s6, s7, s8, e, dz0]
    rw [d]
    simp only [if_neg (show ¬ N < 10 by omega), if_neg (show ¬ N < 100 by omega), if_neg (show ¬ N < 1000 by omega), if_neg (show ¬ N < 10000 by omega), if_neg (show ¬ N < 100000 by omega), if_neg (show ¬ N < 1000000 by omega), if_neg (show ¬ N < 10000000 by omega), if_neg (show ¬ N < 100000000 by omega), if_pos (show N < 1000000000 by omega), if_pos (show N < 10000000000 by omega), if_pos (show N < 100000000000 by omega), if_pos (show N < 1000000000000 by omega), if_pos (show N < 10000000000000 by omega), if_pos (show N < 100000000000000 by omega), if_pos (show N < 1000000000000000 by omega), if_pos (show N < 10000000000000000 by omega), if_pos (show N < 100000000000000000 by omega), if_pos (show N < 1000000000000000000 by omega)]
    decide
  -- at least 1000000000
  by_cases r10 : N < 10000000000
  · have d : dz (N / 10) = 9 := by
      have s1 : dz (N / 10) = 1 + dz (N / 100) := by rw [dzp (by omega), Nat.div_div_eq_div_mul]
      have s2 : dz (N / 100) = 1 + dz (N / 1000) := by rw [dzp (by omega), Nat.div_div_eq_div_mul]
      have s3 : dz (N / 1000) = 1 + dz (N / 10000) := by rw [dzp (by omega), Nat.div_div_eq_div_mul]
      have s4 : dz (N / 10000) = 1 + dz (N / 100000) := by rw [dzp (by omega), Nat.div_div_eq_div_mul]
      have s5 : dz (N / 100000) = 1 + dz (N / 1000000) := by rw [dzp (by omega), Nat.div_div_eq_div_mul]
      have s6 : dz (N / 1000000) = 1 + dz (N / 10000000) := by rw [dzp (by omega), Nat.div_div_eq_div_mul]
      have s7 : dz (N / 10000000) = 1 + dz (N / 100000000) := by rw [dzp (by omega), Nat.div_div_eq_div_mul]
      have s8 : dz (N / 100000000) = 1 + dz (N / 1000000000) := by rw [dzp (by omega), Nat.div_div_eq_div_mul]
      have s9 : dz (N / 1000000000) = 1 + dz (N / 10000000000) := by rw [dzp (by omega), Nat.div_div_eq_div_mul]
      have e : N / 10000000000 = 0 := by omega
      rw [s1, s2, s3, s4, s5, s6, s7, s8, s9, e, dz0]
    rw [d]
    simp only [if_neg (show ¬ N < 10 by omega), if_neg (show ¬ N < 100 by omega), if_neg (show ¬ N < 1000 by omega), if_neg (show ¬ N < 10000 by omega), if_neg (show ¬ N < 100000 by omega), if_neg (show ¬ N < 1000000 by omega), if_neg (show ¬ N < 10000000 by omega), if_neg (show ¬ N < 100000000 by omega), if_neg (show ¬ N < 1000000000 by omega), if_pos (show N < 10000000000 by omega), if_pos (show N < 100000000000 by omega), if_pos (show N < 1000000000000 by omega), if_pos (show N < 10000000000000 by omega), if_pos (show N < 100000000000000 by omega), if_pos (show N < 1000000000000000 by omega), if_pos (show N < 10000000000000000 by omega), if_pos (show N < 100000000000000000 by omega), if_pos (show N < 1000000000000000000 by omega)]
    decide
  -- at least 10000000000
  by_cases r11 : N < 100000000000
  · have d : dz (N / 10) = 10 := by
      have s1 : dz (N / 10) = 1 + dz (N / 100) := by rw [dzp (by omega), Nat.div_div_eq_div_mul]
      have s2 : dz (N / 100) = 1 + dz (N / 1000) := by rw [dzp (by omega), Nat.div_div_eq_div_mul]
      have s3 : dz (N / 1000) = 1 + dz (N / 10000) := by rw [dzp (by omega), Nat.div_div_eq_div_mul]
      have s4 : dz (N / 10000) = 1 + dz (N / 100000) := by rw [dzp (by omega), Nat.div_div_eq_div_mul]
      have s5 : dz (N / 100000) = 1 + dz (N / 1000000) := by rw [dzp (by omega), Nat.div_div_eq_div_mul]
      have s6 : dz (N / 1000000) = 1 + dz (N / 10000000) := by rw [dzp (by omega), Nat.div_div_eq_div_mul]
      have s7 : dz (N / 10000000) = 1 + dz (N / 100000000) := by rw [dzp (by omega), Nat.div_div_eq_div_mul]
      have s8 : dz (N / 100000000) = 1 + dz (N / 1000000000) := by rw [dzp (by omega), Nat.div_div_eq_div_mul]
      have s9 : dz (N / 1000000000) = 1 + dz (N / 10000000000) := by rw [dzp (by omega), Nat.div_div_eq_div_mul]
      have s10 : dz (N / 10000000000) = 1 + dz (N / 100000000000) := by rw [dzp (by omega), Nat.div_div_eq_div_mul]
      have e : N / 100000000000 = 0 := by omega
      rw [s1, s2, s3, s4, s5, s6, s7, s8, s9, s10, e, dz0]
    rw [d]
    simp only [if_neg (show ¬ N < 10 by omega), if_neg (show ¬ N < 100 by omega), if_neg (show ¬ N < 1000 by omega), if_neg (show ¬ N < 10000 by omega), if_neg (show ¬ N < 100000 by omega), if_neg (show ¬ N < 1000000 by omega), if_neg (show ¬ N < 10000000 by omega), if_neg (show ¬ N < 100000000 by omega), if_neg (show ¬ N < 1000000000 by omega), if_neg (show ¬ N < 10000000000 by omega), if_pos (show N < 100000000000 by omega), if_pos (show N < 1000000000000 by omega), if_pos (show N < 10000000000000 by omega), if_pos (show N < 100000000000000 by omega), if_pos (show N < 1000000000000000 by omega), if_pos (show N < 10000000000000000 by omega), if_pos (show N < 100000000000000000 by omega), if_pos (show N < 1000000000000000000 by omega)]
    decide
  -- at least 100000000000
  by_cases r12 : N < 1000000000000
  · have d : dz (N / 10) = 11 := by
      have s1 : dz (N / 10) = 1 + dz (N / 100) := by rw [dzp (by omega), Nat.div_div_eq_div_mul]
      have s2 : dz (N / 100) = 1 + dz (N / 1000) := by rw [dzp (by omega), Nat.div_div_eq_div_mul]
      have s3 : dz (N / 1000) = 1 + dz (N / 10000) := by rw [dzp (by omega), Nat.div_div_eq_div_mul]
      have s4 : dz (N / 10000) = 1 + dz (N / 100000) := by rw [dzp (by omega), Nat.div_div_eq_div_mul]
      have s5 : dz (N / 100000) = 1 + dz (N / 1000000) := by rw [dzp (by omega), Nat.div_div_eq_div_mul]
      have s6 : dz (N / 1000000) = 1 + dz (N / 10000000) := by rw [dzp (by omega), Nat.div_div_eq_div_mul]
      have s7 : dz (N / 10000000) = 1 + dz (N / 100000000) := by rw [dzp (by omega), Nat.div_div_eq_div_mul]
      have s8 : dz (N / 100000000) = 1 + dz (N / 1000000000) := by rw [dzp (by omega), Nat.div_div_eq_div_mul]
      have s9 : dz (N / 1000000000) = 1 + dz (N / 10000000000) := by rw [dzp (by omega), Nat.div_div_eq_div_mul]
      have s10 : dz (N / 10000000000) = 1 + dz (N / 100000000000) := by rw [dzp (by omega), Nat.div_div_eq_div_mul]
      have s11 : dz (N / 100000000000) = 1 + dz (N / 1000000000000) := by rw [dzp (by omega), Nat.div_div_eq_div_mul]
      have e : N / 1000000000000 = 0 := by omega
      rw [s1, s2, s3, s4, s5, s6, s7, s8, s9, s10, s11, e, dz0]
    rw [d]
    simp only [if_neg (show ¬ N < 10 by omega), if_neg (show ¬ N < 100 by omega), if_neg (show ¬ N < 1000 by omega), if_neg (show ¬ N < 10000 by omega), if_neg (show ¬ N < 100000 by omega), if_neg (show ¬ N < 1000000 by omega), if_neg (show ¬ N < 10000000 by omega), if_neg (show ¬ N < 100000000 by omega), if_neg (show ¬ N < 1000000000 by omega), if_neg (show ¬ N < 10000000000 by omega), if_neg (show ¬ N < 100000000000 by omega), if_pos (show N < 1000000000000 by omega), if_pos (show N < 10000000000000 by omega), if_pos (show N < 100000000000000 by omega), if_pos (show N < 1000000000000000 by omega), if_pos (show N < 10000000000000000 by omega), if_pos (show N < 100000000000000000 by omega), if_pos (show N < 1000000000000000000 by omega)]
    decide
  -- at least 1000000000000
  by_cases r13 : N < 10000000000000
  · have d : dz (N / 10) = 12 := by
      have s1 : dz (N / 10) = 1 + dz (N / 100) := by rw [dzp (by omega), Nat.div_div_eq_div_mul]
      have s2 : dz (N / 100) = 1 + dz (N / 1000) := by rw [dzp (by omega), Nat.div_div_eq_div_mul]
      have s3 : dz (N / 1000) = 1 + dz (N / 10000) := by rw [dzp (by omega), Nat.div_div_eq_div_mul]
      have s4 : dz (N / 10000) = 1 + dz (N / 100000) := by rw [dzp (by omega), Nat.div_div_eq_div_mul]
      have s5 : dz (N / 100000) = 1 + dz (N / 1000000) := by rw [dzp (by omega), Nat.div_div_eq_div_mul]
      have s6 : dz (N / 1000000) = 1 + dz (N / 10000000) := by rw [dzp (by omega), Nat.div_div_eq_div_mul]
      have s7 : dz (N / 10000000) = 1 + dz (N / 100000000) := by rw [dzp (by omega), Nat.div_div_eq_div_mul]
      have s8 : dz (N / 100000000) = 1 + dz (N / 1000000000) := by rw [dzp (by omega), Nat.div_div_eq_div_mul]
      have s9 : dz (N / 1000000000) = 1 + dz (N / 10000000000) := by rw [dzp (by omega), Nat.div_div_eq_div_mul]
      have s10 : dz (N / 10000000000) = 1 + dz (N / 100000000000) := by rw [dzp (by omega), Nat.div_div_eq_div_mul]
      have s11 : dz (N / 100000000000) = 1 + dz (N / 1000000000000) := by rw [dzp (by omega), Nat.div_div_eq_div_mul]
      have s12 : dz (N / 1000000000000) = 1 + dz (N / 10000000000000) := by rw [dzp (by omega), Nat.div_div_eq_div_mul]
      have e : N / 10000000000000 = 0 := by omega
      rw [s1, s2, s3, s4, s5, s6, s7, s8, s9, s10, s11, s12, e, dz0]
    rw [d]
    simp only [if_neg (show ¬ N < 10 by omega), if_neg (show ¬ N < 100 by omega), if_neg (show ¬ N < 1000 by omega), if_neg (show ¬ N < 10000 by omega), if_neg (show ¬ N < 100000 by omega), if_neg (show ¬ N < 1000000 by omega), if_neg (show ¬ N < 10000000 by omega), if_neg (show ¬ N < 100000000 by omega), if_neg (show ¬ N < 1000000000 by omega), if_neg (show ¬ N < 10000000000 by omega), if_neg (show ¬ N < 100000000000 by omega), if_neg (show ¬ N < 1000000000000 by omega), if_pos (show N < 10000000000000 by omega), if_pos (show N < 100000000000000 by omega), if_pos (show N < 1000000000000000 by omega), if_pos (show N < 10000000000000000 by omega), if_pos (show N < 100000000000000000 by omega), if_pos (show N < 1000000000000000000 by omega)]
    decide
  -- at least 10000000000000
  by_cases r14 : N < 100000000000000
  · have d : dz (N / 10) = 13 := by
      have s1 : dz (N / 10) = 1 + dz (N / 100) := by rw [dzp (by omega), Nat.div_div_eq_div_mul]
      have s2 : dz (N / 100) = 1 + dz (N / 1000) := by rw [dzp (by omega), Nat.div_div_eq_div_mul]
      have s3 : dz (N / 1000) = 1 + dz (N / 10000) := by rw [dzp (by omega), Nat.div_div_eq_div_mul]
      have s4 : dz (N / 10000) = 1 + dz (N / 100000) := by rw [dzp (by omega), Nat.div_div_eq_div_mul]
      have s5 : dz (N / 100000) = 1 + dz (N / 1000000) := by rw [dzp (by omega), Nat.div_div_eq_div_mul]
      have s6 : dz (N / 1000000) = 1 + dz (N / 10000000) := by rw [dzp (by omega), Nat.div_div_eq_div_mul]
      have s7 : dz (N / 10000000) = 1 + dz (N / 100000000) := by rw [dzp (by omega), Nat.div_div_eq_div_mul]
      have s8 : dz (N / 100000000) = 1 + dz (N / 1000000000) := by rw [dzp (by omega), Nat.div_div_eq_div_mul]
      have s9 : dz (N / 1000000000) = 1 + dz (N / 10000000000) := by rw [dzp (by omega), Nat.div_div_eq_div_mul]
      have s10 : dz (N / 10000000000) = 1 + dz (N / 100000000000) := by rw [dzp (by omega), Nat.div_div_eq_div_mul]
      have s11 : dz (N / 100000000000) = 1 + dz (N / 1000000000000) := by rw [dzp (by omega), Nat.div_div_eq_div_mul]
      have s12 : dz (N / 1000000000000) = 1 + dz (N / 10000000000000) := by rw [dzp (by omega), Nat.div_div_eq_div_mul]
      have s13 : dz (N / 10000000000000) = 1 + dz (N / 100000000000000) := by rw [dzp (by omega), Nat.div_div_eq_div_mul]
      have e : N / 100000000000000 = 0 := by omega
      rw [s1, s2, s3, s4, s5, s6, s7, s8, s9, s10, s11, s12, s13, e, dz0]
    rw [d]
    simp only [if_neg (show ¬ N < 10 by omega), if_neg (show ¬ N < 100 by omega), if_neg (show ¬ N < 1000 by omega), if_neg (show ¬ N < 10000 by omega), if_neg (show ¬ N < 100000 by omega), if_neg (show ¬ N < 1000000 by omega), if_neg (show ¬ N < 10000000 by omega), if_neg (show ¬ N < 100000000 by omega), if_neg (show ¬ N < 1000000000 by omega), if_neg (show ¬ N < 10000000000 by omega), if_neg (show ¬ N < 100000000000 by omega), if_neg (show ¬ N < 1000000000000 by omega), if_neg (show ¬ N < 10000000000000 by omega), if_pos (show N < 100000000000000 by omega), if_pos (show N < 1000000000000000 by omega), if_pos (show N < 10000000000000000 by omega), if_pos (show N < 100000000000000000 by omega), if_pos (show N < 1000000000000000000 by omega)]
    decide
  -- at least 100000000000000
  by_cases r15 : N < 1000000000000000
  · have d : dz (N / 10) = 14 := by
      have s1 : dz (N / 10) = 1 + dz (N / 100) := by rw [dzp (by omega), Nat.div_div_eq_div_mul]
      have s2 : dz (N / 100) = 1 + dz (N / 1000) := by rw [dzp (by omega), Nat.div_div_eq_div_mul]
      have s3 : dz (N / 1000) = 1 + dz (N / 10000) := by rw [dzp (by omega), Nat.div_div_eq_div_mul]
      have s4 : dz (N / 10000) = 1 + dz (N / 100000) := by rw [dzp (by omega), Nat.div_div_eq_div_mul]
      have s5 : dz (N / 100000) = 1 + dz (N / 1000000) := by rw [dzp (by omega), Nat.div_div_eq_div_mul]
      have s6 : dz (N / 1000000) = 1 + dz (N / 10000000) := by rw [dzp (by omega), Nat.div_div_eq_div_mul]
      have s7 : dz (N / 10000000) = 1 + dz (N / 100000000) := by rw [dzp (by omega), Nat.div_div_eq_div_mul]
      have s8 : dz (N / 100000000) = 1 + dz (N / 1000000000) := by rw [dzp (by omega), Nat.div_div_eq_div_mul]
      have s9 : dz (N / 1000000000) = 1 + dz (N / 10000000000) := by rw [dzp (by omega), Nat.div_div_eq_div_mul]
      have s10 : dz (N / 10000000000) = 1 + dz (N / 100000000000) := by rw [dzp (by omega), Nat.div_div_eq_div_mul]
      have s11 : dz (N / 100000000000) = 1 + dz (N / 1000000000000) := by rw [dzp (by omega), Nat.div_div_eq_div_mul]
      have s12 : dz (N / 1000000000000) = 1 + dz (N / 10000000000000) := by rw [dzp (by omega), Nat.div_div_eq_div_mul]
      have s13 : dz (N / 10000000000000) = 1 + dz (N / 100000000000000) := by rw [dzp (by omega), Nat.div_div_eq_div_mul]
      have s14 : dz (N / 100000000000000) = 1 + dz (N / 1000000000000000) := by rw [dzp (by omega), Nat.div_div_eq_div_mul]
      have e : N / 1000000000000000 = 0 := by omega
      rw [s1, s2, s3, s4, s5, s6, s7, s8, s9, s10, s11, s12, s13, s14, e, dz0]
    rw [d]
    simp only [if_neg (show ¬ N < 10 by omega), if_neg (show ¬ N < 100 by omega), if_neg (show ¬ N < 1000 by omega), if_neg (show ¬ N < 10000 by omega), if_neg (show ¬ N < 100000 by omega), if_neg (show ¬ N < 1000000 by omega), if_neg (show ¬ N < 10000000 by omega), if_neg (show ¬ N < 100000000 by omega), if_neg (show ¬ N < 1000000000 by omega), if_neg (show ¬ N < 10000000000 by omega), if_neg (show ¬ N < 100000000000 by omega), if_neg (show ¬ N < 1000000000000 by omega), if_neg (show ¬ N < 10000000000000 by omega), if_neg (show ¬ N < 100000000000000 by omega), if_pos (show N < 1000000000000000 by omega), if_pos (show N < 10000000000000000 by omega), if_pos (show N < 100000000000000000 by omega), if_pos (show N < 1000000000000000000 by omega)]
    decide
  -- at least 1000000000000000
  by_cases r16 : N < 10000000000000000
  · have d : dz (N / 10) = 15 := by
      have s1 : dz (N / 10) = 1 + dz (N / 100) := by rw [dzp (by omega), Nat.div_div_eq_div_mul]
      have s2 : dz (N / 100) = 1 + dz (N / 1000) := by rw [dzp (by omega), Nat.div_div_eq_div_mul]
      have s3 : dz (N / 1000) = 1 + dz (N / 10000) := by rw [dzp (by omega), Nat.div_div_eq_div_mul]
      have s4 : dz (N / 10000) = 1 + dz (N / 100000) := by rw [dzp (by omega), Nat.div_div_eq_div_mul]
      have s5 : dz (N / 100000) = 1 + dz (N / 1000000) := by rw [dzp (by omega), Nat.div_div_eq_div_mul]
      have s6 : dz (N / 1000000) = 1 + dz (N / 10000000) := by rw [dzp (by omega), Nat.div_div_eq_div_mul]
      have s7 : dz (N / 10000000) = 1 + dz (N / 100000000) := by rw [dzp (by omega), Nat.div_div_eq_div_mul]
      have s8 : dz (N / 100000000) = 1 + dz (N / 1000000000) := by rw [dzp (by omega), Nat.div_div_eq_div_mul]
      have s9 : dz (N / 1000000000) = 1 + dz (N / 10000000000) := by rw [dzp (by omega), Nat.div_div_eq_div_mul]
      have s10 : dz (N / 10000000000) = 1 + dz (N / 100000000000) := by rw [dzp (by omega), Nat.div_div_eq_div_mul]
      have s11 : dz (N / 100000000000) = 1 + dz (N / 1000000000000) := by rw [dzp (by omega), Nat.div_div_eq_div_mul]
      have s12 : dz (N / 1000000000000) = 1 + dz (N / 10000000000000) := by rw [dzp (by omega), Nat.div_div_eq_div_mul]
      have s13 : dz (N / 10000000000000) = 1 + dz (N / 100000000000000) := by rw [dzp (by omega), Nat.div_div_eq_div_mul]
      have s14 : dz (N / 100000000000000) = 1 + dz (N / 1000000000000000) := by rw [dzp (by omega), Nat.div_div_eq_div_mul]
      have s15 : dz (N / 1000000000000000) = 1 + dz (N / 10000000000000000) := by rw [dzp (by omega), Nat.div_div_eq_div_mul]
      have e : N / 10000000000000000 = 0 := by omega
      rw [s1, s2, s3, s4, s5, s6, s7, s8, s9, s10, s11, s12, s13, s14, s15, e, dz0]
    rw [d]
    simp only [if_neg (show ¬ N < 10 by omega), if_neg (show ¬ N < 100 by omega), if_neg (show ¬ N < 1000 by omega), if_neg (show ¬ N < 10000 by omega), if_neg (show ¬ N < 100000 by omega), if_neg (show ¬ N < 1000000 by omega), if_neg (show ¬ N < 10000000 by omega), if_neg (show ¬ N < 100000000 by omega), if_neg (show ¬ N < 1000000000 by omega), if_neg (show ¬ N < 10000000000 by omega), if_neg (show ¬ N < 100000000000 by omega), if_neg (show ¬ N < 1000000000000 by omega), if_neg (show ¬ N < 10000000000000 by omega), if_neg (show ¬ N < 100000000000000 by omega), if_neg (show ¬ N < 1000000000000000 by omega), if_pos (show N < 10000000000000000 by omega), if_pos (show N < 100000000000000000 by omega), if_pos (show N < 1000000000000000000 by omega)]
    decide
  -- at least 10000000000000000
  by_cases r17 : N < 100000000000000000
  · have d : dz (N / 10) = 16 := by
      have s1 : dz (N / 10) = 1 + dz (N / 100) := by rw [dzp (by omega), Nat.div_div_eq_div_mul]
      have s2 : dz (N / 100) = 1 + dz (N / 1000) := by rw [dzp (by omega), Nat.div_div_eq_div_mul]
      have s3 : dz (N / 1000) = 1 + dz (N / 10000) := by rw [dzp (by omega), Nat.div_div_eq_div_mul]
      have s4 : dz (N / 10000) = 1 + dz (N / 100000) := by rw [dzp (by omega), Nat.div_div_eq_div_mul]
      have s5 : dz (N / 100000) = 1 + dz (N / 1000000) := by rw [dzp (by omega), Nat.div_div_eq_div_mul]
      have s6 : dz (N / 1000000) = 1 + dz (N / 10000000) := by rw [dzp (by omega), Nat.div_div_eq_div_mul]
      have s7 : dz (N / 10000000) = 1 + dz (N / 100000000) := by rw [dzp (by omega), Nat.div_div_eq_div_mul]
      have s8 : dz (N / 100000000) = 1 + dz (N / 1000000000) := by rw [dzp (by omega), Nat.div_div_eq_div_mul]
      have s9 : dz (N / 1000000000) = 1 + dz (N / 10000000000) := by rw [dzp (by omega), Nat.div_div_eq_div_mul]
      have s10 : dz (N / 10000000000) = 1 + dz (N / 100000000000) := by rw [dzp (by omega), Nat.div_div_eq_div_mul]
      have s11 : dz (N / 100000000000) = 1 + dz (N / 1000000000000) := by rw [dzp (by omega), Nat.div_div_eq_div_mul]
      have s12 : dz (N / 1000000000000) = 1 + dz (N / 10000000000000) := by rw [dzp (by omega), Nat.div_div_eq_div_mul]
      have s13 : dz (N / 10000000000000) = 1 + dz (N / 100000000000000) := by rw [dzp (by omega), Nat.div_div_eq_div_mul]
      have s14 : dz (N / 100000000000000) = 1 + dz (N / 1000000000000000) := by rw [dzp (by omega), Nat.div_div_eq_div_mul]
      have s15 : dz (N / 1000000000000000) = 1 + dz (N / 10000000000000000) := by rw [dzp (by omega), Nat.div_div_eq_div_mul]
      have s16 : dz (N / 10000000000000000) = 1 + dz (N / 100000000000000000) := by rw [dzp (by omega), Nat.div_div_eq_div_mul]
      have e : N / 100000000000000000 = 0 := by omega
      rw [s1, s2, s3, s4, s5, s6, s7, s8, s9, s10, s11, s12, s13, s14, s15, s16, e, dz0]
    rw [d]
    simp only [if_neg (show ¬ N < 10 by omega), if_neg (show ¬ N < 100 by omega), if_neg (show ¬ N < 1000 by omega), if_neg (show ¬ N < 10000 by omega), if_neg (show ¬ N < 100000 by omega), if_neg (show ¬ N < 1000000 by omega), if_neg (show ¬ N < 10000000 by omega), if_neg (show ¬ N < 100000000 by omega), if_neg (show ¬ N < 1000000000 by omega), if_neg (show ¬ N < 10000000000 by omega), if_neg (show ¬ N < 100000000000 by omega), if_neg (show ¬ N < 1000000000000 by omega), if_neg (show ¬ N < 10000000000000 by omega), if_neg (show ¬ N < 100000000000000 by omega), if_neg (show ¬ N < 1000000000000000 by omega), if_neg (show ¬ N < 10000000000000000 by omega), if_pos (show N < 100000000000000000 by omega), if_pos (show N < 1000000000000000000 by omega)]
    decide
  -- at least 100000000000000000
  by_cases r18 : N < 1000000000000000000
  · have d : dz (N / 10) = 17 := by
      have s1 : dz (N / 10) = 1 + dz (N / 100) := by rw [dzp (by omega), Nat.div_div_eq_div_mul]
      have s2 : dz (N / 100) = 1 + dz (N / 1000) := by rw [dzp (by omega), Nat.div_div_eq_div_mul]
      have s3 : dz (N / 1000) = 1 + dz (N / 10000) := by rw [dzp (by omega), Nat.div_div_eq_div_mul]
      have s4 : dz (N / 10000) = 1 + dz (N / 100000) := by rw [dzp (by omega), Nat.div_div_eq_div_mul]
      have s5 : dz (N / 100000) = 1 + dz (N / 1000000) := by rw [dzp (by omega), Nat.div_div_eq_div_mul]
      have s6 : dz (N / 1000000) = 1 + dz (N / 10000000) := by rw [dzp (by omega), Nat.div_div_eq_div_mul]
      have s7 : dz (N / 10000000) = 1 + dz (N / 100000000) := by rw [dzp (by omega), Nat.div_div_eq_div_mul]
      have s8 : dz (N / 100000000) = 1 + dz (N / 1000000000) := by rw [dzp (by omega), Nat.div_div_eq_div_mul]
      have s9 : dz (N / 1000000000) = 1 + dz (N / 10000000000) := by rw [dzp (by omega), Nat.div_div_eq_div_mul]
      have s10 : dz (N / 10000000000) = 1 + dz (N / 100000000000) := by rw [dzp (by omega), Nat.div_div_eq_div_mul]
      have s11 : dz (N / 100000000000) = 1 + dz (N / 1000000000000) := by rw [dzp (by omega), Nat.div_div_eq_div_mul]
      have s12 : dz (N / 1000000000000) = 1 + dz (N / 10000000000000) := by rw [dzp (by omega), Nat.div_div_eq_div_mul]
      have s13 : dz (N / 10000000000000) = 1 + dz (N / 100000000000000) := by rw [dzp (by omega), Nat.div_div_eq_div_mul]
      have s14 : dz (N / 100000000000000) = 1 + dz (N / 1000000000000000) := by rw [dzp (by omega), Nat.div_div_eq_div_mul]
      have s15 : dz (N / 1000000000000000) = 1 + dz (N / 10000000000000000) := by rw [dzp (by omega), Nat.div_div_eq_div_mul]
      have s16 : dz (N / 10000000000000000) = 1 + dz (N / 100000000000000000) := by rw [dzp (by omega), Nat.div_div_eq_div_mul]
      have s17 : dz (N / 100000000000000000) = 1 + dz (N / 1000000000000000000) := by rw [dzp (by omega), Nat.div_div_eq_div_mul]
      have e : N / 1000000000000000000 = 0 := by omega
      rw [s1, s2, s3, s4, s5, s6, s7, s8, s9, s10, s11, s12, s13, s14, s15, s16, s17, e, dz0]
    rw [d]
    simp only [if_neg (show ¬ N < 10 by omega), if_neg (show ¬ N < 100 by omega), if_neg (show ¬ N < 1000 by omega), if_neg (show ¬ N < 10000 by omega), if_neg (show ¬ N < 100000 by omega), if_neg (show ¬ N < 1000000 by omega), if_neg (show ¬ N < 10000000 by omega), if_neg (show ¬ N < 100000000 by omega), if_neg (show ¬ N < 1000000000 by omega), if_neg (show ¬ N < 10000000000 by omega), if_neg (show ¬ N < 100000000000 by omega), if_neg (show ¬ N < 1000000000000 by omega), if_neg (show ¬ N < 10000000000000 by omega), if_neg (show ¬ N < 100000000000000 by omega), if_neg (show ¬ N < 1000000000000000 by omega), if_neg (show ¬ N < 10000000000000000 by omega), if_neg (show ¬ N < 100000000000000000 by omega), if_pos (show N < 1000000000000000000 by omega)]
    decide
  -- at least 1000000000000000000
  have d : dz (N / 10) = 18 := by
    have s1 : dz (N / 10) = 1 + dz (N / 100) := by rw [dzp (by omega), Nat.div_div_eq_div_mul]
    have s2 : dz (N / 100) = 1 + dz (N / 1000) := by rw [dzp (by omega), Nat.div_div_eq_div_mul]
    have s3 : dz (N / 1000) = 1 + dz (N / 10000) := by rw [dzp (by omega), Nat.div_div_eq_div_mul]
    have s4 : dz (N / 10000) = 1 + dz (N / 100000) := by rw [dzp (by omega), Nat.div_div_eq_div_mul]
    have s5 : dz (N / 100000) = 1 + dz (N / 1000000) := by rw [dzp (by omega), Nat.div_div_eq_div_mul]
    have s6 : dz (N / 1000000) = 1 + dz (N / 10000000) := by rw [dzp (by omega), Nat.div_div_eq_div_mul]
    have s7 : dz (N / 10000000) = 1 + dz (N / 100000000) := by rw [dzp (by omega), Nat.div_div_eq_div_mul]
    have s8 : dz (N / 100000000) = 1 + dz (N / 1000000000) := by rw [dzp (by omega), Nat.div_div_eq_div_mul]
    have s9 : dz (N / 1000000000) = 1 + dz (N / 10000000000) := by rw [dzp (by omega), Nat.div_div_eq_div_mul]
    have s10 : dz (N / 10000000000) = 1 + dz (N / 100000000000) := by rw [dzp (by omega), Nat.div_div_eq_div_mul]
    have s11 : dz (N / 100000000000) = 1 + dz (N / 1000000000000) := by rw [dzp (by omega), Nat.div_div_eq_div_mul]
    have s12 : dz (N / 1000000000000) = 1 + dz (N / 10000000000000) := by rw [dzp (by omega), Nat.div_div_eq_div_mul]
    have s13 : dz (N / 10000000000000) = 1 + dz (N / 100000000000000) := by rw [dzp (by omega), Nat.div_div_eq_div_mul]
    have s14 : dz (N / 100000000000000) = 1 + dz (N / 1000000000000000) := by rw [dzp (by omega), Nat.div_div_eq_div_mul]
    have s15 : dz (N / 1000000000000000) = 1 + dz (N / 10000000000000000) := by rw [dzp (by omega), Nat.div_div_eq_div_mul]
    have s16 : dz (N / 10000000000000000) = 1 + dz (N / 100000000000000000) := by rw [dzp (by omega), Nat.div_div_eq_div_mul]
    have s17 : dz (N / 100000000000000000) = 1 + dz (N / 1000000000000000000) := by rw [dzp (by omega), Nat.div_div_eq_div_mul]
    have s18 : dz (N / 1000000000000000000) = 1 + dz (N / 10000000000000000000) := by rw [dzp (by omega), Nat.div_div_eq_div_mul]
    have e : N / 10000000000000000000 = 0 := by omega
    rw [s1, s2, s3, s4, s5, s6, s7, s8, s9, s10, s11, s12, s13, s14, s15, s16, s17, s18, e, dz0]
  rw [d]
  simp only [if_neg (show ¬ N < 10 by omega), if_neg (show ¬ N < 100 by omega), if_neg (show ¬ N < 1000 by omega), if_neg (show ¬ N < 10000 by omega), if_neg (show ¬ N < 100000 by omega), if_neg (show ¬ N < 1000000 by omega), if_neg (show ¬ N < 10000000 by omega), if_neg (show ¬ N < 100000000 by omega), if_neg (show ¬ N < 1000000000 by omega), if_neg (show ¬ N < 10000000000 by omega), if_neg (show ¬ N < 100000000000 by omega), if_neg (show ¬ N < 1000000000000 by omega), if_neg (show ¬ N < 10000000000000 by omega), if_neg (show ¬ N < 100000000000000 by omega), if_neg (show ¬ N < 1000000000000000 by omega), if_neg (show ¬ N < 10000000000000000 by omega), if_neg (show ¬ N < 100000000000000000 by omega), if_neg (show ¬ N < 1000000000000000000 by omega)]
  decide
theorem ef_c_ge (m : MethodId) (x0 : Int64) (x1 : Int64) : entryFrame m #[(.long x0), (.long x1)] 4 = mkF m 0 #[.val (.long x0), .second, .val (.long x1), .second] [] := by first | (simp [entryFrame, mkF, argsToLocals, Value.category]; done) | rfl
set_option maxRecDepth 65536 in
set_option maxHeartbeats 40000000 in
theorem c_ge (l : Launch) (Z : State) (a0 : Array Value) (hw : ∀ d ∈ tables_1, d.before a0 Z = true) (n b : Int64) (h0 : Heap)  :
    Con l Z (⟨"com/example/austere_log/austerelog/log/DecimalDigitsPinLaw", "ge", "(JJ)I"⟩ : MethodName) method_3_code 4 (some .int) ({ frames := 0, cells := 0, slots := 0, locals := 0 } : Room) #[(.long n), (.long b)] h0 (PQ (some (.int (if n < b then (0 : Int32) else 1))) h0) := by
  refine Con.intro (plainFor_of_name pn_0) ?_
  intro p e s m below meth c s₁ hx hby hml hrt hlk hZ hown hnm X0 e0
  replace hown : s.vm.findClass "com/example/austere_log/austerelog/log/DecimalDigitsPinLaw" = some m.cls := hown
  refine GoOn.cast (ef_c_ge m n b) ?_
  show GoOn p e below _ (s₁.setTop (mkF m 0 #[.val (.long n), .second, .val (.long b), .second] []))
  refine GoOn.step (fun t₀ k₀ => XS.lloadN X0.here hx rfl (hb hby d3_0) rfl k₀) ?_
  show GoOn p e below _ (s₁.setTop (mkF m 1 #[.val (.long n), .second, .val (.long b), .second] [(.long n)]))
  refine GoOn.step (fun t₀ k₀ => XS.lloadN X0.here hx rfl (hb hby d3_1) rfl k₀) ?_
  show GoOn p e below _ (s₁.setTop (mkF m 2 #[.val (.long n), .second, .val (.long b), .second] [(.long b), (.long n)]))
  refine GoOn.step (fun t₀ k₀ => XS.lcmp X0.here hx rfl (hb hby d3_2) rfl k₀) ?_
  show GoOn p e below _ (s₁.setTop (mkF m 3 #[.val (.long n), .second, .val (.long b), .second] [(.int (lcmpW n b))]))
  by_cases hc : n < b
  · refine GoOn.step (fun t₀ k₀ => XS.ifYes X0.here hx rfl (pc0 := 3) (pc' := 10) rfl (hb hby d3_3) rfl ((if0 _ _).trans (tlt ((lw_lt _ _).mpr hc)).1) (by decide) (by decide) k₀) ?_
    show GoOn p e below _ (s₁.setTop (mkF m 10 #[.val (.long n), .second, .val (.long b), .second] []))
    refine GoOn.step (fun t₀ k₀ => XS.iconst X0.here hx rfl (hb hby d3_10) k₀) ?_
    show GoOn p e below _ (s₁.setTop (mkF m 11 #[.val (.long n), .second, .val (.long b), .second] [(.int (0 : Int32))]))
    exact GoOn.retI X0 hx hrt hlk (hb hby d3_11) (by decide) (by decide) (by first | exact ⟨by rw [if_pos hc], rfl, rfl⟩ | (rw [e0]; exact ⟨by rw [if_pos hc], rfl, rfl⟩))
  · refine GoOn.step (fun t₀ k₀ => XS.ifNo X0.here hx rfl (hb hby d3_3) rfl ((if0 _ _).trans (flt (mt (lw_lt _ _).mp hc)).1) k₀) ?_
    show GoOn p e below _ (s₁.setTop (mkF m 6 #[.val (.long n), .second, .val (.long b), .second] []))
    refine GoOn.step (fun t₀ k₀ => XS.iconst X0.here hx rfl (hb hby d3_6) k₀) ?_
    show GoOn p e below _ (s₁.setTop (mkF m 7 #[.val (.long n), .second, .val (.long b), .second] [(.int (1 : Int32))]))
    refine GoOn.step (fun t₀ k₀ => XS.goto X0.here hx rfl (pc0 := 7) (pc' := 11) rfl (hb hby d3_7) (by decide) (by decide) k₀) ?_
    show GoOn p e below _ (s₁.setTop (mkF m 11 #[.val (.long n), .second, .val (.long b), .second] [(.int (1 : Int32))]))
    exact GoOn.retI X0 hx hrt hlk (hb hby d3_11) (by decide) (by decide) (by first | exact ⟨by rw [if_neg hc], rfl, rfl⟩ | (rw [e0]; exact ⟨by rw [if_neg hc], rfl, rfl⟩))
theorem ef_c_exp (m : MethodId) (x0 : Int64) (x1 : Addr) : entryFrame m #[(.long x0), (.ref x1)] 3 = mkF m 0 #[.val (.long x0), .second, .val (.ref x1)] [] := by first | (simp [entryFrame, mkF, argsToLocals, Value.category]; done) | rfl
set_option maxRecDepth 65536 in
set_option maxHeartbeats 40000000 in
theorem c_exp (l : Launch) (Z : State) (a0 : Array Value) (hw : ∀ d ∈ tables_1, d.before a0 Z = true) (n : Int64) (a : Addr) (h0 : Heap) (F : Jar Z h0 a .long 19 (fun i => .long (p10 i))) :
    Con l Z (⟨"com/example/austere_log/austerelog/log/DecimalDigitsPinLaw", "expected", "(J[J)I"⟩ : MethodName) method_4_code 3 (some .int) ({ frames := 1, cells := 0, slots := 0, locals := 24 } : Room) #[(.long n), (.ref a)] h0 (PQ (some (.int (expV n))) h0) := by
  refine Con.intro (plainFor_of_name pn_0) ?_
  intro p e s m below meth c s₁ hx hby hml hrt hlk hZ hown hnm X0 e0
  replace hown : s.vm.findClass "com/example/austere_log/austerelog/log/DecimalDigitsPinLaw" = some m.cls := hown
  refine GoOn.cast (ef_c_exp m n a) ?_
  show GoOn p e below _ (s₁.setTop (mkF m 0 #[.val (.long n), .second, .val (.ref a)] []))
  refine GoOn.step (fun t₀ k₀ => XS.iconst X0.here hx rfl (hb hby d2_0) k₀) ?_
  show GoOn p e below _ (s₁.setTop (mkF m 1 #[.val (.long n), .second, .val (.ref a)] [(.int (1 : Int32))]))
  refine GoOn.step (fun t₀ k₀ => XS.lloadN X0.here hx rfl (hb hby d2_1) rfl k₀) ?_
  show GoOn p e below _ (s₁.setTop (mkF m 2 #[.val (.long n), .second, .val (.ref a)] [(.long n), (.int (1 : Int32))]))
  refine GoOn.step (fun t₀ k₀ => XS.aloadN X0.here hx rfl (hb hby d2_2) rfl rfl k₀) ?_
  show GoOn p e below _ (s₁.setTop (mkF m 3 #[.val (.long n), .second, .val (.ref a)] [(.ref a), (.long n), (.int (1 : Int32))]))
  refine GoOn.step (fun t₀ k₀ => XS.iconst X0.here hx rfl (hb hby d2_3) k₀) ?_
  show GoOn p e below _ (s₁.setTop (mkF m 4 #[.val (.long n), .second, .val (.ref a)] [(.int (1 : Int32)), (.ref a), (.long n), (.int (1 : Int32))]))
  refine GoOn.step (fun t₀ k₀ => kLdJ X0 hx hZ e0 F (j := (1 : Int32)) (v := (.long (10 : Int64))) ⟨by decide, by decide⟩ rfl (g := (mkF m 4 #[.val (.long n), .second, .val (.ref a)] [(.int (1 : Int32)), (.ref a), (.long n), (.int (1 : Int32))])) rfl rfl (hb hby d2_4) t₀ k₀) ?_
  show GoOn p e below _ (s₁.setTop (mkF m 5 #[.val (.long n), .second, .val (.ref a)] [(.long (10 : Int64)), (.long n), (.int (1 : Int32))]))
  obtain ⟨_, T1, L1, X1, hQ1, st1⟩ := kCallS X0 hx hZ (argsL := [(.long n), (.long (10 : Int64))]) (rest := [(.int (1 : Int32))]) (c_ge l Z a0 hw n (10 : Int64) h0) hown (hw _ (List.mem_of_getElem? (i := 29) rfl)) (hw _ (List.mem_of_getElem? (i := 30) rfl)) (hw _ (List.mem_of_getElem? (i := 27) rfl)) (hw _ (List.mem_of_getElem? (i := 31) rfl)) (by decide) e0 (g := (mkF m 5 #[.val (.long n), .second, .val (.ref a)] [(.long (10 : Int64)), (.long n), (.int (1 : Int32))])) rfl (by rw [hml]; rfl) (lenOf pd_0 rfl) rfl (W := 1) (by show 2 * 0 + _ ≤ _; exact Nat.le_of_eq rfl) (hb hby d2_5) (by decide) (by decide) (by decide) (by decide)
  obtain ⟨rfl, rfl, e1⟩ := hQ1
  rw [List.append_nil] at X1
  refine GoOn.step st1 ?_
  show GoOn p e below _ (T1.setTop (mkF m 8 #[.val (.long n), .second, .val (.ref a)] [(.int (if n < (10 : Int64) then (0 : Int32) else 1)), (.int (1 : Int32))]))
  refine GoOn.step (fun t₀ k₀ => XS.iadd X1.here hx rfl (hb hby d2_8) rfl k₀) ?_
  show GoOn p e below _ (T1.setTop (mkF m 9 #[.val (.long n), .second, .val (.ref a)] [(.int ((1 : Int32) + (if n < (10 : Int64) then (0 : Int32) else 1)))]))
  refine GoOn.step (fun t₀ k₀ => XS.lloadN X1.here hx rfl (hb hby d2_9) rfl k₀) ?_
  show GoOn p e below _ (T1.setTop (mkF m 10 #[.val (.long n), .second, .val (.ref a)] [(.long n), (.int ((1 : Int32) + (if n < (10 : Int64) then (0 : Int32) else 1)))]))
  refine GoOn.step (fun t₀ k₀ => XS.aloadN X1.here hx rfl (hb hby d2_10) rfl rfl k₀) ?_
  show GoOn p e below _ (T1.setTop (mkF m 11 #[.val (.long n), .second, .val (.ref a)] [(.ref a), (.long n), (.int ((1 : Int32) + (if n < (10 : Int64) then (0 : Int32) else 1)))]))
  refine GoOn.step (fun t₀ k₀ => XS.iconst X1.here hx rfl (hb hby d2_11) k₀) ?_
  show GoOn p e below _ (T1.setTop (mkF m 12 #[.val (.long n), .second, .val (.ref a)] [(.int (2 : Int32)), (.ref a), (.long n), (.int ((1 : Int32) + (if n < (10 : Int64) then (0 : Int32) else 1)))]))
  refine GoOn.step (fun t₀ k₀ => kLdJ X1 hx hZ e1 F (j := (2 : Int32)) (v := (.long (100 : Int64))) ⟨by decide, by decide⟩ rfl (g := (mkF m 12 #[.val (.long n), .second, .val (.ref a)] [(.int (2 : Int32)), (.ref a), (.long n), (.int ((1 : Int32) + (if n < (10 : Int64) then (0 : Int32) else 1)))])) rfl rfl (hb hby d2_12) t₀ k₀) ?_
  show GoOn p e below _ (T1.setTop (mkF m 13 #[.val (.long n), .second, .val (.ref a)] [(.long (100 : Int64)), (.long n), (.int ((1 : Int32) + (if n < (10 : Int64) then (0 : Int32) else 1)))]))
  obtain ⟨_, T2, L2, X2, hQ2, st2⟩ := kCallS X1 hx hZ (argsL := [(.long n), (.long (100 : Int64))]) (rest := [(.int ((1 : Int32) + (if n < (10 : Int64) then (0 : Int32) else 1)))]) (c_ge l Z a0 hw n (100 : Int64) h0) hown (hw _ (List.mem_of_getElem? (i := 29) rfl)) (hw _ (List.mem_of_getElem? (i := 30) rfl)) (hw _ (List.mem_of_getElem? (i := 27) rfl)) (hw _ (List.mem_of_getElem? (i := 31) rfl)) (by decide) e1 (g := (mkF m 13 #[.val (.long n), .second, .val (.ref a)] [(.long (100 : Int64)), (.long n), (.int ((1 : Int32) + (if n < (10 : Int64) then (0 : Int32) else 1)))])) rfl (by rw [hml]; rfl) (lenOf pd_0 rfl) rfl (W := 1) (by show 2 * 0 + _ ≤ _; exact Nat.le_of_eq rfl) (hb hby d2_13) (by decide) (by decide) (by decide) (by decide)
  obtain ⟨rfl, rfl, e2⟩ := hQ2
  rw [List.append_nil] at X2
  refine GoOn.step st2 ?_
  show GoOn p e below _ (T2.setTop (mkF m 16 #[.val (.long n), .second, .val (.ref a)] [(.int (if n < (100 : Int64) then (0 : Int32) else 1)), (.int ((1 : Int32) + (if n < (10 : Int64) then (0 : Int32) else 1)))]))
  refine GoOn.step (fun t₀ k₀ => XS.iadd X2.here hx rfl (hb hby d2_16) rfl k₀) ?_
  show GoOn p e below _ (T2.setTop (mkF m 17 #[.val (.long n), .second, .val (.ref a)] [(.int (((1 : Int32) + (if n < (10 : Int64) then (0 : Int32) else 1)) + (if n < (100 : Int64) then (0 : Int32) else 1)))]))
  refine GoOn.step (fun t₀ k₀ => XS.lloadN X2.here hx rfl (hb hby d2_17) rfl k₀) ?_
  show GoOn p e below _ (T2.setTop (mkF m 18 #[.val (.long n), .second, .val (.ref a)] [(.long n), (.int (((1 : Int32) + (if n < (10 : Int64) then (0 : Int32) else 1)) + (if n < (100 : Int64) then (0 : Int32) else 1)))]))
  refine GoOn.step (fun t₀ k₀ => XS.aloadN X2.here hx rfl (hb hby d2_18) rfl rfl k₀) ?_
  show GoOn p e below _ (T2.setTop (mkF m 19 #[.val (.long n), .second, .val (.ref a)] [(.ref a), (.long n), (.int (((1 : Int32) + (if n < (10 : Int64) then (0 : Int32) else 1)) + (if n < (100 : Int64) then (0 : Int32) else 1)))]))
  refine GoOn.step (fun t₀ k₀ => XS.iconst X2.here hx rfl (hb hby d2_19) k₀) ?_
  show GoOn p e below _ (T2.setTop (mkF m 20 #[.val (.long n), .second, .val (.ref a)] [(.int (3 : Int32)), (.ref a), (.long n), (.int (((1 : Int32) + (if n < (10 : Int64) then (0 : Int32) else 1)) + (if n < (100 : Int64) then (0 : Int32) else 1)))]))
  refine GoOn.step (fun t₀ k₀ => kLdJ X2 hx hZ e2 F (j := (3 : Int32)) (v := (.long (1000 : Int64))) ⟨by decide, by decide⟩ rfl (g := (mkF m 20 #[.val (.long n), .second, .val (.ref a)] [(.int (3 : Int32)), (.ref a), (.long n), (.int (((1 : Int32) + (if n < (10 : Int64) then (0 : Int32) else 1)) + (if n < (100 : Int64) then (0 : Int32) else 1)))])) rfl rfl (hb hby d2_20) t₀ k₀) ?_
  show GoOn p e below _ (T2.setTop (mkF m 21 #[.val (.long n), .second, .val (.ref a)] [(.long (1000 : Int64)), (.long n), (.int (((1 : Int32) + (if n < (10 : Int64) then (0 : Int32) else 1)) + (if n < (100 : Int64) then (0 : Int32) else 1)))]))
  obtain ⟨_, T3, L3, X3, hQ3, st3⟩ := kCallS X2 hx hZ (argsL := [(.long n), (.long (1000 : Int64))]) (rest := [(.int (((1 : Int32) + (if n < (10 : Int64) then (0 : Int32) else 1)) + (if n < (100 : Int64) then (0 : Int32) else 1)))]) (c_ge l Z a0 hw n (1000 : Int64) h0) hown (hw _ (List.mem_of_getElem? (i := 29) rfl)) (hw _ (List.mem_of_getElem? (i := 30) rfl)) (hw _ (List.mem_of_getElem? (i := 27) rfl)) (hw _ (List.mem_of_getElem? (i := 31) rfl)) (by decide) e2 (g := (mkF m 21 #[.val (.long n), .second, .val (.ref a)] [(.long (1000 : Int64)), (.long n), (.int (((1 : Int32) + (if n < (10 : Int64) then (0 : Int32) else 1)) + (if n < (100 : Int64) then (0 : Int32) else 1)))])) rfl (by rw [hml]; rfl) (lenOf pd_0 rfl) rfl (W := 1) (by show 2 * 0 + _ ≤ _; exact Nat.le_of_eq rfl) (hb hby d2_21) (by decide) (by decide) (by decide) (by decide)
  obtain ⟨rfl, rfl, e3⟩ := hQ3
  rw [List.append_nil] at X3
  refine GoOn.step st3 ?_
  show GoOn p e below _ (T3.setTop (mkF m 24 #[.val (.long n), .second, .val (.ref a)] [(.int (if n < (1000 : Int64) then (0 : Int32) else 1)), (.int (((1 : Int32) + (if n < (10 : Int64) then (0 : Int32) else 1)) + (if n < (100 : Int64) then (0 : Int32) else 1)))]))
  refine GoOn.step (fun t₀ k₀ => XS.iadd X3.here hx rfl (hb hby d2_24) rfl k₀) ?_
  show GoOn p e below _ (T3.setTop (mkF m 25 #[.val (.long n), .second, .val (.ref a)] [(.int ((((1 : Int32) + (if n < (10 : Int64) then (0 : Int32) else 1)) + (if n < (100 : Int64) then (0 : Int32) else 1)) + (if n < (1000 : Int64) then (0 : Int32) else 1)))]))
  refine GoOn.step (fun t₀ k₀ => XS.lloadN X3.here hx rfl (hb hby d2_25) rfl k₀) ?_
  show GoOn p e below _ (T3.setTop (mkF m 26 #[.val (.long n), .second, .val (.ref a)] [(.long n), (.int ((((1 : Int32) + (if n < (10 : Int64) then (0 : Int32) else 1)) + (if n < (100 : Int64) then (0 : Int32) else 1)) + (if n < (1000 : Int64) then (0 : Int32) else 1)))]))
  refine GoOn.step (fun t₀ k₀ => XS.aloadN X3.here hx rfl (hb hby d2_26) rfl rfl k₀) ?_
  show GoOn p e below _ (T3.setTop (mkF m 27 #[.val (.long n), .second, .val (.ref a)] [(.ref a), (.long n), (.int ((((1 : Int32) + (if n < (10 : Int64) then (0 : Int32) else 1)) + (if n < (100 : Int64) then (0 : Int32) else 1)) + (if n < (1000 : Int64) then (0 : Int32) else 1)))]))
  refine GoOn.step (fun t₀ k₀ => XS.iconst X3.here hx rfl (hb hby d2_27) k₀) ?_
  show GoOn p e below _ (T3.setTop (mkF m 28 #[.val (.long n), .second, .val (.ref a)] [(.int (4 : Int32)), (.ref a), (.long n), (.int ((((1 : Int32) + (if n < (10 : Int64) then (0 : Int32) else 1)) + (if n < (100 : Int64) then (0 : Int32) else 1)) + (if n < (1000 : Int64) then (0 : Int32) else 1)))]))
  refine GoOn.step (fun t₀ k₀ => kLdJ X3 hx hZ e3 F (j := (4 : Int32)) (v := (.long (10000 : Int64))) ⟨by decide, by decide⟩ rfl (g := (mkF m 28 #[.val (.long n), .second, .val (.ref a)] [(.int (4 : Int32)), (.ref a), (.long n), (.int ((((1 : Int32) + (if n < (10 : Int64) then (0 : Int32) else 1)) + (if n < (100 : Int64) then (0 : Int32) else 1)) + (if n < (1000 : Int64) then (0 : Int32) else 1)))])) rfl rfl (hb hby d2_28) t₀ k₀) ?_
  show GoOn p e below _ (T3.setTop (mkF m 29 #[.val (.long n), .second, .val (.ref a)] [(.long (10000 : Int64)), (.long n), (.int ((((1 : Int32) + (if n < (10 : Int64) then (0 : Int32) else 1)) + (if n < (100 : Int64) then (0 : Int32) else 1)) + (if n < (1000 : Int64) then (0 : Int32) else 1)))]))
  obtain ⟨_, T4, L4, X4, hQ4, st4⟩ := kCallS X3 hx hZ (argsL := [(.long n), (.long (10000 : Int64))]) (rest := [(.int ((((1 : Int32) + (if n < (10 : Int64) then (0 : Int32) else 1)) + (if n < (100 : Int64) then (0 : Int32) else 1)) + (if n < (1000 : Int64) then (0 : Int32) else 1)))]) (c_ge l Z a0 hw n (10000 : Int64) h0) hown (hw _ (List.mem_of_getElem? (i := 29) rfl)) (hw _ (List.mem_of_getElem? (i := 30) rfl)) (hw _ (List.mem_of_getElem? (i := 27) rfl)) (hw _ (List.mem_of_getElem? (i := 31) rfl)) (by decide) e3 (g := (mkF m 29 #[.val (.long n), .second, .val (.ref a)] [(.long (10000 : Int64)), (.long n), (.int ((((1 : Int32) + (if n < (10 : Int64) then (0 : Int32) else 1)) + (if n < (100 : Int64) then (0 : Int32) else 1)) + (if n < (1000 : Int64) then (0 : Int32) else 1)))])) rfl (by rw [hml]; rfl) (lenOf pd_0 rfl) rfl (W := 1) (by show 2 * 0 + _ ≤ _; exact Nat.le_of_eq rfl) (hb hby d2_29) (by decide) (by decide) (by decide) (by decide)
  obtain ⟨rfl, rfl, e4⟩ := hQ4
  rw [List.append_nil] at X4
  refine GoOn.step st4 ?_
  show GoOn p e below _ (T4.setTop (mkF m 32 #[.val (.long n), .second, .val (.ref a)] [(.int (if n < (10000 : Int64) then (0 : Int32) else 1)), (.int ((((1 : Int32) + (if n < (10 : Int64) then (0 : Int32) else 1)) + (if n < (100 : Int64) then (0 : Int32) else 1)) + (if n < (1000 : Int64) then (0 : Int32) else 1)))]))
  refine GoOn.step (fun t₀ k₀ => XS.iadd X4.here hx rfl (hb hby d2_32) rfl k₀) ?_
  show GoOn p e below _ (T4.setTop (mkF m 33 #[.val (.long n), .second, .val (.ref a)] [(.int (((((1 : Int32) + (if n < (10 : Int64) then (0 : Int32) else 1)) + (if n < (100 : Int64) then (0 : Int32) else 1)) + (if n < (1000 : Int64) then (0 : Int32) else 1)) + (if n < (10000 : Int64) then (0 : Int32) else 1)))]))
  refine GoOn.step (fun t₀ k₀ => XS.lloadN X4.here hx rfl (hb hby d2_33) rfl k₀) ?_
  show GoOn p e below _ (T4.setTop (mkF m 34 #[.val (.long n), .second, .val (.ref a)] [(.long n), (.int (((((1 : Int32) + (if n < (10 : Int64) then (0 : Int32) else 1)) + (if n < (100 : Int64) then (0 : Int32) else 1)) + (if n < (1000 : Int64) then (0 : Int32) else 1)) + (if n < (10000 : Int64) then (0 : Int32) else 1)))]))
  refine GoOn.step (fun t₀ k₀ => XS.aloadN X4.here hx rfl (hb hby d2_34) rfl rfl k₀) ?_
  show GoOn p e below _ (T4.setTop (mkF m 35 #[.val (.long n), .second, .val (.ref a)] [(.ref a), (.long n), (.int (((((1 : Int32) + (if n < (10 : Int64) then (0 : Int32) else 1)) + (if n < (100 : Int64) then (0 : Int32) else 1)) + (if n < (1000 : Int64) then (0 : Int32) else 1)) + (if n < (10000 : Int64) then (0 : Int32) else 1)))]))
  refine GoOn.step (fun t₀ k₀ => XS.iconst X4.here hx rfl (hb hby d2_35) k₀) ?_
  show GoOn p e below _ (T4.setTop (mkF m 36 #[.val (.long n), .second, .val (.ref a)] [(.int (5 : Int32)), (.ref a), (.long n), (.int (((((1 : Int32) + (if n < (10 : Int64) then (0 : Int32) else 1)) + (if n < (100 : Int64) then (0 : Int32) else 1)) + (if n < (1000 : Int64) then (0 : Int32) else 1)) + (if n < (10000 : Int64) then (0 : Int32) else 1)))]))
  refine GoOn.step (fun t₀ k₀ => kLdJ X4 hx hZ e4 F (j := (5 : Int32)) (v := (.long (100000 : Int64))) ⟨by decide, by decide⟩ rfl (g := (mkF m 36 #[.val (.long n), .second, .val (.ref a)] [(.int (5 : Int32)), (.ref a), (.long n), (.int (((((1 : Int32) + (if n < (10 : Int64) then (0 : Int32) else 1)) + (if n < (100 : Int64) then (0 : Int32) else 1)) + (if n < (1000 : Int64) then (0 : Int32) else 1)) + (if n < (10000 : Int64) then (0 : Int32) else 1)))])) rfl rfl (hb hby d2_36) t₀ k₀) ?_
  show GoOn p e below _ (T4.setTop (mkF m 37 #[.val (.long n), .second, .val (.ref a)] [(.long (100000 : Int64)), (.long n), (.int (((((1 : Int32) + (if n < (10 : Int64) then (0 : Int32) else 1)) + (if n < (100 : Int64) then (0 : Int32) else 1)) + (if n < (1000 : Int64) then (0 : Int32) else 1)) + (if n < (10000 : Int64) then (0 : Int32) else 1)))]))
  obtain ⟨_, T5, L5, X5, hQ5, st5⟩ := kCallS X4 hx hZ (argsL := [(.long n), (.long (100000 : Int64))]) (rest := [(.int (((((1 : Int32) + (if n < (10 : Int64) then (0 : Int32) else 1)) + (if n < (100 : Int64) then (0 : Int32) else 1)) + (if n < (1000 : Int64) then (0 : Int32) else 1)) + (if n < (10000 : Int64) then (0 : Int32) else 1)))]) (c_ge l Z a0 hw n (100000 : Int64) h0) hown (hw _ (List.mem_of_getElem? (i := 29) rfl)) (hw _ (List.mem_of_getElem? (i := 30) rfl)) (hw _ (List.mem_of_getElem? (i := 27) rfl)) (hw _ (List.mem_of_getElem? (i := 31) rfl)) (by decide) e4 (g := (mkF m 37 #[.val (.long n), .second, .val (.ref a)] [(.long (100000 : Int64)), (.long n), (.int (((((1 : Int32) + (if n < (10 : Int64) then (0 : Int32) else 1)) + (if n < (100 : Int64) then (0 : Int32) else 1)) + (if n < (1000 : Int64) then (0 : Int32) else 1)) + (if n < (10000 : Int64) then (0 : Int32) else 1)))])) rfl (by rw [hml]; rfl) (lenOf pd_0 rfl) rfl (W := 1) (by show 2 * 0 + _ ≤ _; exact Nat.le_of_eq rfl) (hb hby d2_37) (by decide) (by decide) (by decide) (by decide)
  obtain ⟨rfl, rfl, e5⟩ := hQ5
  rw [List.append_nil] at X5
  refine GoOn.step st5 ?_
  show GoOn p e below _ (T5.setTop (mkF m 40 #[.val (.long n), .second, .val (.ref a)] [(.int (if n < (100000 : Int64) then (0 : Int32) else 1)), (.int (((((1 : Int32) + (if n < (10 : Int64) then (0 : Int32) else 1)) + (if n < (100 : Int64) then (0 : Int32) else 1)) + (if n < (1000 : Int64) then (0 : Int32) else 1)) + (if n < (10000 : Int64) then (0 : Int32) else 1)))]))
  refine GoOn.step (fun t₀ k₀ => XS.iadd X5.here hx rfl (hb hby d2_40) rfl k₀) ?_
  show GoOn p e below _ (T5.setTop (mkF m 41 #[.val (.long n), .second, .val (.ref a)] [(.int ((((((1 : Int32) + (if n < (10 : Int64) then (0 : Int32) else 1)) + (if n < (100 : Int64) then (0 : Int32) else 1)) + (if n < (1000 : Int64) then (0 : Int32) else 1)) + (if n < (10000 : Int64) then (0 : Int32) else 1)) + (if n < (100000 : Int64) then (0 : Int32) else 1)))]))
  refine GoOn.step (fun t₀ k₀ => XS.lloadN X5.here hx rfl (hb hby d2_41) rfl k₀) ?_
  show GoOn p e below _ (T5.setTop (mkF m 42 #[.val (.long n), .second, .val (.ref a)] [(.long n), (.int ((((((1 : Int32) + (if n < (10 : Int64) then (0 : Int32) else 1)) + (if n < (100 : Int64) then (0 : Int32) else 1)) + (if n < (1000 : Int64) then (0 : Int32) else 1)) + (if n < (10000 : Int64) then (0 : Int32) else 1)) + (if n < (100000 : Int64) then (0 : Int32) else 1)))]))
  refine GoOn.step (fun t₀ k₀ => XS.aloadN X5.here hx rfl (hb hby d2_42) rfl rfl k₀) ?_
  show GoOn p e below _ (T5.setTop (mkF m 43 #[.val (.long n), .second, .val (.ref a)] [(.ref a), (.long n), (.int ((((((1 : Int32) + (if n < (10 : Int64) then (0 : Int32) else 1)) + (if n < (100 : Int64) then (0 : Int32) else 1)) + (if n < (1000 : Int64) then (0 : Int32) else 1)) + (if n < (10000 : Int64) then (0 : Int32) else 1)) + (if n < (100000 : Int64) then (0 : Int32) else 1)))]))
  refine GoOn.step (fun t₀ k₀ => XS.bipush X5.here hx rfl (hb hby d2_43) k₀) ?_
  show GoOn p e below _ (T5.setTop (mkF m 45 #[.val (.long n), .second, .val (.ref a)] [(.int (6 : Int32)), (.ref a), (.long n), (.int ((((((1 : Int32) + (if n < (10 : Int64) then (0 : Int32) else 1)) + (if n < (100 : Int64) then (0 : Int32) else 1)) + (if n < (1000 : Int64) then (0 : Int32) else 1)) + (if n < (10000 : Int64) then (0 : Int32) else 1)) + (if n < (100000 : Int64) then (0 : Int32) else 1)))]))
  refine GoOn.step (fun t₀ k₀ => kLdJ X5 hx hZ e5 F (j := (6 : Int32)) (v := (.long (1000000 : Int64))) ⟨by decide, by decide⟩ rfl (g := (mkF m 45 #[.val (.long n), .second, .val (.ref a)] [(.int (6 : Int32)), (.ref a), (.long n), (.int ((((((1 : Int32) + (if n < (10 : Int64) then (0 : Int32) else 1)) + (if n < (100 : Int64) then (0 : Int32) else 1)) + (if n < (1000 : Int64) then (0 : Int32) else 1)) + (if n < (10000 : Int64) then (0 : Int32) else 1)) + (if n < (100000 : Int64) then (0 : Int32) else 1)))])) rfl rfl (hb hby d2_45) t₀ k₀) ?_
  show GoOn p e below _ (T5.setTop (mkF m 46 #[.val (.long n), .second, .val (.ref a)] [(.long (1000000 : Int64)), (.long n), (.int ((((((1 : Int32) + (if n < (10 : Int64) then (0 : Int32) else 1)) + (if n < (100 : Int64) then (0 : Int32) else 1)) + (if n < (1000 : Int64) then (0 : Int32) else 1)) + (if n < (10000 : Int64) then (0 : Int32) else 1)) + (if n < (100000 : Int64) then (0 : Int32) else 1)))]))
  obtain ⟨_, T6, L6, X6, hQ6, st6⟩ := kCallS X5 hx hZ (argsL := [(.long n), (.long (1000000 : Int64))]) (rest := [(.int ((((((1 : Int32) + (if n < (10 : Int64) then (0 : Int32) else 1)) + (if n < (100 : Int64) then (0 : Int32) else 1)) + (if n < (1000 : Int64) then (0 : Int32) else 1)) + (if n < (10000 : Int64) then (0 : Int32) else 1)) + (if n < (100000 : Int64) then (0 : Int32) else 1)))]) (c_ge l Z a0 hw n (1000000 : Int64) h0) hown (hw _ (List.mem_of_getElem? (i := 29) rfl)) (hw _ (List.mem_of_getElem? (i := 30) rfl)) (hw _ (List.mem_of_getElem? (i := 27) rfl)) (hw _ (List.mem_of_getElem? (i := 31) rfl)) (by decide) e5 (g := (mkF m 46 #[.val (.long n), .second, .val (.ref a)] [(.long (1000000 : Int64)), (.long n), (.int ((((((1 : Int32) + (if n < (10 : Int64) then (0 : Int32) else 1)) + (if n < (100 : Int64) then (0 : Int32) else 1)) + (if n < (1000 : Int64) then (0 : Int32) else 1)) + (if n < (10000 : Int64) then (0 : Int32) else 1)) + (if n < (100000 : Int64) then (0 : Int32) else 1)))])) rfl (by rw [hml]; rfl) (lenOf pd_0 rfl) rfl (W := 1) (by show 2 * 0 + _ ≤ _; exact Nat.le_of_eq rfl) (hb hby d2_46) (by decide) (by decide) (by decide) (by decide)
  obtain ⟨rfl, rfl, e6⟩ := hQ6
  rw [List.append_nil] at X6
  refine GoOn.step st6 ?_
  show GoOn p e below _ (T6.setTop (mkF m 49 #[.val (.long n), .second, .val (.ref a)] [(.int (if n < (1000000 : Int64) then (0 : Int32) else 1)), (.int ((((((1 : Int32) + (if n < (10 : Int64) then (0 : Int32) else 1)) + (if n < (100 : Int64) then (0 : Int32) else 1)) + (if n < (1000 : Int64) then (0 : Int32) else 1)) + (if n < (10000 : Int64) then (0 : Int32) else 1)) + (if n < (100000 : Int64) then (0 : Int32) else 1)))]))
  refine GoOn.step (fun t₀ k₀ => XS.iadd X6.here hx rfl (hb hby d2_49) rfl k₀) ?_
  show GoOn p e below _ (T6.setTop (mkF m 50 #[.val (.long n), .second, .val (.ref a)] [(.int (((((((1 : Int32) + (if n < (10 : Int64) then (0 : Int32) else 1)) + (if n < (100 : Int64) then (0 : Int32) else 1)) + (if n < (1000 : Int64) then (0 : Int32) else 1)) + (if n < (10000 : Int64) then (0 : Int32) else 1)) + (if n < (100000 : Int64) then (0 : Int32) else 1)) + (if n < (1000000 : Int64) then (0 : Int32) else 1)))]))
  refine GoOn.step (fun t₀ k₀ => XS.lloadN X6.here hx rfl (hb hby d2_50) rfl k₀) ?_
  show GoOn p e below _ (T6.setTop (mkF m 51 #[.val (.long n), .second, .val (.ref a)] [(.long n), (.int (((((((1 : Int32) + (if n < (10 : Int64) then (0 : Int32) else 1)) + (if n < (100 : Int64) then (0 : Int32) else 1)) + (if n < (1000 : Int64) then (0 : Int32) else 1)) + (if n < (10000 : Int64) then (0 : Int32) else 1)) + (if n < (100000 : Int64) then (0 : Int32) else 1)) + (if n < (1000000 : Int64) then (0 : Int32) else 1)))]))
  refine GoOn.step (fun t₀ k₀ => XS.aloadN X6.here hx rfl (hb hby d2_51) rfl rfl k₀) ?_
  show GoOn p e below _ (T6.setTop (mkF m 52 #[.val (.long n), .second, .val (.ref a)] [(.ref a), (.long n), (.int (((((((1 : Int32) + (if n < (10 : Int64) then (0 : Int32) else 1)) + (if n < (100 : Int64) then (0 : Int32) else 1)) + (if n < (1000 : Int64) then (0 : Int32) else 1)) + (if n < (10000 : Int64) then (0 : Int32) else 1)) + (if n < (100000 : Int64) then (0 : Int32) else 1)) + (if n < (1000000 : Int64) then (0 : Int32) else 1)))]))
  refine GoOn.step (fun t₀ k₀ => XS.bipush X6.here hx rfl (hb hby d2_52) k₀) ?_
  show GoOn p e below _ (T6.setTop (mkF m 54 #[.val (.long n), .second, .val (.ref a)] [(.int (7 : Int32)), (.ref a), (.long n), (.int (((((((1 : Int32) + (if n < (10 : Int64) then (0 : Int32) else 1)) + (if n < (100 : Int64) then (0 : Int32) else 1)) + (if n < (1000 : Int64) then (0 : Int32) else 1)) + (if n < (10000 : Int64) then (0 : Int32) else 1)) + (if n < (100000 : Int64) then (0 : Int32) else 1)) + (if n < (1000000 : Int64) then (0 : Int32) else 1)))]))
  refine GoOn.step (fun t₀ k₀ => kLdJ X6 hx hZ e6 F (j := (7 : Int32)) (v := (.long (10000000 : Int64))) ⟨by decide, by decide⟩ rfl (g := (mkF m 54 #[.val (.long n), .second, .val (.ref a)] [(.int (7 : Int32)), (.ref a), (.long n), (.int (((((((1 : Int32) + (if n < (10 : Int64) then (0 : Int32) else 1)) + (if n < (100 : Int64) then (0 : Int32) else 1)) + (if n < (1000 : Int64) then (0 : Int32) else 1)) + (if n < (10000 : Int64) then (0 : Int32) else 1)) + (if n < (100000 : Int64) then (0 : Int32) else 1)) + (if n < (1000000 : Int64) then (0 : Int32) else 1)))])) rfl rfl (hb hby d2_54) t₀ k₀) ?_
  show GoOn p e below _ (T6.setTop (mkF m 55 #[.val (.long n), .second, .val (.ref a)] [(.long (10000000 : Int64)), (.long n), (.int (((((((1 : Int32) + (if n < (10 : Int64) then (0 : Int32) else 1)) + (if n < (100 : Int64) then (0 : Int32) else 1)) + (if n < (1000 : Int64) then (0 : Int32) else 1)) + (if n < (10000 : Int64) then (0 : Int32) else 1)) + (if n < (100000 : Int64) then (0 : Int32) else 1)) + (if n < (1000000 : Int64) then (0 : Int32) else 1)))]))
  obtain ⟨_, T7, L7, X7, hQ7, st7⟩ := kCallS X6 hx hZ (argsL := [(.long n), (.long (10000000 : Int64))]) (rest := [(.int (((((((1 : Int32) + (if n < (10 : Int64) then (0 : Int32) else 1)) + (if n < (100 : Int64) then (0 : Int32) else 1)) + (if n < (1000 : Int64) then (0 : Int32) else 1)) + (if n < (10000 : Int64) then (0 : Int32) else 1)) + (if n < (100000 : Int64) then (0 : Int32) else 1)) + (if n < (1000000 : Int64) then (0 : Int32) else 1)))]) (c_ge l Z a0 hw n (10000000 : Int64) h0) hown (hw _ (List.mem_of_getElem? (i := 29) rfl)) (hw _ (List.mem_of_getElem? (i := 30) rfl)) (hw _ (List.mem_of_getElem? (i := 27) rfl)) (hw _ (List.mem_of_getElem? (i := 31) rfl)) (by decide) e6 (g := (mkF m 55 #[.val (.long n), .second, .val (.ref a)] [(.long (10000000 : Int64)), (.long n), (.int (((((((1 : Int32) + (if n < (10 : Int64) then (0 : Int32) else 1)) + (if n < (100 : Int64) then (0 : Int32) else 1)) + (if n < (1000 : Int64) then (0 : Int32) else 1)) + (if n < (10000 : Int64) then (0 : Int32) else 1)) + (if n < (100000 : Int64) then (0 : Int32) else 1)) + (if n < (1000000 : Int64) then (0 : Int32) else 1)))])) rfl (by rw [hml]; rfl) (lenOf pd_0 rfl) rfl (W := 1) (by show 2 * 0 + _ ≤ _; exact Nat.le_of_eq rfl) (hb hby d2_55) (by decide) (by decide) (by decide) (by decide)
  obtain ⟨rfl, rfl, e7⟩ := hQ7
  rw [List.append_nil] at X7
  refine GoOn.step st7 ?_
  show GoOn p e below _ (T7.setTop (mkF m 58 #[.val (.long n), .second, .val (.ref a)] [(.int (if n < (10000000 : Int64) then (0 : Int32) else 1)), (.int (((((((1 : Int32) + (if n < (10 : Int64) then (0 : Int32) else 1)) + (if n < (100 : Int64) then (0 : Int32) else 1)) + (if n < (1000 : Int64) then (0 : Int32) else 1)) + (if n < (10000 : Int64) then (0 : Int32) else 1)) + (if n < (100000 : Int64) then (0 : Int32) else 1)) + (if n < (1000000 : Int64) then (0 : Int32) else 1)))]))
  refine GoOn.step (fun t₀ k₀ => XS.iadd X7.here hx rfl (hb hby d2_58) rfl k₀) ?_
  show GoOn p e below _ (T7.setTop (mkF m 59 #[.val (.long n), .second, .val (.ref a)] [(.int ((((((((1 : Int32) + (if n < (10 : Int64) then (0 : Int32) else 1)) + (if n < (100 : Int64) then (0 : Int32) else 1)) + (if n < (1000 : Int64) then (0 : Int32) else 1)) + (if n < (10000 : Int64) then (0 : Int32) else 1)) + (if n < (100000 : Int64) then (0 : Int32) else 1)) + (if n < (1000000 : Int64) then (0 : Int32) else 1)) + (if n < (10000000 : Int64) then (0 : Int32) else 1)))]))
  refine GoOn.step (fun t₀ k₀ => XS.lloadN X7.here hx rfl (hb hby d2_59) rfl k₀) ?_
  show GoOn p e below _ (T7.setTop (mkF m 60 #[.val (.long n), .second, .val (.ref a)] [(.long n), (.int ((((((((1 : Int32) + (if n < (10 : Int64) then (0 : Int32) else 1)) + (if n < (100 : Int64) then (0 : Int32) else 1)) + (if n < (1000 : Int64) then (0 : Int32) else 1)) + (if n < (10000 : Int64) then (0 : Int32) else 1)) + (if n < (100000 : Int64) then (0 : Int32) else 1)) + (if n < (1000000 : Int64) then (0 : Int32) else 1)) + (if n < (10000000 : Int64) then (0 : Int32) else 1)))]))
  refine GoOn.step (fun t₀ k₀ => XS.aloadN X7.here hx rfl (hb hby d2_60) rfl rfl k₀) ?_
  show GoOn p e below _ (T7.setTop (mkF m 61 #[.val (.long n), .second, .val (.ref a)] [(.ref a), (.long n), (.int ((((((((1 : Int32) + (if n < (10 : Int64) then (0 : Int32) else 1)) + (if n < (100 : Int64) then (0 : Int32) else 1)) + (if n < (1000 : Int64) then (0 : Int32) else 1)) + (if n < (10000 : Int64) then (0 : Int32) else 1)) + (if n < (100000 : Int64) then (0 : Int32) else 1)) + (if n < (1000000 : Int64) then (0 : Int32) else 1)) + (if n < (10000000 : Int64) then (0 : Int32) else 1)))]))
  refine GoOn.step (fun t₀ k₀ => XS.bipush X7.here hx rfl (hb hby d2_61) k₀) ?_
  show GoOn p e below _ (T7.setTop (mkF m 63 #[.val (.long n), .second, .val (.ref a)] [(.int (8 : Int32)), (.ref a), (.long n), (.int ((((((((1 : Int32) + (if n < (10 : Int64) then (0 : Int32) else 1)) + (if n < (100 : Int64) then (0 : Int32) else 1)) + (if n < (1000 : Int64) then (0 : Int32) else 1)) + (if n < (10000 : Int64) then (0 : Int32) else 1)) + (if n < (100000 : Int64) then (0 : Int32) else 1)) + (if n < (1000000 : Int64) then (0 : Int32) else 1)) + (if n < (10000000 : Int64) then (0 : Int32) else 1)))]))
  refine GoOn.step (fun t₀ k₀ => kLdJ X7 hx hZ e7 F (j := (8 : Int32)) (v := (.long (100000000 : Int64))) ⟨by decide, by decide⟩ rfl (g := (mkF m 63 #[.val (.long n), .second, .val (.ref a)] [(.int (8 : Int32)), (.ref a), (.long n), (.int ((((((((1 : Int32) + (if n < (10 : Int64) then (0 : Int32) else 1)) + (if n < (100 : Int64) then (0 : Int32) else 1)) + (if n < (1000 : Int64) then (0 : Int32) else 1)) + (if n < (10000 : Int64) then (0 : Int32) else 1)) + (if n < (100000 : Int64) then (0 : Int32) else 1)) + (if n < (1000000 : Int64) then (0 : Int32) else 1)) + (if n < (10000000 : Int64) then (0 : Int32) else 1)))])) rfl rfl (hb hby d2_63) t₀ k₀) ?_
  show GoOn p e below _ (T7.setTop (mkF m 64 #[.val (.long n), .second, .val (.ref a)] [(.long (100000000 : Int64)), (.long n), (.int ((((((((1 : Int32) + (if n < (10 : Int64) then (0 : Int32) else 1)) + (if n < (100 : Int64) then (0 : Int32) else 1)) + (if n < (1000 : Int64) then (0 : Int32) else 1)) + (if n < (10000 : Int64) then (0 : Int32) else 1)) + (if n < (100000 : Int64) then (0 : Int32) else 1)) + (if n < (1000000 : Int64) then (0 : Int32) else 1)) + (if n < (10000000 : Int64) then (0 : Int32) else 1)))]))
  obtain ⟨_, T8, L8, X8, hQ8, st8⟩ := kCallS X7 hx hZ (argsL := [(.long n), (.long (100000000 : Int64))]) (rest := [(.int ((((((((1 : Int32) + (if n < (10 : Int64) then (0 : Int32) else 1)) + (if n < (100 : Int64) then (0 : Int32) else 1)) + (if n < (1000 : Int64) then (0 : Int32) else 1)) + (if n < (10000 : Int64) then (0 : Int32) else 1)) + (if n < (100000 : Int64) then (0 : Int32) else 1)) + (if n < (1000000 : Int64) then (0 : Int32) else 1)) + (if n < (10000000 : Int64) then (0 : Int32) else 1)))]) (c_ge l Z a0 hw n (100000000 : Int64) h0) hown (hw _ (List.mem_of_getElem? (i := 29) rfl)) (hw _ (List.mem_of_getElem? (i := 30) rfl)) (hw _ (List.mem_of_getElem? (i := 27) rfl)) (hw _ (List.mem_of_getElem? (i := 31) rfl)) (by decide) e7 (g := (mkF m 64 #[.val (.long n), .second, .val (.ref a)] [(.long (100000000 : Int64)), (.long n), (.int ((((((((1 : Int32) + (if n < (10 : Int64) then (0 : Int32) else 1)) + (if n < (100 : Int64) then (0 : Int32) else 1)) + (if n < (1000 : Int64) then (0 : Int32) else 1)) + (if n < (10000 : Int64) then (0 : Int32) else 1)) + (if n < (100000 : Int64) then (0 : Int32) else 1)) + (if n < (1000000 : Int64) then (0 : Int32) else 1)) + (if n < (10000000 : Int64) then (0 : Int32) else 1)))])) rfl (by rw [hml]; rfl) (lenOf pd_0 rfl) rfl (W := 1) (by show 2 * 0 + _ ≤ _; exact Nat.le_of_eq rfl) (hb hby d2_64) (by decide) (by decide) (by decide) (by decide)
  obtain ⟨rfl, rfl, e8⟩ := hQ8
  rw [List.append_nil] at X8
  refine GoOn.step st8 ?_
  show GoOn p e below _ (T8.setTop (mkF m 67 #[.val (.long n), .second, .val (.ref a)] [(.int (if n < (100000000 : Int64) then (0 : Int32) else 1)), (.int ((((((((1 : Int32) + (if n < (10 : Int64) then (0 : Int32) else 1)) + (if n < (100 : Int64) then (0 : Int32) else 1)) + (if n < (1000 : Int64) then (0 : Int32) else 1)) + (if n < (10000 : Int64) then (0 : Int32) else 1)) + (if n < (100000 : Int64) then (0 : Int32) else 1)) + (if n < (1000000 : Int64) then (0 : Int32) else 1)) + (if n < (10000000 : Int64) then (0 : Int32) else 1)))]))
  refine GoOn.step (fun t₀ k₀ => XS.iadd X8.here hx rfl (hb hby d2_67) rfl k₀) ?_
  show GoOn p e below _ (T8.setTop (mkF m 68 #[.val (.long n), .second, .val (.ref a)] [(.int (((((((((1 : Int32) + (if n < (10 : Int64) then (0 : Int32) else 1)) + (if n < (100 : Int64) then (0 : Int32) else 1)) + (if n < (1000 : Int64) then (0 : Int32) else 1)) + (if n < (10000 : Int64) then (0 : Int32) else 1)) + (if n < (100000 : Int64) then (0 : Int32) else 1)) + (if n < (1000000 : Int64) then (0 : Int32) else 1)) + (if n < (10000000 : Int64) then (0 : Int32) else 1)) + (if n < (100000000 : Int64) then (0 : Int32) else 1)))]))
  refine GoOn.step (fun t₀ k₀ => XS.lloadN X8.here hx rfl (hb hby d2_68) rfl k₀) ?_
  show GoOn p e below _ (T8.setTop (mkF m 69 #[.val (.long n), .second, .val (.ref a)] [(.long n), (.int (((((((((1 : Int32) + (if n < (10 : Int64) then (0 : Int32) else 1)) + (if n < (100 : Int64) then (0 : Int32) else 1)) + (if n < (1000 : Int64) then (0 : Int32) else 1)) + (if n < (10000 : Int64) then (0 : Int32) else 1)) + (if n < (100000 : Int64) then (0 : Int32) else 1)) + (if n < (1000000 : Int64) then (0 : Int32) else 1)) + (if n < (10000000 : Int64) then (0 : Int32) else 1)) + (if n < (100000000 : Int64) then (0 : Int32) else 1)))]))
  refine GoOn.step (fun t₀ k₀ => XS.aloadN X8.here hx rfl (hb hby d2_69) rfl rfl k₀) ?_
  show GoOn p e below _ (T8.setTop (mkF m 70 #[.val (.long n), .second, .val (.ref a)] [(.ref a), (.long n), (.int (((((((((1 : Int32) + (if n < (10 : Int64) then (0 : Int32) else 1)) + (if n < (100 : Int64) then (0 : Int32) else 1)) + (if n < (1000 : Int64) then (0 : Int32) else 1)) + (if n < (10000 : Int64) then (0 : Int32) else 1)) + (if n < (100000 : Int64) then (0 : Int32) else 1)) + (if n < (1000000 : Int64) then (0 : Int32) else 1)) + (if n < (10000000 : Int64) then (0 : Int32) else 1)) + (if n < (100000000 : Int64) then (0 : Int32) else 1)))]))
  refine GoOn.step (fun t₀ k₀ => XS.bipush X8.here hx rfl (hb hby d2_70) k₀) ?_
  show GoOn p e below _ (T8.setTop (mkF m 72 #[.val (.long n), .second, .val (.ref a)] [(.int (9 : Int32)), (.ref a), (.long n), (.int (((((((((1 : Int32) + (if n < (10 : Int64) then (0 : Int32) else 1)) + (if n < (100 : Int64) then (0 : Int32) else 1)) + (if n < (1000 : Int64) then (0 : Int32) else 1)) + (if n < (10000 : Int64) then (0 : Int32) else 1)) + (if n < (100000 : Int64) then (0 : Int32) else 1)) + (if n < (1000000 : Int64) then (0 : Int32) else 1)) + (if n < (10000000 : Int64) then (0 : Int32) else 1)) + (if n < (100000000 : Int64) then (0 : Int32) else 1)))]))
  refine GoOn.step (fun t₀ k₀ => kLdJ X8 hx hZ e8 F (j := (9 : Int32)) (v := (.long (1000000000 : Int64))) ⟨by decide, by decide⟩ rfl (g := (mkF m 72 #[.val (.long n), .second, .val (.ref a)] [(.int (9 : Int32)), (.ref a), (.long n), (.int (((((((((1 : Int32) + (if n < (10 : Int64) then (0 : Int32) else 1)) + (if n < (100 : Int64) then (0 : Int32) else 1)) + (if n < (1000 : Int64) then (0 : Int32) else 1)) + (if n < (10000 : Int64) then (0 : Int32) else 1)) + (if n < (100000 : Int64) then (0 : Int32) else 1)) + (if n < (1000000 : Int64) then (0 : Int32) else 1)) + (if n < (10000000 : Int64) then (0 : Int32) else 1)) + (if n < (100000000 : Int64) then (0 : Int32) else 1)))])) rfl rfl (hb hby d2_72) t₀ k₀) ?_
  show GoOn p e below _ (T8.setTop (mkF m 73 #[.val (.long n), .second, .val (.ref a)] [(.long (1000000000 : Int64)), (.long n), (.int (((((((((1 : Int32) + (if n < (10 : Int64) then (0 : Int32) else 1)) + (if n < (100 : Int64) then (0 : Int32) else 1)) + (if n < (1000 : Int64) then (0 : Int32) else 1)) + (if n < (10000 : Int64) then (0 : Int32) else 1)) + (if n < (100000 : Int64) then (0 : Int32) else 1)) + (if n < (1000000 : Int64) then (0 : Int32) else 1)) + (if n < (10000000 : Int64) then (0 : Int32) else 1)) + (if n < (100000000 : Int64) then (0 : Int32) else 1)))]))
  obtain ⟨_, T9, L9, X9, hQ9, st9⟩ := kCallS X8 hx hZ (argsL := [(.long n), (.long (1000000000 : Int64))]) (rest := [(.int (((((((((1 : Int32) + (if n < (10 : Int64) then (0 : Int32) else 1)) + (if n < (100 : Int64) then (0 : Int32) else 1)) + (if n < (1000 : Int64) then (0 : Int32) else 1)) + (if n < (10000 : Int64) then (0 : Int32) else 1)) + (if n < (100000 : Int64) then (0 : Int32) else 1)) + (if n < (1000000 : Int64) then (0 : Int32) else 1)) + (if n < (10000000 : Int64) then (0 : Int32) else 1)) + (if n < (100000000 : Int64) then (0 : Int32) else 1)))]) (c_ge l Z a0 hw n (1000000000 : Int64) h0) hown (hw _ (List.mem_of_getElem? (i := 29) rfl)) (hw _ (List.mem_of_getElem? (i := 30) rfl)) (hw _ (List.mem_of_getElem? (i := 27) rfl)) (hw _ (List.mem_of_getElem? (i := 31) rfl)) (by decide) e8 (g := (mkF m 73 #[.val (.long n), .second, .val (.ref a)] [(.long (1000000000 : Int64)), (.long n), (.int (((((((((1 : Int32) + (if n < (10 : Int64) then (0 : Int32) else 1)) + (if n < (100 : Int64) then (0 : Int32) else 1)) + (if n < (1000 : Int64) then (0 : Int32) else 1)) + (if n < (10000 : Int64) then (0 : Int32) else 1)) + (if n < (100000 : Int64) then (0 : Int32) else 1)) + (if n < (1000000 : Int64) then (0 : Int32) else 1)) + (if n < (10000000 : Int64) then (0 : Int32) else 1)) + (if n < (100000000 : Int64) then (0 : Int32) else 1)))])) rfl (by rw [hml]; rfl) (lenOf pd_0 rfl) rfl (W := 1) (by show 2 * 0 + _ ≤ _; exact Nat.le_of_eq rfl) (hb hby d2_73) (by decide) (by decide) (by decide) (by decide)
  obtain ⟨rfl, rfl, e9⟩ := hQ9
  rw [List.append_nil] at X9
  refine GoOn.step st9 ?_
  show GoOn p e below _ (T9.setTop (mkF m 76 #[.val (.long n), .second, .val (.ref a)] [(.int (if n < (1000000000 : Int64) then (0 : Int32) else 1)), (.int (((((((((1 : Int32) + (if n < (10 : Int64) then (0 : Int32) else 1)) + (if n < (100 : Int64) then (0 : Int32) else 1)) + (if n < (1000 : Int64) then (0 : Int32) else 1)) + (if n < (10000 : Int64) then (0 : Int32) else 1)) + (if n < (100000 : Int64) then (0 : Int32) else 1)) + (if n < (1000000 : Int64) then (0 : Int32) else 1)) + (if n < (10000000 : Int64) then (0 : Int32) else 1)) + (if n < (100000000 : Int64) then (0 : Int32) else 1)))]))
  refine GoOn.step (fun t₀ k₀ => XS.iadd X9.here hx rfl (hb hby d2_76) rfl k₀) ?_
  show GoOn p e below _ (T9.setTop (mkF m 77 #[.val (.long n), .second, .val (.ref a)] [(.int ((((((((((1 : Int32) + (if n < (10 : Int64) then (0 : Int32) else 1)) + (if n < (100 : Int64) then (0 : Int32) else 1)) + (if n < (1000 : Int64) then (0 : Int32) else 1)) + (if n < (10000 : Int64) then (0 : Int32) else 1)) + (if n < (100000 : Int64) then (0 : Int32) else 1)) + (if n < (1000000 : Int64) then (0 : Int32) else 1)) + (if n < (10000000 : Int64) then (0 : Int32) else 1)) + (if n < (100000000 : Int64) then (0 : Int32) else 1)) + (if n < (1000000000 : Int64) then (0 : Int32) else 1)))]))
  refine GoOn.step (fun t₀ k₀ => XS.lloadN X9.here hx rfl (hb hby d2_77) rfl k₀) ?_
  show GoOn p e below _ (T9.setTop (mkF m 78 #[.val (.long n), .second, .val (.ref a)] [(.long n), (.int ((((((((((1 : Int32) + (if n < (10 : Int64) then (0 : Int32) else 1)) + (if n < (100 : Int64) then (0 : Int32) else 1)) + (if n < (1000 : Int64) then (0 : Int32) else 1)) + (if n < (10000 : Int64) then (0 : Int32) else 1)) + (if n < (100000 : Int64) then (0 : Int32) else 1)) + (if n < (1000000 : Int64) then (0 : Int32) else 1)) + (if n < (10000000 : Int64) then (0 : Int32) else 1)) + (if n < (100000000 : Int64) then (0 : Int32) else 1)) + (if n < (1000000000 : Int64) then (0 : Int32) else 1)))]))
  refine GoOn.step (fun t₀ k₀ => XS.aloadN X9.here hx rfl (hb hby d2_78) rfl rfl k₀) ?_
  show GoOn p e below _ (T9.setTop (mkF m 79 #[.val (.long n), .second, .val (.ref a)] [(.ref a), (.long n), (.int ((((((((((1 : Int32) + (if n < (10 : Int64) then (0 : Int32) else 1)) + (if n < (100 : Int64) then (0 : Int32) else 1)) + (if n < (1000 : Int64) then (0 : Int32) else 1)) + (if n < (10000 : Int64) then (0 : Int32) else 1)) + (if n < (100000 : Int64) then (0 : Int32) else 1)) + (if n < (1000000 : Int64) then (0 : Int32) else 1)) + (if n < (10000000 : Int64) then (0 : Int32) else 1)) + (if n < (100000000 : Int64) then (0 : Int32) else 1)) + (if n < (1000000000 : Int64) then (0 : Int32) else 1)))]))
  refine GoOn.step (fun t₀ k₀ => XS.bipush X9.here hx rfl (hb hby d2_79) k₀) ?_
  show GoOn p e below _ (T9.setTop (mkF m 81 #[.val (.long n), .second, .val (.ref a)] [(.int (10 : Int32)), (.ref a), (.long n), (.int ((((((((((1 : Int32) + (if n < (10 : Int64) then (0 : Int32) else 1)) + (if n < (100 : Int64) then (0 : Int32) else 1)) + (if n < (1000 : Int64) then (0 : Int32) else 1)) + (if n < (10000 : Int64) then (0 : Int32) else 1)) + (if n < (100000 : Int64) then (0 : Int32) else 1)) + (if n < (1000000 : Int64) then (0 : Int32) else 1)) + (if n < (10000000 : Int64) then (0 : Int32) else 1)) + (if n < (100000000 : Int64) then (0 : Int32) else 1)) + (if n < (1000000000 : Int64) then (0 : Int32) else 1)))]))
  refine GoOn.step (fun t₀ k₀ => kLdJ X9 hx hZ e9 F (j := (10 : Int32)) (v := (.long (10000000000 : Int64))) ⟨by decide, by decide⟩ rfl (g := (mkF m 81 #[.val (.long n), .second, .val (.ref a)] [(.int (10 : Int32)), (.ref a), (.long n), (.int ((((((((((1 : Int32) + (if n < (10 : Int64) then (0 : Int32) else 1)) + (if n < (100 : Int64) then (0 : Int32) else 1)) + (if n < (1000 : Int64) then (0 : Int32) else 1)) + (if n < (10000 : Int64) then (0 : Int32) else 1)) + (if n < (100000 : Int64) then (0 : Int32) else 1)) + (if n < (1000000 : Int64) then (0 : Int32) else 1)) + (if n < (10000000 : Int64) then (0 : Int32) else 1)) + (if n < (100000000 : Int64) then (0 : Int32) else 1)) + (if n < (1000000000 : Int64) then (0 : Int32) else 1)))])) rfl rfl (hb hby d2_81) t₀ k₀) ?_
  show GoOn p e below _ (T9.setTop (mkF m 82 #[.val (.long n), .second, .val (.ref a)] [(.long (10000000000 : Int64)), (.long n), (.int ((((((((((1 : Int32) + (if n < (10 : Int64) then (0 : Int32) else 1)) + (if n < (100 : Int64) then (0 : Int32) else 1)) + (if n < (1000 : Int64) then (0 : Int32) else 1)) + (if n < (10000 : Int64) then (0 : Int32) else 1)) + (if n < (100000 : Int64) then (0 : Int32) else 1)) + (if n < (1000000 : Int64) then (0 : Int32) else 1)) + (if n < (10000000 : Int64) then (0 : Int32) else 1)) + (if n < (100000000 : Int64) then (0 : Int32) else 1)) + (if n < (1000000000 : Int64) then (0 : Int32) else 1)))]))
  obtain ⟨_, T10, L10, X10, hQ10, st10⟩ := kCallS X9 hx hZ (argsL := [(.long n), (.long (10000000000 : Int64))]) (rest := [(.int ((((((((((1 : Int32) + (if n < (10 : Int64) then (0 : Int32) else 1)) + (if n < (100 : Int64) then (0 : Int32) else 1)) + (if n < (1000 : Int64) then (0 : Int32) else 1)) + (if n < (10000 : Int64) then (0 : Int32) else 1)) + (if n < (100000 : Int64) then (0 : Int32) else 1)) + (if n < (1000000 : Int64) then (0 : Int32) else 1)) + (if n < (10000000 : Int64) then (0 : Int32) else 1)) + (if n < (100000000 : Int64) then (0 : Int32) else 1)) + (if n < (1000000000 : Int64) then (0 : Int32) else 1)))]) (c_ge l Z a0 hw n (10000000000 : Int64) h0) hown (hw _ (List.mem_of_getElem? (i := 29) rfl)) (hw _ (List.mem_of_getElem? (i := 30) rfl)) (hw _ (List.mem_of_getElem? (i := 27) rfl)) (hw _ (List.mem_of_getElem? (i := 31) rfl)) (by decide) e9 (g := (mkF m 82 #[.val (.long n), .second, .val (.ref a)] [(.long (10000000000 : Int64)), (.long n), (.int ((((((((((1 : Int32) + (if n < (10 : Int64) then (0 : Int32) else 1)) + (if n < (100 : Int64) then (0 : Int32) else 1)) + (if n < (1000 : Int64) then (0 : Int32) else 1)) + (if n < (10000 : Int64) then (0 : Int32) else 1)) + (if n < (100000 : Int64) then (0 : Int32) else 1)) + (if n < (1000000 : Int64) then (0 : Int32) else 1)) + (if n < (10000000 : Int64) then (0 : Int32) else 1)) + (if n < (100000000 : Int64) then (0 : Int32) else 1)) + (if n < (1000000000 : Int64) then (0 : Int32) else 1)))])) rfl (by rw [hml]; rfl) (lenOf pd_0 rfl) rfl (W := 1) (by show 2 * 0 + _ ≤ _; exact Nat.le_of_eq rfl) (hb hby d2_82) (by decide) (by decide) (by decide) (by decide)
  obtain ⟨rfl, rfl, e10⟩ := hQ10
  rw [List.append_nil] at X10
  refine GoOn.step st10 ?_
  show GoOn p e below _ (T10.setTop (mkF m 85 #[.val (.long n), .second, .val (.ref a)] [(.int (if n < (10000000000 : Int64) then (0 : Int32) else 1)), (.int ((((((((((1 : Int32) + (if n < (10 : Int64) then (0 : Int32) else 1)) + (if n < (100 : Int64) then (0 : Int32) else 1)) + (if n < (1000 : Int64) then (0 : Int32) else 1)) + (if n < (10000 : Int64) then (0 : Int32) else 1)) + (if n < (100000 : Int64) then (0 : Int32) else 1)) + (if n < (1000000 : Int64) then (0 : Int32) else 1)) + (if n < (10000000 : Int64) then (0 : Int32) else 1)) + (if n < (100000000 : Int64) then (0 : Int32) else 1)) + (if n < (1000000000 : Int64) then (0 : Int32) else 1)))]))
  refine GoOn.step (fun t₀ k₀ => XS.iadd X10.here hx rfl (hb hby d2_85) rfl k₀) ?_
  show GoOn p e below _ (T10.setTop (mkF m 86 #[.val (.long n), .second, .val (.ref a)] [(.int (((((((((((1 : Int32) + (if n < (10 : Int64) then (0 : Int32) else 1)) + (if n < (100 : Int64) then (0 : Int32) else 1)) + (if n < (1000 : Int64) then (0 : Int32) else 1)) + (if n < (10000 : Int64) then (0 : Int32) else 1)) + (if n < (100000 : Int64) then (0 : Int32) else 1)) + (if n < (1000000 : Int64) then (0 : Int32) else 1)) + (if n < (10000000 : Int64) then (0 : Int32) else 1)) + (if n < (100000000 : Int64) then (0 : Int32) else 1)) + (if n < (1000000000 : Int64) then (0 : Int32) else 1)) + (if n < (10000000000 : Int64) then (0 : Int32) else 1)))]))
  refine GoOn.step (fun t₀ k₀ => XS.lloadN X10.here hx rfl (hb hby d2_86) rfl k₀) ?_
  show GoOn p e below _ (T10.setTop (mkF m 87 #[.val (.long n), .second, .val (.ref a)] [(.long n), (.int (((((((((((1 : Int32) + (if n < (10 : Int64) then (0 : Int32) else 1)) + (if n < (100 : Int64) then (0 : Int32) else 1)) + (if n < (1000 : Int64) then (0 : Int32) else 1)) + (if n < (10000 : Int64) then (0 : Int32) else 1)) + (if n < (100000 : Int64) then (0 : Int32) else 1)) + (if n < (1000000 : Int64) then (0 : Int32) else 1)) + (if n < (10000000 : Int64) then (0 : Int32) else 1)) + (if n < (100000000 : Int64) then (0 : Int32) else 1)) + (if n < (1000000000 : Int64) then (0 : Int32) else 1)) + (if n < (10000000000 : Int64) then (0 : Int32) else 1)))]))
  refine GoOn.step (fun t₀ k₀ => XS.aloadN X10.here hx rfl (hb hby d2_87) rfl rfl k₀) ?_
  show GoOn p e below _ (T10.setTop (mkF m 88 #[.val (.long n), .second, .val (.ref a)] [(.ref a), (.long n), (.int (((((((((((1 : Int32) + (if n < (10 : Int64) then (0 : Int32) else 1)) + (if n < (100 : Int64) then (0 : Int32) else 1)) + (if n < (1000 : Int64) then (0 : Int32) else 1)) + (if n < (10000 : Int64) then (0 : Int32) else 1)) + (if n < (100000 : Int64) then (0 : Int32) else 1)) + (if n < (1000000 : Int64) then (0 : Int32) else 1)) + (if n < (10000000 : Int64) then (0 : Int32) else 1)) + (if n < (100000000 : Int64) then (0 : Int32) else 1)) + (if n < (1000000000 : Int64) then (0 : Int32) else 1)) + (if n < (10000000000 : Int64) then (0 : Int32) else 1)))]))
  refine GoOn.step (fun t₀ k₀ => XS.bipush X10.here hx rfl (hb hby d2_88) k₀) ?_
  show GoOn p e below _ (T10.setTop (mkF m 90 #[.val (.long n), .second, .val (.ref a)] [(.int (11 : Int32)), (.ref a), (.long n), (.int (((((((((((1 : Int32) + (if n < (10 : Int64) then (0 : Int32) else 1)) + (if n < (100 : Int64) then (0 : Int32) else 1)) + (if n < (1000 : Int64) then (0 : Int32) else 1)) + (if n < (10000 : Int64) then (0 : Int32) else 1)) + (if n < (100000 : Int64) then (0 : Int32) else 1)) + (if n < (1000000 : Int64) then (0 : Int32) else 1)) + (if n < (10000000 : Int64) then (0 : Int32) else 1)) + (if n < (100000000 : Int64) then (0 : Int32) else 1)) + (if n < (1000000000 : Int64) then (0 : Int32) else 1)) + (if n < (10000000000 : Int64) then (0 : Int32) else 1)))]))
  refine GoOn.step (fun t₀ k₀ => kLdJ X10 hx hZ e10 F (j := (11 : Int32)) (v := (.long (100000000000 : Int64))) ⟨by decide, by decide⟩ rfl (g := (mkF m 90 #[.val (.long n), .second, .val (.ref a)] [(.int (11 : Int32)), (.ref a), (.long n), (.int (((((((((((1 : Int32) + (if n < (10 : Int64) then (0 : Int32) else 1)) + (if n < (100 : Int64) then (0 : Int32) else 1)) + (if n < (1000 : Int64) then (0 : Int32) else 1)) + (if n < (10000 : Int64) then (0 : Int32) else 1)) + (if n < (100000 : Int64) then (0 : Int32) else 1)) + (if n < (1000000 : Int64) then (0 : Int32) else 1)) + (if n < (10000000 : Int64) then (0 : Int32) else 1)) + (if n < (100000000 : Int64) then (0 : Int32) else 1)) + (if n < (1000000000 : Int64) then (0 : Int32) else 1)) + (if n < (10000000000 : Int64) then (0 : Int32) else 1)))])) rfl rfl (hb hby d2_90) t₀ k₀) ?_
  show GoOn p e below _ (T10.setTop (mkF m 91 #[.val (.long n), .second, .val (.ref a)] [(.long (100000000000 : Int64)), (.long n), (.int (((((((((((1 : Int32) + (if n < (10 : Int64) then (0 : Int32) else 1)) + (if n < (100 : Int64) then (0 : Int32) else 1)) + (if n < (1000 : Int64) then (0 : Int32) else 1)) + (if n < (10000 : Int64) then (0 : Int32) else 1)) + (if n < (100000 : Int64) then (0 : Int32) else 1)) + (if n < (1000000 : Int64) then (0 : Int32) else 1)) + (if n < (10000000 : Int64) then (0 : Int32) else 1)) + (if n < (100000000 : Int64) then (0 : Int32) else 1)) + (if n < (1000000000 : Int64) then (0 : Int32) else 1)) + (if n < (10000000000 : Int64) then (0 : Int32) else 1)))]))
  obtain ⟨_, T11, L11, X11, hQ11, st11⟩ := kCallS X10 hx hZ (argsL := [(.long n), (.long (100000000000 : Int64))]) (rest := [(.int (((((((((((1 : Int32) + (if n < (10 : Int64) then (0 : Int32) else 1)) + (if n < (100 : Int64) then (0 : Int32) else 1)) + (if n < (1000 : Int64) then (0 : Int32) else 1)) + (if n < (10000 : Int64) then (0 : Int32) else 1)) + (if n < (100000 : Int64) then (0 : Int32) else 1)) + (if n < (1000000 : Int64) then (0 : Int32) else 1)) + (if n < (10000000 : Int64) then (0 : Int32) else 1)) + (if n < (100000000 : Int64) then (0 : Int32) else 1)) + (if n < (1000000000 : Int64) then (0 : Int32) else 1)) + (if n < (10000000000 : Int64) then (0 : Int32) else 1)))]) (c_ge l Z a0 hw n (100000000000 : Int64) h0) hown (hw _ (List.mem_of_getElem? (i := 29) rfl)) (hw _ (List.mem_of_getElem? (i := 30) rfl)) (hw _ (List.mem_of_getElem? (i := 27) rfl)) (hw _ (List.mem_of_getElem? (i := 31) rfl)) (by decide) e10 (g := (mkF m 91 #[.val (.long n), .second, .val (.ref a)] [(.long (100000000000 : Int64)), (.long n), (.int (((((((((((1 : Int32) + (if n < (10 : Int64) then (0 : Int32) else 1)) + (if n < (100 : Int64) then (0 : Int32) else 1)) + (if n < (1000 : Int64) then (0 : Int32) else 1)) + (if n < (10000 : Int64) then (0 : Int32) else 1)) + (if n < (100000 : Int64) then (0 : Int32) else 1)) + (if n < (1000000 : Int64) then (0 : Int32) else 1)) + (if n < (10000000 : Int64) then (0 : Int32) else 1)) + (if n < (100000000 : Int64) then (0 : Int32) else 1)) + (if n < (1000000000 : Int64) then (0 : Int32) else 1)) + (if n < (10000000000 : Int64) then (0 : Int32) else 1)))])) rfl (by rw [hml]; rfl) (lenOf pd_0 rfl) rfl (W := 1) (by show 2 * 0 + _ ≤ _; exact Nat.le_of_eq rfl) (hb hby d2_91) (by decide) (by decide) (by decide) (by decide)
  obtain ⟨rfl, rfl, e11⟩ := hQ11
  rw [List.append_nil] at X11
  refine GoOn.step st11 ?_
  show GoOn p e below _ (T11.setTop (mkF m 94 #[.val (.long n), .second, .val (.ref a)] [(.int (if n < (100000000000 : Int64) then (0 : Int32) else 1)), (.int (((((((((((1 : Int32) + (if n < (10 : Int64) then (0 : Int32) else 1)) + (if n < (100 : Int64) then (0 : Int32) else 1)) + (if n < (1000 : Int64) then (0 : Int32) else 1)) + (if n < (10000 : Int64) then (0 : Int32) else 1)) + (if n < (100000 : Int64) then (0 : Int32) else 1)) + (if n < (1000000 : Int64) then (0 : Int32) else 1)) + (if n < (10000000 : Int64) then (0 : Int32) else 1)) + (if n < (100000000 : Int64) then (0 : Int32) else 1)) + (if n < (1000000000 : Int64) then (0 : Int32) else 1)) + (if n < (10000000000 : Int64) then (0 : Int32) else 1)))]))
  refine GoOn.step (fun t₀ k₀ => XS.iadd X11.here hx rfl (hb hby d2_94) rfl k₀) ?_
  show GoOn p e below _ (T11.setTop (mkF m 95 #[.val (.long n), .second, .val (.ref a)] [(.int ((((((((((((1 : Int32) + (if n < (10 : Int64) then (0 : Int32) else 1)) + (if n < (100 : Int64) then (0 : Int32) else 1)) + (if n < (1000 : Int64) then (0 : Int32) else 1)) + (if n < (10000 : Int64) then (0 : Int32) else 1)) + (if n < (100000 : Int64) then (0 : Int32) else 1)) + (if n < (1000000 : Int64) then (0 : Int32) else 1)) + (if n < (10000000 : Int64) then (0 : Int32) else 1)) + (if n < (100000000 : Int64) then (0 : Int32) else 1)) + (if n < (1000000000 : Int64) then (0 : Int32) else 1)) + (if n < (10000000000 : Int64) then (0 : Int32) else 1)) + (if n < (100000000000 : Int64) then (0 : Int32) else 1)))]))
  refine GoOn.step (fun t₀ k₀ => XS.lloadN X11.here hx rfl (hb hby d2_95) rfl k₀) ?_
  show GoOn p e below _ (T11.setTop (mkF m 96 #[.val (.long n), .second, .val (.ref a)] [(.long n), (.int ((((((((((((1 : Int32) + (if n < (10 : Int64) then (0 : Int32) else 1)) + (if n < (100 : Int64) then (0 : Int32) else 1)) + (if n < (1000 : Int64) then (0 : Int32) else 1)) + (if n < (10000 : Int64) then (0 : Int32) else 1)) + (if n < (100000 : Int64) then (0 : Int32) else 1)) + (if n < (1000000 : Int64) then (0 : Int32) else 1)) + (if n < (10000000 : Int64) then (0 : Int32) else 1)) + (if n < (100000000 : Int64) then (0 : Int32) else 1)) + (if n < (1000000000 : Int64) then (0 : Int32) else 1)) + (if n < (10000000000 : Int64) then (0 : Int32) else 1)) + (if n < (100000000000 : Int64) then (0 : Int32) else 1)))]))
  refine GoOn.step (fun t₀ k₀ => XS.aloadN X11.here hx rfl (hb hby d2_96) rfl rfl k₀) ?_
  show GoOn p e below _ (T11.setTop (mkF m 97 #[.val (.long n), .second, .val (.ref a)] [(.ref a), (.long n), (.int ((((((((((((1 : Int32) + (if n < (10 : Int64) then (0 : Int32) else 1)) + (if n < (100 : Int64) then (0 : Int32) else 1)) + (if n < (1000 : Int64) then (0 : Int32) else 1)) + (if n < (10000 : Int64) then (0 : Int32) else 1)) + (if n < (100000 : Int64) then (0 : Int32) else 1)) + (if n < (1000000 : Int64) then (0 : Int32) else 1)) + (if n < (10000000 : Int64) then (0 : Int32) else 1)) + (if n < (100000000 : Int64) then (0 : Int32) else 1)) + (if n < (1000000000 : Int64) then (0 : Int32) else 1)) + (if n < (10000000000 : Int64) then (0 : Int32) else 1)) + (if n < (100000000000 : Int64) then (0 : Int32) else 1)))]))
  refine GoOn.step (fun t₀ k₀ => XS.bipush X11.here hx rfl (hb hby d2_97) k₀) ?_
  show GoOn p e below _ (T11.setTop (mkF m 99 #[.val (.long n), .second, .val (.ref a)] [(.int (12 : Int32)), (.ref a), (.long n), (.int ((((((((((((1 : Int32) + (if n < (10 : Int64) then (0 : Int32) else 1)) + (if n < (100 : Int64) then (0 : Int32) else 1)) + (if n < (1000 : Int64) then (0 : Int32) else 1)) + (if n < (10000 : Int64) then (0 : Int32) else 1)) + (if n < (100000 : Int64) then (0 : Int32) else 1)) + (if n < (1000000 : Int64) then (0 : Int32) else 1)) + (if n < (10000000 : Int64) then (0 : Int32) else 1)) + (if n < (100000000 : Int64) then (0 : Int32) else 1)) + (if n < (1000000000 : Int64) then (0 : Int32) else 1)) + (if n < (10000000000 : Int64) then (0 : Int32) else 1)) + (if n < (100000000000 : Int64) then (0 : Int32) else 1)))]))
  refine GoOn.step (fun t₀ k₀ => kLdJ X11 hx hZ e11 F (j := (12 : Int32)) (v := (.long (1000000000000 : Int64))) ⟨by decide, by decide⟩ rfl (g := (mkF m 99 #[.val (.long n), .second, .val (.ref a)] [(.int (12 : Int32)), (.ref a), (.long n), (.int ((((((((((((1 : Int32) + (if n < (10 : Int64) then (0 : Int32) else 1)) + (if n < (100 : Int64) then (0 : Int32) else 1)) + (if n < (1000 : Int64) then (0 : Int32) else 1)) + (if n < (10000 : Int64) then (0 : Int32) else 1)) + (if n < (100000 : Int64) then (0 : Int32) else 1)) + (if n < (1000000 : Int64) then (0 : Int32) else 1)) + (if n < (10000000 : Int64) then (0 : Int32) else 1)) + (if n < (100000000 : Int64) then (0 : Int32) else 1)) + (if n < (1000000000 : Int64) then (0 : Int32) else 1)) + (if n < (10000000000 : Int64) then (0 : Int32) else 1)) + (if n < (100000000000 : Int64) then (0 : Int32) else 1)))])) rfl rfl (hb hby d2_99) t₀ k₀) ?_
  show GoOn p e below _ (T11.setTop (mkF m 100 #[.val (.long n), .second, .val (.ref a)] [(.long (1000000000000 : Int64)), (.long n), (.int ((((((((((((1 : Int32) + (if n < (10 : Int64) then (0 : Int32) else 1)) + (if n < (100 : Int64) then (0 : Int32) else 1)) + (if n < (1000 : Int64) then (0 : Int32) else 1)) + (if n < (10000 : Int64) then (0 : Int32) else 1)) + (if n < (100000 : Int64) then (0 : Int32) else 1)) + (if n < (1000000 : Int64) then (0 : Int32) else 1)) + (if n < (10000000 : Int64) then (0 : Int32) else 1)) + (if n < (100000000 : Int64) then (0 : Int32) else 1)) + (if n < (1000000000 : Int64) then (0 : Int32) else 1)) + (if n < (10000000000 : Int64) then (0 : Int32) else 1)) + (if n < (100000000000 : Int64) then (0 : Int32) else 1)))]))
  obtain ⟨_, T12, L12, X12, hQ12, st12⟩ := kCallS X11 hx hZ (argsL := [(.long n), (.long (1000000000000 : Int64))]) (rest := [(.int ((((((((((((1 : Int32) + (if n < (10 : Int64) then (0 : Int32) else 1)) + (if n < (100 : Int64) then (0 : Int32) else 1)) + (if n < (1000 : Int64) then (0 : Int32) else 1)) + (if n < (10000 : Int64) then (0 : Int32) else 1)) + (if n < (100000 : Int64) then (0 : Int32) else 1)) + (if n < (1000000 : Int64) then (0 : Int32) else 1)) + (if n < (10000000 : Int64) then (0 : Int32) else 1)) + (if n < (100000000 : Int64) then (0 : Int32) else 1)) + (if n < (1000000000 : Int64) then (0 : Int32) else 1)) + (if n < (10000000000 : Int64) then (0 : Int32) else 1)) + (if n < (100000000000 : Int64) then (0 : Int32) else 1)))]) (c_ge l Z a0 hw n (1000000000000 : Int64) h0) hown (hw _ (List.mem_of_getElem? (i := 29) rfl)) (hw _ (List.mem_of_getElem? (i := 30) rfl)) (hw _ (List.mem_of_getElem? (i := 27) rfl)) (hw _ (List.mem_of_getElem? (i := 31) rfl)) (by decide) e11 (g := (mkF m 100 #[.val (.long n), .second, .val (.ref a)] [(.long (1000000000000 : Int64)), (.long n), (.int ((((((((((((1 : Int32) + (if n < (10 : Int64) then (0 : Int32) else 1)) + (if n < (100 : Int64) then (0 : Int32) else 1)) + (if n < (1000 : Int64) then (0 : Int32) else 1)) + (if n < (10000 : Int64) then (0 : Int32) else 1)) + (if n < (100000 : Int64) then (0 : Int32) else 1)) + (if n < (1000000 : Int64) then (0 : Int32) else 1)) + (if n < (10000000 : Int64) then (0 : Int32) else 1)) + (if n < (100000000 : Int64) then (0 : Int32) else 1)) + (if n < (1000000000 : Int64) then (0 : Int32) else 1)) + (if n < (10000000000 : Int64) then (0 : Int32) else 1)) + (if n < (100000000000 : Int64) then (0 : Int32) else 1)))])) rfl (by rw [hml]; rfl) (lenOf pd_0 rfl) rfl (W := 1) (by show 2 * 0 + _ ≤ _; exact Nat.le_of_eq rfl) (hb hby d2_100) (by decide) (by decide) (by decide) (by decide)
  obtain ⟨rfl, rfl, e12⟩ := hQ12
  rw [List.append_nil] at X12
  refine GoOn.step st12 ?_
  show GoOn p e below _ (T12.setTop (mkF m 103 #[.val (.long n), .second, .val (.ref a)] [(.int (if n < (1000000000000 : Int64) then (0 : Int32) else 1)), (.int ((((((((((((1 : Int32) + (if n < (10 : Int64) then (0 : Int32) else 1)) + (if n < (100 : Int64) then (0 : Int32) else 1)) + (if n < (1000 : Int64) then (0 : Int32) else 1)) + (if n < (10000 : Int64) then (0 : Int32) else 1)) + (if n < (100000 : Int64) then (0 : Int32) else 1)) + (if n < (1000000 : Int64) then (0 : Int32) else 1)) + (if n < (10000000 : Int64) then (0 : Int32) else 1)) + (if n < (100000000 : Int64) then (0 : Int32) else 1)) + (if n < (1000000000 : Int64) then (0 : Int32) else 1)) + (if n < (10000000000 : Int64) then (0 : Int32) else 1)) + (if n < (100000000000 : Int64) then (0 : Int32) else 1)))]))
  refine GoOn.step (fun t₀ k₀ => XS.iadd X12.here hx rfl (hb hby d2_103) rfl k₀) ?_
  show GoOn p e below _ (T12.setTop (mkF m 104 #[.val (.long n), .second, .val (.ref a)] [(.int (((((((((((((1 : Int32) + (if n < (10 : Int64) then (0 : Int32) else 1)) + (if n < (100 : Int64) then (0 : Int32) else 1)) + (if n < (1000 : Int64) then (0 : Int32) else 1)) + (if n < (10000 : Int64) then (0 : Int32) else 1)) + (if n < (100000 : Int64) then (0 : Int32) else 1)) + (if n < (1000000 : Int64) then (0 : Int32) else 1)) + (if n < (10000000 : Int64) then (0 : Int32) else 1)) + (if n < (100000000 : Int64) then (0 : Int32) else 1)) + (if n < (1000000000 : Int64) then (0 : Int32) else 1)) + (if n < (10000000000 : Int64) then (0 : Int32) else 1)) + (if n < (100000000000 : Int64) then (0 : Int32) else 1)) + (if n < (1000000000000 : Int64) then (0 : Int32) else 1)))]))
  refine GoOn.step (fun t₀ k₀ => XS.lloadN X12.here hx rfl (hb hby d2_104) rfl k₀) ?_
  show GoOn p e below _ (T12.setTop (mkF m 105 #[.val (.long n), .second, .val (.ref a)] [(.long n), (.int (((((((((((((1 : Int32) + (if n < (10 : Int64) then (0 : Int32) else 1)) + (if n < (100 : Int64) then (0 : Int32) else 1)) + (if n < (1000 : Int64) then (0 : Int32) else 1)) + (if n < (10000 : Int64) then (0 : Int32) else 1)) + (if n < (100000 : Int64) then (0 : Int32) else 1)) + (if n < (1000000 : Int64) then (0 : Int32) else 1)) + (if n < (10000000 : Int64) then (0 : Int32) else 1)) + (if n < (100000000 : Int64) then (0 : Int32) else 1)) + (if n < (1000000000 : Int64) then (0 : Int32) else 1)) + (if n < (10000000000 : Int64) then (0 : Int32) else 1)) + (if n < (100000000000 : Int64) then (0 : Int32) else 1)) + (if n < (1000000000000 : Int64) then (0 : Int32) else 1)))]))
  refine GoOn.step (fun t₀ k₀ => XS.aloadN X12.here hx rfl (hb hby d2_105) rfl rfl k₀) ?_
  show GoOn p e below _ (T12.setTop (mkF m 106 #[.val (.long n), .second, .val (.ref a)] [(.ref a), (.long n), (.int (((((((((((((1 : Int32) + (if n < (10 : Int64) then (0 : Int32) else 1)) + (if n < (100 : Int64) then (0 : Int32) else 1)) + (if n < (1000 : Int64) then (0 : Int32) else 1)) + (if n < (10000 : Int64) then (0 : Int32) else 1)) + (if n < (100000 : Int64) then (0 : Int32) else 1)) + (if n < (1000000 : Int64) then (0 : Int32) else 1)) + (if n < (10000000 : Int64) then (0 : Int32) else 1)) + (if n < (100000000 : Int64) then (0 : Int32) else 1)) + (if n < (1000000000 : Int64) then (0 : Int32) else 1)) + (if n < (10000000000 : Int64) then (0 : Int32) else 1)) + (if n < (100000000000 : Int64) then (0 : Int32) else 1)) + (if n < (1000000000000 : Int64) then (0 : Int32) else 1)))]))
  refine GoOn.step (fun t₀ k₀ => XS.bipush X12.here hx rfl (hb hby d2_106) k₀) ?_
  show GoOn p e below _ (T12.setTop (mkF m 108 #[.val (.long n), .second, .val (.ref a)] [(.int (13 : Int32)), (.ref a), (.long n), (.int (((((((((((((1 : Int32) + (if n < (10 : Int64) then (0 : Int32) else 1)) + (if n < (100 : Int64) then (0 : Int32) else 1)) + (if n < (1000 : Int64) then (0 : Int32) else 1)) + (if n < (10000 : Int64) then (0 : Int32) else 1)) + (if n < (100000 : Int64) then (0 : Int32) else 1)) + (if n < (1000000 : Int64) then (0 : Int32) else 1)) + (if n < (10000000 : Int64) then (0 : Int32) else 1)) + (if n < (100000000 : Int64) then (0 : Int32) else 1)) + (if n < (1000000000 : Int64) then (0 : Int32) else 1)) + (if n < (10000000000 : Int64) then (0 : Int32) else 1)) + (if n < (100000000000 : Int64) then (0 : Int32) else 1)) + (if n < (1000000000000 : Int64) then (0 : Int32) else 1)))]))
  refine GoOn.step (fun t₀ k₀ => kLdJ X12 hx hZ e12 F (j := (13 : Int32)) (v := (.long (10000000000000 : Int64))) ⟨by decide, by decide⟩ rfl (g := (mkF m 108 #[.val (.long n), .second, .val (.ref a)] [(.int (13 : Int32)), (.ref a), (.long n), (.int (((((((((((((1 : Int32) + (if n < (10 : Int64) then (0 : Int32) else 1)) + (if n < (100 : Int64) then (0 : Int32) else 1)) + (if n < (1000 : Int64) then (0 : Int32) else 1)) + (if n < (10000 : Int64) then (0 : Int32) else 1)) + (if n < (100000 : Int64) then (0 : Int32) else 1)) + (if n < (1000000 : Int64) then (0 : Int32) else 1)) + (if n < (10000000 : Int64) then (0 : Int32) else 1)) + (if n < (100000000 : Int64) then (0 : Int32) else 1)) + (if n < (1000000000 : Int64) then (0 : Int32) else 1)) + (if n < (10000000000 : Int64) then (0 : Int32) else 1)) + (if n < (100000000000 : Int64) then (0 : Int32) else 1)) + (if n < (1000000000000 : Int64) then (0 : Int32) else 1)))])) rfl rfl (hb hby d2_108) t₀ k₀) ?_
  show GoOn p e below _ (T12.setTop (mkF m 109 #[.val (.long n), .second, .val (.ref a)] [(.long (10000000000000 : Int64)), (.long n), (.int (((((((((((((1 : Int32) + (if n < (10 : Int64) then (0 : Int32) else 1)) + (if n < (100 : Int64) then (0 : Int32) else 1)) + (if n < (1000 : Int64) then (0 : Int32) else 1)) + (if n < (10000 : Int64) then (0 : Int32) else 1)) + (if n < (100000 : Int64) then (0 : Int32) else 1)) + (if n < (1000000 : Int64) then (0 : Int32) else 1)) + (if n < (10000000 : Int64) then (0 : Int32) else 1)) + (if n < (100000000 : Int64) then (0 : Int32) else 1)) + (if n < (1000000000 : Int64) then (0 : Int32) else 1)) + (if n < (10000000000 : Int64) then (0 : Int32) else 1)) + (if n < (100000000000 : Int64) then (0 : Int32) else 1)) + (if n < (1000000000000 : Int64) then (0 : Int32) else 1)))]))
  obtain ⟨_, T13, L13, X13, hQ13, st13⟩ := kCallS X12 hx hZ (argsL := [(.long n), (.long (10000000000000 : Int64))]) (rest := [(.int (((((((((((((1 : Int32) + (if n < (10 : Int64) then (0 : Int32) else 1)) + (if n < (100 : Int64) then (0 : Int32) else 1)) + (if n < (1000 : Int64) then (0 : Int32) else 1)) + (if n < (10000 : Int64) then (0 : Int32) else 1)) + (if n < (100000 : Int64) then (0 : Int32) else 1)) + (if n < (1000000 : Int64) then (0 : Int32) else 1)) + (if n < (10000000 : Int64) then (0 : Int32) else 1)) + (if n < (100000000 : Int64) then (0 : Int32) else 1)) + (if n < (1000000000 : Int64) then (0 : Int32) else 1)) + (if n < (10000000000 : Int64) then (0 : Int32) else 1)) + (if n < (100000000000 : Int64) then (0 : Int32) else 1)) + (if n < (1000000000000 : Int64) then (0 : Int32) else 1)))]) (c_ge l Z a0 hw n (10000000000000 : Int64) h0) hown (hw _ (List.mem_of_getElem? (i := 29) rfl)) (hw _ (List.mem_of_getElem? (i := 30) rfl)) (hw _ (List.mem_of_getElem? (i := 27) rfl)) (hw _ (List.mem_of_getElem? (i := 31) rfl)) (by decide) e12 (g := (mkF m 109 #[.val (.long n), .second, .val (.ref a)] [(.long (10000000000000 : Int64)), (.long n), (.int (((((((((((((1 : Int32) + (if n < (10 : Int64) then (0 : Int32) else 1)) + (if n < (100 : Int64) then (0 : Int32) else 1)) + (if n < (1000 : Int64) then (0 : Int32) else 1)) + (if n < (10000 : Int64) then (0 : Int32) else 1)) + (if n < (100000 : Int64) then (0 : Int32) else 1)) + (if n < (1000000 : Int64) then (0 : Int32) else 1)) + (if n < (10000000 : Int64) then (0 : Int32) else 1)) + (if n < (100000000 : Int64) then (0 : Int32) else 1)) + (if n < (1000000000 : Int64) then (0 : Int32) else 1)) + (if n < (10000000000 : Int64) then (0 : Int32) else 1)) + (if n < (100000000000 : Int64) then (0 : Int32) else 1)) + (if n < (1000000000000 : Int64) then (0 : Int32) else 1)))])) rfl (by rw [hml]; rfl) (lenOf pd_0 rfl) rfl (W := 1) (by show 2 * 0 + _ ≤ _; exact Nat.le_of_eq rfl) (hb hby d2_109) (by decide) (by decide) (by decide) (by decide)
  obtain ⟨rfl, rfl, e13⟩ := hQ13
  rw [List.append_nil] at X13
  refine GoOn.step st13 ?_
  show GoOn p e below _ (T13.setTop (mkF m 112 #[.val (.long n), .second, .val (.ref a)] [(.int (if n < (10000000000000 : Int64) then (0 : Int32) else 1)), (.int (((((((((((((1 : Int32) + (if n < (10 : Int64) then (0 : Int32) else 1)) + (if n < (100 : Int64) then (0 : Int32) else 1)) + (if n < (1000 : Int64) then (0 : Int32) else 1)) + (if n < (10000 : Int64) then (0 : Int32) else 1)) + (if n < (100000 : Int64) then (0 : Int32) else 1)) + (if n < (1000000 : Int64) then (0 : Int32) else 1)) + (if n < (10000000 : Int64) then (0 : Int32) else 1)) + (if n < (100000000 : Int64) then (0 : Int32) else 1)) + (if n < (1000000000 : Int64) then (0 : Int32) else 1)) + (if n < (10000000000 : Int64) then (0 : Int32) else 1)) + (if n < (100000000000 : Int64) then (0 : Int32) else 1)) + (if n < (1000000000000 : Int64) then (0 : Int32) else 1)))]))
  refine GoOn.step (fun t₀ k₀ => XS.iadd X13.here hx rfl (hb hby d2_112) rfl k₀) ?_
  show GoOn p e below _ (T13.setTop (mkF m 113 #[.val (.long n), .second, .val (.ref a)] [(.int ((((((((((((((1 : Int32) + (if n < (10 : Int64) then (0 : Int32) else 1)) + (if n < (100 : Int64) then (0 : Int32) else 1)) + (if n < (1000 : Int64) then (0 : Int32) else 1)) + (if n < (10000 : Int64) then (0 : Int32) else 1)) + (if n < (100000 : Int64) then (0 : Int32) else 1)) + (if n < (1000000 : Int64) then (0 : Int32) else 1)) + (if n < (10000000 : Int64) then (0 : Int32) else 1)) + (if n < (100000000 : Int64) then (0 : Int32) else 1)) + (if n < (1000000000 : Int64) then (0 : Int32) else 1)) + (if n < (10000000000 : Int64) then (0 : Int32) else 1)) + (if n < (100000000000 : Int64) then (0 : Int32) else 1)) + (if n < (1000000000000 : Int64) then (0 : Int32) else 1)) + (if n < (10000000000000 : Int64) then (0 : Int32) else 1)))]))
  refine GoOn.step (fun t₀ k₀ => XS.lloadN X13.here hx rfl (hb hby d2_113) rfl k₀) ?_
  show GoOn p e below _ (T13.setTop (mkF m 114 #[.val (.long n), .second, .val (.ref a)] [(.long n), (.int ((((((((((((((1 : Int32) + (if n < (10 : Int64) then (0 : Int32) else 1)) + (if n < (100 : Int64) then (0 : Int32) else 1)) + (if n < (1000 : Int64) then (0 : Int32) else 1)) + (if n < (10000 : Int64) then (0 : Int32) else 1)) + (if n < (100000 : Int64) then (0 : Int32) else 1)) + (if n < (1000000 : Int64) then (0 : Int32) else 1)) + (if n < (10000000 : Int64) then (0 : Int32) else 1)) + (if n < (100000000 : Int64) then (0 : Int32) else 1)) + (if n < (1000000000 : Int64) then (0 : Int32) else 1)) + (if n < (10000000000 : Int64) then (0 : Int32) else 1)) + (if n < (100000000000 : Int64) then (0 : Int32) else 1)) + (if n < (1000000000000 : Int64) then (0 : Int32) else 1)) + (if n < (10000000000000 : Int64) then (0 : Int32) else 1)))]))
  refine GoOn.step (fun t₀ k₀ => XS.aloadN X13.here hx rfl (hb hby d2_114) rfl rfl k₀) ?_
  show GoOn p e below _ (T13.setTop (mkF m 115 #[.val (.long n), .second, .val (.ref a)] [(.ref a), (.long n), (.int ((((((((((((((1 : Int32) + (if n < (10 : Int64) then (0 : Int32) else 1)) + (if n < (100 : Int64) then (0 : Int32) else 1)) + (if n < (1000 : Int64) then (0 : Int32) else 1)) + (if n < (10000 : Int64) then (0 : Int32) else 1)) + (if n < (100000 : Int64) then (0 : Int32) else 1)) + (if n < (1000000 : Int64) then (0 : Int32) else 1)) + (if n < (10000000 : Int64) then (0 : Int32) else 1)) + (if n < (100000000 : Int64) then (0 : Int32) else 1)) + (if n < (1000000000 : Int64) then (0 : Int32) else 1)) + (if n < (10000000000 : Int64) then (0 : Int32) else 1)) + (if n < (100000000000 : Int64) then (0 : Int32) else 1)) + (if n < (1000000000000 : Int64) then (0 : Int32) else 1)) + (if n < (10000000000000 : Int64) then (0 : Int32) else 1)))]))
  refine GoOn.step (fun t₀ k₀ => XS.bipush X13.here hx rfl (hb hby d2_115) k₀) ?_
  show GoOn p e below _ (T13.setTop (mkF m 117 #[.val (.long n), .second, .val (.ref a)] [(.int (14 : Int32)), (.ref a), (.long n), (.int ((((((((((((((1 : Int32) + (if n < (10 : Int64) then (0 : Int32) else 1)) + (if n < (100 : Int64) then (0 : Int32) else 1)) + (if n < (1000 : Int64) then (0 : Int32) else 1)) + (if n < (10000 : Int64) then (0 : Int32) else 1)) + (if n < (100000 : Int64) then (0 : Int32) else 1)) + (if n < (1000000 : Int64) then (0 : Int32) else 1)) + (if n < (10000000 : Int64) then (0 : Int32) else 1)) + (if n < (100000000 : Int64) then (0 : Int32) else 1)) + (if n < (1000000000 : Int64) then (0 : Int32) else 1)) + (if n < (10000000000 : Int64) then (0 : Int32) else 1)) + (if n < (100000000000 : Int64) then (0 : Int32) else 1)) + (if n < (1000000000000 : Int64) then (0 : Int32) else 1)) + (if n < (10000000000000 : Int64) then (0 : Int32) else 1)))]))
  refine GoOn.step (fun t₀ k₀ => kLdJ X13 hx hZ e13 F (j := (14 : Int32)) (v := (.long (100000000000000 : Int64))) ⟨by decide, by decide⟩ rfl (g := (mkF m 117 #[.val (.long n), .second, .val (.ref a)] [(.int (14 : Int32)), (.ref a), (.long n), (.int ((((((((((((((1 : Int32) + (if n < (10 : Int64) then (0 : Int32) else 1)) + (if n < (100 : Int64) then (0 : Int32) else 1)) + (if n < (1000 : Int64) then (0 : Int32) else 1)) + (if n < (10000 : Int64) then (0 : Int32) else 1)) + (if n < (100000 : Int64) then (0 : Int32) else 1)) + (if n < (1000000 : Int64) then (0 : Int32) else 1)) + (if n < (10000000 : Int64) then (0 : Int32) else 1)) + (if n < (100000000 : Int64) then (0 : Int32) else 1)) + (if n < (1000000000 : Int64) then (0 : Int32) else 1)) + (if n < (10000000000 : Int64) then (0 : Int32) else 1)) + (if n < (100000000000 : Int64) then (0 : Int32) else 1)) + (if n < (1000000000000 : Int64) then (0 : Int32) else 1)) + (if n < (10000000000000 : Int64) then (0 : Int32) else 1)))])) rfl rfl (hb hby d2_117) t₀ k₀) ?_
  show GoOn p e below _ (T13.setTop (mkF m 118 #[.val (.long n), .second, .val (.ref a)] [(.long (100000000000000 : Int64)), (.long n), (.int ((((((((((((((1 : Int32) + (if n < (10 : Int64) then (0 : Int32) else 1)) + (if n < (100 : Int64) then (0 : Int32) else 1)) + (if n < (1000 : Int64) then (0 : Int32) else 1)) + (if n < (10000 : Int64) then (0 : Int32) else 1)) + (if n < (100000 : Int64) then (0 : Int32) else 1)) + (if n < (1000000 : Int64) then (0 : Int32) else 1)) + (if n < (10000000 : Int64) then (0 : Int32) else 1)) + (if n < (100000000 : Int64) then (0 : Int32) else 1)) + (if n < (1000000000 : Int64) then (0 : Int32) else 1)) + (if n < (10000000000 : Int64) then (0 : Int32) else 1)) + (if n < (100000000000 : Int64) then (0 : Int32) else 1)) + (if n < (1000000000000 : Int64) then (0 : Int32) else 1)) + (if n < (10000000000000 : Int64) then (0 : Int32) else 1)))]))
  obtain ⟨_, T14, L14, X14, hQ14, st14⟩ := kCallS X13 hx hZ (argsL := [(.long n), (.long (100000000000000 : Int64))]) (rest := [(.int ((((((((((((((1 : Int32) + (if n < (10 : Int64) then (0 : Int32) else 1)) + (if n < (100 : Int64) then (0 : Int32) else 1)) + (if n < (1000 : Int64) then (0 : Int32) else 1)) + (if n < (10000 : Int64) then (0 : Int32) else 1)) + (if n < (100000 : Int64) then (0 : Int32) else 1)) + (if n < (1000000 : Int64) then (0 : Int32) else 1)) + (if n < (10000000 : Int64) then (0 : Int32) else 1)) + (if n < (100000000 : Int64) then (0 : Int32) else 1)) + (if n < (1000000000 : Int64) then (0 : Int32) else 1)) + (if n < (10000000000 : Int64) then (0 : Int32) else 1)) + (if n < (100000000000 : Int64) then (0 : Int32) else 1)) + (if n < (1000000000000 : Int64) then (0 : Int32) else 1)) + (if n < (10000000000000 : Int64) then (0 : Int32) else 1)))]) (c_ge l Z a0 hw n (100000000000000 : Int64) h0) hown (hw _ (List.mem_of_getElem? (i := 29) rfl)) (hw _ (List.mem_of_getElem? (i := 30) rfl)) (hw _ (List.mem_of_getElem? (i := 27) rfl)) (hw _ (List.mem_of_getElem? (i := 31) rfl)) (by decide) e13 (g := (mkF m 118 #[.val (.long n), .second, .val (.ref a)] [(.long (100000000000000 : Int64)), (.long n), (.int ((((((((((((((1 : Int32) + (if n < (10 : Int64) then (0 : Int32) else 1)) + (if n < (100 : Int64) then (0 : Int32) else 1)) + (if n < (1000 : Int64) then (0 : Int32) else 1)) + (if n < (10000 : Int64) then (0 : Int32) else 1)) + (if n < (100000 : Int64) then (0 : Int32) else 1)) + (if n < (1000000 : Int64) then (0 : Int32) else 1)) + (if n < (10000000 : Int64) then (0 : Int32) else 1)) + (if n < (100000000 : Int64) then (0 : Int32) else 1)) + (if n < (1000000000 : Int64) then (0 : Int32) else 1)) + (if n < (10000000000 : Int64) then (0 : Int32) else 1)) + (if n < (100000000000 : Int64) then (0 : Int32) else 1)) + (if n < (1000000000000 : Int64) then (0 : Int32) else 1)) + (if n < (10000000000000 : Int64) then (0 : Int32) else 1)))])) rfl (by rw [hml]; rfl) (lenOf pd_0 rfl) rfl (W := 1) (by show 2 * 0 + _ ≤ _; exact Nat.le_of_eq rfl) (hb hby d2_118) (by decide) (by decide) (by decide) (by decide)
  obtain ⟨rfl, rfl, e14⟩ := hQ14
  rw [List.append_nil] at X14
  refine GoOn.step st14 ?_
  show GoOn p e below _ (T14.setTop (mkF m 121 #[.val (.long n), .second, .val (.ref a)] [(.int (if n < (100000000000000 : Int64) then (0 : Int32) else 1)), (.int ((((((((((((((1 : Int32) + (if n < (10 : Int64) then (0 : Int32) else 1)) + (if n < (100 : Int64) then (0 : Int32) else 1)) + (if n < (1000 : Int64) then (0 : Int32) else 1)) + (if n < (10000 : Int64) then (0 : Int32) else 1)) + (if n < (100000 : Int64) then (0 : Int32) else 1)) + (if n < (1000000 : Int64) then (0 : Int32) else 1)) + (if n < (10000000 : Int64) then (0 : Int32) else 1)) + (if n < (100000000 : Int64) then (0 : Int32) else 1)) + (if n < (1000000000 : Int64) then (0 : Int32) else 1)) + (if n < (10000000000 : Int64) then (0 : Int32) else 1)) + (if n < (100000000000 : Int64) then (0 : Int32) else 1)) + (if n < (1000000000000 : Int64) then (0 : Int32) else 1)) + (if n < (10000000000000 : Int64) then (0 : Int32) else 1)))]))
  refine GoOn.step (fun t₀ k₀ => XS.iadd X14.here hx rfl (hb hby d2_121) rfl k₀) ?_
  show GoOn p e below _ (T14.setTop (mkF m 122 #[.val (.long n), .second, .val (.ref a)] [(.int (((((((((((((((1 : Int32) + (if n < (10 : Int64) then (0 : Int32) else 1)) + (if n < (100 : Int64) then (0 : Int32) else 1)) + (if n < (1000 : Int64) then (0 : Int32) else 1)) + (if n < (10000 : Int64) then (0 : Int32) else 1)) + (if n < (100000 : Int64) then (0 : Int32) else 1)) + (if n < (1000000 : Int64) then (0 : Int32) else 1)) + (if n < (10000000 : Int64) then (0 : Int32) else 1)) + (if n < (100000000 : Int64) then (0 : Int32) else 1)) + (if n < (1000000000 : Int64) then (0 : Int32) else 1)) + (if n < (10000000000 : Int64) then (0 : Int32) else 1)) + (if n < (100000000000 : Int64) then (0 : Int32) else 1)) + (if n < (1000000000000 : Int64) then (0 : Int32) else 1)) + (if n < (10000000000000 : Int64) then (0 : Int32) else 1)) + (if n < (100000000000000 : Int64) then (0 : Int32) else 1)))]))
  refine GoOn.step (fun t₀ k₀ => XS.lloadN X14.here hx rfl (hb hby d2_122) rfl k₀) ?_
  show GoOn p e below _ (T14.setTop (mkF m 123 #[.val (.long n), .second, .val (.ref a)] [(.long n), (.int (((((((((((((((1 : Int32) + (if n < (10 : Int64) then (0 : Int32) else 1)) + (if n < (100 : Int64) then (0 : Int32) else 1)) + (if n < (1000 : Int64) then (0 : Int32) else 1)) + (if n < (10000 : Int64) then (0 : Int32) else 1)) + (if n < (100000 : Int64) then (0 : Int32) else 1)) + (if n < (1000000 : Int64) then (0 : Int32) else 1)) + (if n < (10000000 : Int64) then (0 : Int32) else 1)) + (if n < (100000000 : Int64) then (0 : Int32) else 1)) + (if n < (1000000000 : Int64) then (0 : Int32) else 1)) + (if n < (10000000000 : Int64) then (0 : Int32) else 1)) + (if n < (100000000000 : Int64) then (0 : Int32) else 1)) + (if n < (1000000000000 : Int64) then (0 : Int32) else 1)) + (if n < (10000000000000 : Int64) then (0 : Int32) else 1)) + (if n < (100000000000000 : Int64) then (0 : Int32) else 1)))]))
  refine GoOn.step (fun t₀ k₀ => XS.aloadN X14.here hx rfl (hb hby d2_123) rfl rfl k₀) ?_
  show GoOn p e below _ (T14.setTop (mkF m 124 #[.val (.long n), .second, .val (.ref a)] [(.ref a), (.long n), (.int (((((((((((((((1 : Int32) + (if n < (10 : Int64) then (0 : Int32) else 1)) + (if n < (100 : Int64) then (0 : Int32) else 1)) + (if n < (1000 : Int64) then (0 : Int32) else 1)) + (if n < (10000 : Int64) then (0 : Int32) else 1)) + (if n < (100000 : Int64) then (0 : Int32) else 1)) + (if n < (1000000 : Int64) then (0 : Int32) else 1)) + (if n < (10000000 : Int64) then (0 : Int32) else 1)) + (if n < (100000000 : Int64) then (0 : Int32) else 1)) + (if n < (1000000000 : Int64) then (0 : Int32) else 1)) + (if n < (10000000000 : Int64) then (0 : Int32) else 1)) + (if n < (100000000000 : Int64) then (0 : Int32) else 1)) + (if n < (1000000000000 : Int64) then (0 : Int32) else 1)) + (if n < (10000000000000 : Int64) then (0 : Int32) else 1)) + (if n < (100000000000000 : Int64) then (0 : Int32) else 1)))]))
  refine GoOn.step (fun t₀ k₀ => XS.bipush X14.here hx rfl (hb hby d2_124) k₀) ?_
  show GoOn p e below _ (T14.setTop (mkF m 126 #[.val (.long n), .second, .val (.ref a)] [(.int (15 : Int32)), (.ref a), (.long n), (.int (((((((((((((((1 : Int32) + (if n < (10 : Int64) then (0 : Int32) else 1)) + (if n < (100 : Int64) then (0 : Int32) else 1)) + (if n < (1000 : Int64) then (0 : Int32) else 1)) + (if n < (10000 : Int64) then (0 : Int32) else 1)) + (if n < (100000 : Int64) then (0 : Int32) else 1)) + (if n < (1000000 : Int64) then (0 : Int32) else 1)) + (if n < (10000000 : Int64) then (0 : Int32) else 1)) + (if n < (100000000 : Int64) then (0 : Int32) else 1)) + (if n < (1000000000 : Int64) then (0 : Int32) else 1)) + (if n < (10000000000 : Int64) then (0 : Int32) else 1)) + (if n < (100000000000 : Int64) then (0 : Int32) else 1)) + (if n < (1000000000000 : Int64) then (0 : Int32) else 1)) + (if n < (10000000000000 : Int64) then (0 : Int32) else 1)) + (if n < (100000000000000 : Int64) then (0 : Int32) else 1)))]))
  refine GoOn.step (fun t₀ k₀ => kLdJ X14 hx hZ e14 F (j := (15 : Int32)) (v := (.long (1000000000000000 : Int64))) ⟨by decide, by decide⟩ rfl (g := (mkF m 126 #[.val (.long n), .second, .val (.ref a)] [(.int (15 : Int32)), (.ref a), (.long n), (.int (((((((((((((((1 : Int32) + (if n < (10 : Int64) then (0 : Int32) else 1)) + (if n < (100 : Int64) then (0 : Int32) else 1)) + (if n < (1000 : Int64) then (0 : Int32) else 1)) + (if n < (10000 : Int64) then (0 : Int32) else 1)) + (if n < (100000 : Int64) then (0 : Int32) else 1)) + (if n < (1000000 : Int64) then (0 : Int32) else 1)) + (if n < (10000000 : Int64) then (0 : Int32) else 1)) + (if n < (100000000 : Int64) then (0 : Int32) else 1)) + (if n < (1000000000 : Int64) then (0 : Int32) else 1)) + (if n < (10000000000 : Int64) then (0 : Int32) else 1)) + (if n < (100000000000 : Int64) then (0 : Int32) else 1)) + (if n < (1000000000000 : Int64) then (0 : Int32) else 1)) + (if n < (10000000000000 : Int64) then (0 : Int32) else 1)) + (if n < (100000000000000 : Int64) then (0 : Int32) else 1)))])) rfl rfl (hb hby d2_126) t₀ k₀) ?_
  show GoOn p e below _ (T14.setTop (mkF m 127 #[.val (.long n), .second, .val (.ref a)] [(.long (1000000000000000 : Int64)), (.long n), (.int (((((((((((((((1 : Int32) + (if n < (10 : Int64) then (0 : Int32) else 1)) + (if n < (100 : Int64) then (0 : Int32) else 1)) + (if n < (1000 : Int64) then (0 : Int32) else 1)) + (if n < (10000 : Int64) then (0 : Int32) else 1)) + (if n < (100000 : Int64) then (0 : Int32) else 1)) + (if n < (1000000 : Int64) then (0 : Int32) else 1)) + (if n < (10000000 : Int64) then (0 : Int32) else 1)) + (if n < (100000000 : Int64) then (0 : Int32) else 1)) + (if n < (1000000000 : Int64) then (0 : Int32) else 1)) + (if n < (10000000000 : Int64) then (0 : Int32) else 1)) + (if n < (100000000000 : Int64) then (0 : Int32) else 1)) + (if n < (1000000000000 : Int64) then (0 : Int32) else 1)) + (if n < (10000000000000 : Int64) then (0 : Int32) else 1)) + (if n < (100000000000000 : Int64) then (0 : Int32) else 1)))]))
  obtain ⟨_, T15, L15, X15, hQ15, st15⟩ := kCallS X14 hx hZ (argsL := [(.long n), (.long (1000000000000000 : Int64))]) (rest := [(.int (((((((((((((((1 : Int32) + (if n < (10 : Int64) then (0 : Int32) else 1)) + (if n < (100 : Int64) then (0 : Int32) else 1)) + (if n < (1000 : Int64) then (0 : Int32) else 1)) + (if n < (10000 : Int64) then (0 : Int32) else 1)) + (if n < (100000 : Int64) then (0 : Int32) else 1)) + (if n < (1000000 : Int64) then (0 : Int32) else 1)) + (if n < (10000000 : Int64) then (0 : Int32) else 1)) + (if n < (100000000 : Int64) then (0 : Int32) else 1)) + (if n < (1000000000 : Int64) then (0 : Int32) else 1)) + (if n < (10000000000 : Int64) then (0 : Int32) else 1)) + (if n < (100000000000 : Int64) then (0 : Int32) else 1)) + (if n < (1000000000000 : Int64) then (0 : Int32) else 1)) + (if n < (10000000000000 : Int64) then (0 : Int32) else 1)) + (if n < (100000000000000 : Int64) then (0 : Int32) else 1)))]) (c_ge l Z a0 hw n (1000000000000000 : Int64) h0) hown (hw _ (List.mem_of_getElem? (i := 29) rfl)) (hw _ (List.mem_of_getElem? (i := 30) rfl)) (hw _ (List.mem_of_getElem? (i := 27) rfl)) (hw _ (List.mem_of_getElem? (i := 31) rfl)) (by decide) e14 (g := (mkF m 127 #[.val (.long n), .second, .val (.ref a)] [(.long (1000000000000000 : Int64)), (.long n), (.int (((((((((((((((1 : Int32) + (if n < (10 : Int64) then (0 : Int32) else 1)) + (if n < (100 : Int64) then (0 : Int32) else 1)) + (if n < (1000 : Int64) then (0 : Int32) else 1)) + (if n < (10000 : Int64) then (0 : Int32) else 1)) + (if n < (100000 : Int64) then (0 : Int32) else 1)) + (if n < (1000000 : Int64) then (0 : Int32) else 1)) + (if n < (10000000 : Int64) then (0 : Int32) else 1)) + (if n < (100000000 : Int64) then (0 : Int32) else 1)) + (if n < (1000000000 : Int64) then (0 : Int32) else 1)) + (if n < (10000000000 : Int64) then (0 : Int32) else 1)) + (if n < (100000000000 : Int64) then (0 : Int32) else 1)) + (if n < (1000000000000 : Int64) then (0 : Int32) else 1)) + (if n < (10000000000000 : Int64) then (0 : Int32) else 1)) + (if n < (100000000000000 : Int64) then (0 : Int32) else 1)))])) rfl (by rw [hml]; rfl) (lenOf pd_0 rfl) rfl (W := 1) (by show 2 * 0 + _ ≤ _; exact Nat.le_of_eq rfl) (hb hby d2_127) (by decide) (by decide) (by decide) (by decide)
  obtain ⟨rfl, rfl, e15⟩ := hQ15
  rw [List.append_nil] at X15
  refine GoOn.step st15 ?_
  show GoOn p e below _ (T15.setTop (mkF m 130 #[.val (.long n), .second, .val (.ref a)] [(.int (if n < (1000000000000000 : Int64) then (0 : Int32) else 1)), (.int (((((((((((((((1 : Int32) + (if n < (10 : Int64) then (0 : Int32) else 1)) + (if n < (100 : Int64) then (0 : Int32) else 1)) + (if n < (1000 : Int64) then (0 : Int32) else 1)) + (if n < (10000 : Int64) then (0 : Int32) else 1)) + (if n < (100000 : Int64) then (0 : Int32) else 1)) + (if n < (1000000 : Int64) then (0 : Int32) else 1)) + (if n < (10000000 : Int64) then (0 : Int32) else 1)) + (if n < (100000000 : Int64) then (0 : Int32) else 1)) + (if n < (1000000000 : Int64) then (0 : Int32) else 1)) + (if n < (10000000000 : Int64) then (0 : Int32) else 1)) + (if n < (100000000000 : Int64) then (0 : Int32) else 1)) + (if n < (1000000000000 : Int64) then (0 : Int32) else 1)) + (if n < (10000000000000 : Int64) then (0 : Int32) else 1)) + (if n < (100000000000000 : Int64) then (0 : Int32) else 1)))]))
  refine GoOn.step (fun t₀ k₀ => XS.iadd X15.here hx rfl (hb hby d2_130) rfl k₀) ?_
  show GoOn p e below _ (T15.setTop (mkF m 131 #[.val (.long n), .second, .val (.ref a)] [(.int ((((((((((((((((1 : Int32) + (if n < (10 : Int64) then (0 : Int32) else 1)) + (if n < (100 : Int64) then (0 : Int32) else 1)) + (if n < (1000 : Int64) then (0 : Int32) else 1)) + (if n < (10000 : Int64) then (0 : Int32) else 1)) + (if n < (100000 : Int64) then (0 : Int32) else 1)) + (if n < (1000000 : Int64) then (0 : Int32) else 1)) + (if n < (10000000 : Int64) then (0 : Int32) else 1)) + (if n < (100000000 : Int64) then (0 : Int32) else 1)) + (if n < (1000000000 : Int64) then (0 : Int32) else 1)) + (if n < (10000000000 : Int64) then (0 : Int32) else 1)) + (if n < (100000000000 : Int64) then (0 : Int32) else 1)) + (if n < (1000000000000 : Int64) then (0 : Int32) else 1)) + (if n < (10000000000000 : Int64) then (0 : Int32) else 1)) + (if n < (100000000000000 : Int64) then (0 : Int32) else 1)) + (if n < (1000000000000000 : Int64) then (0 : Int32) else 1)))]))
  refine GoOn.step (fun t₀ k₀ => XS.lloadN X15.here hx rfl (hb hby d2_131) rfl k₀) ?_
  show GoOn p e below _ (T15.setTop (mkF m 132 #[.val (.long n), .second, .val (.ref a)] [(.long n), (.int ((((((((((((((((1 : Int32) + (if n < (10 : Int64) then (0 : Int32) else 1)) + (if n < (100 : Int64) then (0 : Int32) else 1)) + (if n < (1000 : Int64) then (0 : Int32) else 1)) + (if n < (10000 : Int64) then (0 : Int32) else 1)) + (if n < (100000 : Int64) then (0 : Int32) else 1)) + (if n < (1000000 : Int64) then (0 : Int32) else 1)) + (if n < (10000000 : Int64) then (0 : Int32) else 1)) + (if n < (100000000 : Int64) then (0 : Int32) else 1)) + (if n < (1000000000 : Int64) then (0 : Int32) else 1)) + (if n < (10000000000 : Int64) then (0 : Int32) else 1)) + (if n < (100000000000 : Int64) then (0 : Int32) else 1)) + (if n < (1000000000000 : Int64) then (0 : Int32) else 1)) + (if n < (10000000000000 : Int64) then (0 : Int32) else 1)) + (if n < (100000000000000 : Int64) then (0 : Int32) else 1)) + (if n < (1000000000000000 : Int64) then (0 : Int32) else 1)))]))
  refine GoOn.step (fun t₀ k₀ => XS.aloadN X15.here hx rfl (hb hby d2_132) rfl rfl k₀) ?_
  show GoOn p e below _ (T15.setTop (mkF m 133 #[.val (.long n), .second, .val (.ref a)] [(.ref a), (.long n), (.int ((((((((((((((((1 : Int32) + (if n < (10 : Int64) then (0 : Int32) else 1)) + (if n < (100 : Int64) then (0 : Int32) else 1)) + (if n < (1000 : Int64) then (0 : Int32) else 1)) + (if n < (10000 : Int64) then (0 : Int32) else 1)) + (if n < (100000 : Int64) then (0 : Int32) else 1)) + (if n < (1000000 : Int64) then (0 : Int32) else 1)) + (if n < (10000000 : Int64) then (0 : Int32) else 1)) + (if n < (100000000 : Int64) then (0 : Int32) else 1)) + (if n < (1000000000 : Int64) then (0 : Int32) else 1)) + (if n < (10000000000 : Int64) then (0 : Int32) else 1)) + (if n < (100000000000 : Int64) then (0 : Int32) else 1)) + (if n < (1000000000000 : Int64) then (0 : Int32) else 1)) + (if n < (10000000000000 : Int64) then (0 : Int32) else 1)) + (if n < (100000000000000 : Int64) then (0 : Int32) else 1)) + (if n < (1000000000000000 : Int64) then (0 : Int32) else 1)))]))
  refine GoOn.step (fun t₀ k₀ => XS.bipush X15.here hx rfl (hb hby d2_133) k₀) ?_
  show GoOn p e below _ (T15.setTop (mkF m 135 #[.val (.long n), .second, .val (.ref a)] [(.int (16 : Int32)), (.ref a), (.long n), (.int ((((((((((((((((1 : Int32) + (if n < (10 : Int64) then (0 : Int32) else 1)) + (if n < (100 : Int64) then (0 : Int32) else 1)) + (if n < (1000 : Int64) then (0 : Int32) else 1)) + (if n < (10000 : Int64) then (0 : Int32) else 1)) + (if n < (100000 : Int64) then (0 : Int32) else 1)) + (if n < (1000000 : Int64) then (0 : Int32) else 1)) + (if n < (10000000 : Int64) then (0 : Int32) else 1)) + (if n < (100000000 : Int64) then (0 : Int32) else 1)) + (if n < (1000000000 : Int64) then (0 : Int32) else 1)) + (if n < (10000000000 : Int64) then (0 : Int32) else 1)) + (if n < (100000000000 : Int64) then (0 : Int32) else 1)) + (if n < (1000000000000 : Int64) then (0 : Int32) else 1)) + (if n < (10000000000000 : Int64) then (0 : Int32) else 1)) + (if n < (100000000000000 : Int64) then (0 : Int32) else 1)) + (if n < (1000000000000000 : Int64) then (0 : Int32) else 1)))]))
  refine GoOn.step (fun t₀ k₀ => kLdJ X15 hx hZ e15 F (j := (16 : Int32)) (v := (.long (10000000000000000 : Int64))) ⟨by decide, by decide⟩ rfl (g := (mkF m 135 #[.val (.long n), .second, .val (.ref a)] [(.int (16 : Int32)), (.ref a), (.long n), (.int ((((((((((((((((1 : Int32) + (if n < (10 : Int64) then (0 : Int32) else 1)) + (if n < (100 : Int64) then (0 : Int32) else 1)) + (if n < (1000 : Int64) then (0 : Int32) else 1)) + (if n < (10000 : Int64) then (0 : Int32) else 1)) + (if n < (100000 : Int64) then (0 : Int32) else 1)) + (if n < (1000000 : Int64) then (0 : Int32) else 1)) + (if n < (10000000 : Int64) then (0 : Int32) else 1)) + (if n < (100000000 : Int64) then (0 : Int32) else 1)) + (if n < (1000000000 : Int64) then (0 : Int32) else 1)) + (if n < (10000000000 : Int64) then (0 : Int32) else 1)) + (if n < (100000000000 : Int64) then (0 : Int32) else 1)) + (if n < (1000000000000 : Int64) then (0 : Int32) else 1)) + (if n < (10000000000000 : Int64) then (0 : Int32) else 1)) + (if n < (100000000000000 : Int64) then (0 : Int32) else 1)) + (if n < (1000000000000000 : Int64) then (0 : Int32) else 1)))])) rfl rfl (hb hby d2_135) t₀ k₀) ?_
  show GoOn p e below _ (T15.setTop (mkF m 136 #[.val (.long n), .second, .val (.ref a)] [(.long (10000000000000000 : Int64)), (.long n), (.int ((((((((((((((((1 : Int32) + (if n < (10 : Int64) then (0 : Int32) else 1)) + (if n < (100 : Int64) then (0 : Int32) else 1)) + (if n < (1000 : Int64) then (0 : Int32) else 1)) + (if n < (10000 : Int64) then (0 : Int32) else 1)) + (if n < (100000 : Int64) then (0 : Int32) else 1)) + (if n < (1000000 : Int64) then (0 : Int32) else 1)) + (if n < (10000000 : Int64) then (0 : Int32) else 1)) + (if n < (100000000 : Int64) then (0 : Int32) else 1)) + (if n < (1000000000 : Int64) then (0 : Int32) else 1)) + (if n < (10000000000 : Int64) then (0 : Int32) else 1)) + (if n < (100000000000 : Int64) then (0 : Int32) else 1)) + (if n < (1000000000000 : Int64) then (0 : Int32) else 1)) + (if n < (10000000000000 : Int64) then (0 : Int32) else 1)) + (if n < (100000000000000 : Int64) then (0 : Int32) else 1)) + (if n < (1000000000000000 : Int64) then (0 : Int32) else 1)))]))
  obtain ⟨_, T16, L16, X16, hQ16, st16⟩ := kCallS X15 hx hZ (argsL := [(.long n), (.long (10000000000000000 : Int64))]) (rest := [(.int ((((((((((((((((1 : Int32) + (if n < (10 : Int64) then (0 : Int32) else 1)) + (if n < (100 : Int64) then (0 : Int32) else 1)) + (if n < (1000 : Int64) then (0 : Int32) else 1)) + (if n < (10000 : Int64) then (0 : Int32) else 1)) + (if n < (100000 : Int64) then (0 : Int32) else 1)) + (if n < (1000000 : Int64) then (0 : Int32) else 1)) + (if n < (10000000 : Int64) then (0 : Int32) else 1)) + (if n < (100000000 : Int64) then (0 : Int32) else 1)) + (if n < (1000000000 : Int64) then (0 : Int32) else 1)) + (if n < (10000000000 : Int64) then (0 : Int32) else 1)) + (if n < (100000000000 : Int64) then (0 : Int32) else 1)) + (if n < (1000000000000 : Int64) then (0 : Int32) else 1)) + (if n < (10000000000000 : Int64) then (0 : Int32) else 1)) + (if n < (100000000000000 : Int64) then (0 : Int32) else 1)) + (if n < (1000000000000000 : Int64) then (0 : Int32) else 1)))]) (c_ge l Z a0 hw n (10000000000000000 : Int64) h0) hown (hw _ (List.mem_of_getElem? (i := 29) rfl)) (hw _ (List.mem_of_getElem? (i := 30) rfl)) (hw _ (List.mem_of_getElem? (i := 27) rfl)) (hw _ (List.mem_of_getElem? (i := 31) rfl)) (by decide) e15 (g := (mkF m 136 #[.val (.long n), .second, .val (.ref a)] [(.long (10000000000000000 : Int64)), (.long n), (.int ((((((((((((((((1 : Int32) + (if n < (10 : Int64) then (0 : Int32) else 1)) + (if n < (100 : Int64) then (0 : Int32) else 1)) + (if n < (1000 : Int64) then (0 : Int32) else 1)) + (if n < (10000 : Int64) then (0 : Int32) else 1)) + (if n < (100000 : Int64) then (0 : Int32) else 1)) + (if n < (1000000 : Int64) then (0 : Int32) else 1)) + (if n < (10000000 : Int64) then (0 : Int32) else 1)) + (if n < (100000000 : Int64) then (0 : Int32) else 1)) + (if n < (1000000000 : Int64) then (0 : Int32) else 1)) + (if n < (10000000000 : Int64) then (0 : Int32) else 1)) + (if n < (100000000000 : Int64) then (0 : Int32) else 1)) + (if n < (1000000000000 : Int64) then (0 : Int32) else 1)) + (if n < (10000000000000 : Int64) then (0 : Int32) else 1)) + (if n < (100000000000000 : Int64) then (0 : Int32) else 1)) + (if n < (1000000000000000 : Int64) then (0 : Int32) else 1)))])) rfl (by rw [hml]; rfl) (lenOf pd_0 rfl) rfl (W := 1) (by show 2 * 0 + _ ≤ _; exact Nat.le_of_eq rfl) (hb hby d2_136) (by decide) (by decide) (by decide) (by decide)
  obtain ⟨rfl, rfl, e16⟩ := hQ16
  rw [List.append_nil] at X16
  refine GoOn.step st16 ?_
  show GoOn p e below _ (T16.setTop (mkF m 139 #[.val (.long n), .second, .val (.ref a)] [(.int (if n < (10000000000000000 : Int64) then (0 : Int32) else 1)), (.int ((((((((((((((((1 : Int32) + (if n < (10 : Int64) then (0 : Int32) else 1)) + (if n < (100 : Int64) then (0 : Int32) else 1)) + (if n < (1000 : Int64) then (0 : Int32) else 1)) + (if n < (10000 : Int64) then (0 : Int32) else 1)) + (if n < (100000 : Int64) then (0 : Int32) else 1)) + (if n < (1000000 : Int64) then (0 : Int32) else 1)) + (if n < (10000000 : Int64) then (0 : Int32) else 1)) + (if n < (100000000 : Int64) then (0 : Int32) else 1)) + (if n < (1000000000 : Int64) then (0 : Int32) else 1)) + (if n < (10000000000 : Int64) then (0 : Int32) else 1)) + (if n < (100000000000 : Int64) then (0 : Int32) else 1)) + (if n < (1000000000000 : Int64) then (0 : Int32) else 1)) + (if n < (10000000000000 : Int64) then (0 : Int32) else 1)) + (if n < (100000000000000 : Int64) then (0 : Int32) else 1)) + (if n < (1000000000000000 : Int64) then (0 : Int32) else 1)))]))
  refine GoOn.step (fun t₀ k₀ => XS.iadd X16.here hx rfl (hb hby d2_139) rfl k₀) ?_
  show GoOn p e below _ (T16.setTop (mkF m 140 #[.val (.long n), .second, .val (.ref a)] [(.int (((((((((((((((((1 : Int32) + (if n < (10 : Int64) then (0 : Int32) else 1)) + (if n < (100 : Int64) then (0 : Int32) else 1)) + (if n < (1000 : Int64) then (0 : Int32) else 1)) + (if n < (10000 : Int64) then (0 : Int32) else 1)) + (if n < (100000 : Int64) then (0 : Int32) else 1)) + (if n < (1000000 : Int64) then (0 : Int32) else 1)) + (if n < (10000000 : Int64) then (0 : Int32) else 1)) + (if n < (100000000 : Int64) then (0 : Int32) else 1)) + (if n < (1000000000 : Int64) then (0 : Int32) else 1)) + (if n < (10000000000 : Int64) then (0 : Int32) else 1)) + (if n < (100000000000 : Int64) then (0 : Int32) else 1)) + (if n < (1000000000000 : Int64) then (0 : Int32) else 1)) + (if n < (10000000000000 : Int64) then (0 : Int32) else 1)) + (if n < (100000000000000 : Int64) then (0 : Int32) else 1)) + (if n < (1000000000000000 : Int64) then (0 : Int32) else 1)) + (if n < (10000000000000000 : Int64) then (0 : Int32) else 1)))]))
  refine GoOn.step (fun t₀ k₀ => XS.lloadN X16.here hx rfl (hb hby d2_140) rfl k₀) ?_
  show GoOn p e below _ (T16.setTop (mkF m 141 #[.val (.long n), .second, .val (.ref a)] [(.long n), (.int (((((((((((((((((1 : Int32) + (if n < (10 : Int64) then (0 : Int32) else 1)) + (if n < (100 : Int64) then (0 : Int32) else 1)) + (if n < (1000 : Int64) then (0 : Int32) else 1)) + (if n < (10000 : Int64) then (0 : Int32) else 1)) + (if n < (100000 : Int64) then (0 : Int32) else 1)) + (if n < (1000000 : Int64) then (0 : Int32) else 1)) + (if n < (10000000 : Int64) then (0 : Int32) else 1)) + (if n < (100000000 : Int64) then (0 : Int32) else 1)) + (if n < (1000000000 : Int64) then (0 : Int32) else 1)) + (if n < (10000000000 : Int64) then (0 : Int32) else 1)) + (if n < (100000000000 : Int64) then (0 : Int32) else 1)) + (if n < (1000000000000 : Int64) then (0 : Int32) else 1)) + (if n < (10000000000000 : Int64) then (0 : Int32) else 1)) + (if n < (100000000000000 : Int64) then (0 : Int32) else 1)) + (if n < (1000000000000000 : Int64) then (0 : Int32) else 1)) + (if n < (10000000000000000 : Int64) then (0 : Int32) else 1)))]))
  refine GoOn.step (fun t₀ k₀ => XS.aloadN X16.here hx rfl (hb hby d2_141) rfl rfl k₀) ?_
  show GoOn p e below _ (T16.setTop (mkF m 142 #[.val (.long n), .second, .val (.ref a)] [(.ref a), (.long n), (.int (((((((((((((((((1 : Int32) + (if n < (10 : Int64) then (0 : Int32) else 1)) + (if n < (100 : Int64) then (0 : Int32) else 1)) + (if n < (1000 : Int64) then (0 : Int32) else 1)) + (if n < (10000 : Int64) then (0 : Int32) else 1)) + (if n < (100000 : Int64) then (0 : Int32) else 1)) + (if n < (1000000 : Int64) then (0 : Int32) else 1)) + (if n < (10000000 : Int64) then (0 : Int32) else 1)) + (if n < (100000000 : Int64) then (0 : Int32) else 1)) + (if n < (1000000000 : Int64) then (0 : Int32) else 1)) + (if n < (10000000000 : Int64) then (0 : Int32) else 1)) + (if n < (100000000000 : Int64) then (0 : Int32) else 1)) + (if n < (1000000000000 : Int64) then (0 : Int32) else 1)) + (if n < (10000000000000 : Int64) then (0 : Int32) else 1)) + (if n < (100000000000000 : Int64) then (0 : Int32) else 1)) + (if n < (1000000000000000 : Int64) then (0 : Int32) else 1)) + (if n < (10000000000000000 : Int64) then (0 : Int32) else 1)))]))
  refine GoOn.step (fun t₀ k₀ => XS.bipush X16.here hx rfl (hb hby d2_142) k₀) ?_
  show GoOn p e below _ (T16.setTop (mkF m 144 #[.val (.long n), .second, .val (.ref a)] [(.int (17 : Int32)), (.ref a), (.long n), (.int (((((((((((((((((1 : Int32) + (if n < (10 : Int64) then (0 : Int32) else 1)) + (if n < (100 : Int64) then (0 : Int32) else 1)) + (if n < (1000 : Int64) then (0 : Int32) else 1)) + (if n < (10000 : Int64) then (0 : Int32) else 1)) + (if n < (100000 : Int64) then (0 : Int32) else 1)) + (if n < (1000000 : Int64) then (0 : Int32) else 1)) + (if n < (10000000 : Int64) then (0 : Int32) else 1)) + (if n < (100000000 : Int64) then (0 : Int32) else 1)) + (if n < (1000000000 : Int64) then (0 : Int32) else 1)) + (if n < (10000000000 : Int64) then (0 : Int32) else 1)) + (if n < (100000000000 : Int64) then (0 : Int32) else 1)) + (if n < (1000000000000 : Int64) then (0 : Int32) else 1)) + (if n < (10000000000000 : Int64) then (0 : Int32) else 1)) + (if n < (100000000000000 : Int64) then (0 : Int32) else 1)) + (if n < (1000000000000000 : Int64) then (0 : Int32) else 1)) + (if n < (10000000000000000 : Int64) then (0 : Int32) else 1)))]))
  refine GoOn.step (fun t₀ k₀ => kLdJ X16 hx hZ e16 F (j := (17 : Int32)) (v := (.long (100000000000000000 : Int64))) ⟨by decide, by decide⟩ rfl (g := (mkF m 144 #[.val (.long n), .second, .val (.ref a)] [(.int (17 : Int32)), (.ref a), (.long n), (.int (((((((((((((((((1 : Int32) + (if n < (10 : Int64) then (0 : Int32) else 1)) + (if n < (100 : Int64) then (0 : Int32) else 1)) + (if n < (1000 : Int64) then (0 : Int32) else 1)) + (if n < (10000 : Int64) then (0 : Int32) else 1)) + (if n < (100000 : Int64) then (0 : Int32) else 1)) + (if n < (1000000 : Int64) then (0 : Int32) else 1)) + (if n < (10000000 : Int64) then (0 : Int32) else 1)) + (if n < (100000000 : Int64) then (0 : Int32) else 1)) + (if n < (1000000000 : Int64) then (0 : Int32) else 1)) + (if n < (10000000000 : Int64) then (0 : Int32) else 1)) + (if n < (100000000000 : Int64) then (0 : Int32) else 1)) + (if n < (1000000000000 : Int64) then (0 : Int32) else 1)) + (if n < (10000000000000 : Int64) then (0 : Int32) else 1)) + (if n < (100000000000000 : Int64) then (0 : Int32) else 1)) + (if n < (1000000000000000 : Int64) then (0 : Int32) else 1)) + (if n < (10000000000000000 : Int64) then (0 : Int32) else 1)))])) rfl rfl (hb hby d2_144) t₀ k₀) ?_
  show GoOn p e below _ (T16.setTop (mkF m 145 #[.val (.long n), .second, .val (.ref a)] [(.long (100000000000000000 : Int64)), (.long n), (.int (((((((((((((((((1 : Int32) + (if n < (10 : Int64) then (0 : Int32) else 1)) + (if n < (100 : Int64) then (0 : Int32) else 1)) + (if n < (1000 : Int64) then (0 : Int32) else 1)) + (if n < (10000 : Int64) then (0 : Int32) else 1)) + (if n < (100000 : Int64) then (0 : Int32) else 1)) + (if n < (1000000 : Int64) then (0 : Int32) else 1)) + (if n < (10000000 : Int64) then (0 : Int32) else 1)) + (if n < (100000000 : Int64) then (0 : Int32) else 1)) + (if n < (1000000000 : Int64) then (0 : Int32) else 1)) + (if n < (10000000000 : Int64) then (0 : Int32) else 1)) + (if n < (100000000000 : Int64) then (0 : Int32) else 1)) + (if n < (1000000000000 : Int64) then (0 : Int32) else 1)) + (if n < (10000000000000 : Int64) then (0 : Int32) else 1)) + (if n < (100000000000000 : Int64) then (0 : Int32) else 1)) + (if n < (1000000000000000 : Int64) then (0 : Int32) else 1)) + (if n < (10000000000000000 : Int64) then (0 : Int32) else 1)))]))
  obtain ⟨_, T17, L17, X17, hQ17, st17⟩ := kCallS X16 hx hZ (argsL := [(.long n), (.long (100000000000000000 : Int64))]) (rest := [(.int (((((((((((((((((1 : Int32) + (if n < (10 : Int64) then (0 : Int32) else 1)) + (if n < (100 : Int64) then (0 : Int32) else 1)) + (if n < (1000 : Int64) then (0 : Int32) else 1)) + (if n < (10000 : Int64) then (0 : Int32) else 1)) + (if n < (100000 : Int64) then (0 : Int32) else 1)) + (if n < (1000000 : Int64) then (0 : Int32) else 1)) + (if n < (10000000 : Int64) then (0 : Int32) else 1)) + (if n < (100000000 : Int64) then (0 : Int32) else 1)) + (if n < (1000000000 : Int64) then (0 : Int32) else 1)) + (if n < (10000000000 : Int64) then (0 : Int32) else 1)) + (if n < (100000000000 : Int64) then (0 : Int32) else 1)) + (if n < (1000000000000 : Int64) then (0 : Int32) else 1)) + (if n < (10000000000000 : Int64) then (0 : Int32) else 1)) + (if n < (100000000000000 : Int64) then (0 : Int32) else 1)) + (if n < (1000000000000000 : Int64) then (0 : Int32) else 1)) + (if n < (10000000000000000 : Int64) then (0 : Int32) else 1)))]) (c_ge l Z a0 hw n (100000000000000000 : Int64) h0) hown (hw _ (List.mem_of_getElem? (i := 29) rfl)) (hw _ (List.mem_of_getElem? (i := 30) rfl)) (hw _ (List.mem_of_getElem? (i := 27) rfl)) (hw _ (List.mem_of_getElem? (i := 31) rfl)) (by decide) e16 (g := (mkF m 145 #[.val (.long n), .second, .val (.ref a)] [(.long (100000000000000000 : Int64)), (.long n), (.int (((((((((((((((((1 : Int32) + (if n < (10 : Int64) then (0 : Int32) else 1)) + (if n < (100 : Int64) then (0 : Int32) else 1)) + (if n < (1000 : Int64) then (0 : Int32) else 1)) + (if n < (10000 : Int64) then (0 : Int32) else 1)) + (if n < (100000 : Int64) then (0 : Int32) else 1)) + (if n < (1000000 : Int64) then (0 : Int32) else 1)) + (if n < (10000000 : Int64) then (0 : Int32) else 1)) + (if n < (100000000 : Int64) then (0 : Int32) else 1)) + (if n < (1000000000 : Int64) then (0 : Int32) else 1)) + (if n < (10000000000 : Int64) then (0 : Int32) else 1)) + (if n < (100000000000 : Int64) then (0 : Int32) else 1)) + (if n < (1000000000000 : Int64) then (0 : Int32) else 1)) + (if n < (10000000000000 : Int64) then (0 : Int32) else 1)) + (if n < (100000000000000 : Int64) then (0 : Int32) else 1)) + (if n < (1000000000000000 : Int64) then (0 : Int32) else 1)) + (if n < (10000000000000000 : Int64) then (0 : Int32) else 1)))])) rfl (by rw [hml]; rfl) (lenOf pd_0 rfl) rfl (W := 1) (by show 2 * 0 + _ ≤ _; exact Nat.le_of_eq rfl) (hb hby d2_145) (by decide) (by decide) (by decide) (by decide)
  obtain ⟨rfl, rfl, e17⟩ := hQ17
  rw [List.append_nil] at X17
  refine GoOn.step st17 ?_
  show GoOn p e below _ (T17.setTop (mkF m 148 #[.val (.long n), .second, .val (.ref a)] [(.int (if n < (100000000000000000 : Int64) then (0 : Int32) else 1)), (.int (((((((((((((((((1 : Int32) + (if n < (10 : Int64) then (0 : Int32) else 1)) + (if n < (100 : Int64) then (0 : Int32) else 1)) + (if n < (1000 : Int64) then (0 : Int32) else 1)) + (if n < (10000 : Int64) then (0 : Int32) else 1)) + (if n < (100000 : Int64) then (0 : Int32) else 1)) + (if n < (1000000 : Int64) then (0 : Int32) else 1)) + (if n < (10000000 : Int64) then (0 : Int32) else 1)) + (if n < (100000000 : Int64) then (0 : Int32) else 1)) + (if n < (1000000000 : Int64) then (0 : Int32) else 1)) + (if n < (10000000000 : Int64) then (0 : Int32) else 1)) + (if n < (100000000000 : Int64) then (0 : Int32) else 1)) + (if n < (1000000000000 : Int64) then (0 : Int32) else 1)) + (if n < (10000000000000 : Int64) then (0 : Int32) else 1)) + (if n < (100000000000000 : Int64) then (0 : Int32) else 1)) + (if n < (1000000000000000 : Int64) then (0 : Int32) else 1)) + (if n < (10000000000000000 : Int64) then (0 : Int32) else 1)))]))
  refine GoOn.step (fun t₀ k₀ => XS.iadd X17.here hx rfl (hb hby d2_148) rfl k₀) ?_
  show GoOn p e below _ (T17.setTop (mkF m 149 #[.val (.long n), .second, .val (.ref a)] [(.int ((((((((((((((((((1 : Int32) + (if n < (10 : Int64) then (0 : Int32) else 1)) + (if n < (100 : Int64) then (0 : Int32) else 1)) + (if n < (1000 : Int64) then (0 : Int32) else 1)) + (if n < (10000 : Int64) then (0 : Int32) else 1)) + (if n < (100000 : Int64) then (0 : Int32) else 1)) + (if n < (1000000 : Int64) then (0 : Int32) else 1)) + (if n < (10000000 : Int64) then (0 : Int32) else 1)) + (if n < (100000000 : Int64) then (0 : Int32) else 1)) + (if n < (1000000000 : Int64) then (0 : Int32) else 1)) + (if n < (10000000000 : Int64) then (0 : Int32) else 1)) + (if n < (100000000000 : Int64) then (0 : Int32) else 1)) + (if n < (1000000000000 : Int64) then (0 : Int32) else 1)) + (if n < (10000000000000 : Int64) then (0 : Int32) else 1)) + (if n < (100000000000000 : Int64) then (0 : Int32) else 1)) + (if n < (1000000000000000 : Int64) then (0 : Int32) else 1)) + (if n < (10000000000000000 : Int64) then (0 : Int32) else 1)) + (if n < (100000000000000000 : Int64) then (0 : Int32) else 1)))]))
  refine GoOn.step (fun t₀ k₀ => XS.lloadN X17.here hx rfl (hb hby d2_149) rfl k₀) ?_
  show GoOn p e below _ (T17.setTop (mkF m 150 #[.val (.long n), .second, .val (.ref a)] [(.long n), (.int ((((((((((((((((((1 : Int32) + (if n < (10 : Int64) then (0 : Int32) else 1)) + (if n < (100 : Int64) then (0 : Int32) else 1)) + (if n < (1000 : Int64) then (0 : Int32) else 1)) + (if n < (10000 : Int64) then (0 : Int32) else 1)) + (if n < (100000 : Int64) then (0 : Int32) else 1)) + (if n < (1000000 : Int64) then (0 : Int32) else 1)) + (if n < (10000000 : Int64) then (0 : Int32) else 1)) + (if n < (100000000 : Int64) then (0 : Int32) else 1)) + (if n < (1000000000 : Int64) then (0 : Int32) else 1)) + (if n < (10000000000 : Int64) then (0 : Int32) else 1)) + (if n < (100000000000 : Int64) then (0 : Int32) else 1)) + (if n < (1000000000000 : Int64) then (0 : Int32) else 1)) + (if n < (10000000000000 : Int64) then (0 : Int32) else 1)) + (if n < (100000000000000 : Int64) then (0 : Int32) else 1)) + (if n < (1000000000000000 : Int64) then (0 : Int32) else 1)) + (if n < (10000000000000000 : Int64) then (0 : Int32) else 1)) + (if n < (100000000000000000 : Int64) then (0 : Int32) else 1)))]))
  refine GoOn.step (fun t₀ k₀ => XS.aloadN X17.here hx rfl (hb hby d2_150) rfl rfl k₀) ?_
  show GoOn p e below _ (T17.setTop (mkF m 151 #[.val (.long n), .second, .val (.ref a)] [(.ref a), (.long n), (.int ((((((((((((((((((1 : Int32) + (if n < (10 : Int64) then (0 : Int32) else 1)) + (if n < (100 : Int64) then (0 : Int32) else 1)) + (if n < (1000 : Int64) then (0 : Int32) else 1)) + (if n < (10000 : Int64) then (0 : Int32) else 1)) + (if n < (100000 : Int64) then (0 : Int32) else 1)) + (if n < (1000000 : Int64) then (0 : Int32) else 1)) + (if n < (10000000 : Int64) then (0 : Int32) else 1)) + (if n < (100000000 : Int64) then (0 : Int32) else 1)) + (if n < (1000000000 : Int64) then (0 : Int32) else 1)) + (if n < (10000000000 : Int64) then (0 : Int32) else 1)) + (if n < (100000000000 : Int64) then (0 : Int32) else 1)) + (if n < (1000000000000 : Int64) then (0 : Int32) else 1)) + (if n < (10000000000000 : Int64) then (0 : Int32) else 1)) + (if n < (100000000000000 : Int64) then (0 : Int32) else 1)) + (if n < (1000000000000000 : Int64) then (0 : Int32) else 1)) + (if n < (10000000000000000 : Int64) then (0 : Int32) else 1)) + (if n < (100000000000000000 : Int64) then (0 : Int32) else 1)))]))
  refine GoOn.step (fun t₀ k₀ => XS.bipush X17.here hx rfl (hb hby d2_151) k₀) ?_
  show GoOn p e below _ (T17.setTop (mkF m 153 #[.val (.long n), .second, .val (.ref a)] [(.int (18 : Int32)), (.ref a), (.long n), (.int ((((((((((((((((((1 : Int32) + (if n < (10 : Int64) then (0 : Int32) else 1)) + (if n < (100 : Int64) then (0 : Int32) else 1)) + (if n < (1000 : Int64) then (0 : Int32) else 1)) + (if n < (10000 : Int64) then (0 : Int32) else 1)) + (if n < (100000 : Int64) then (0 : Int32) else 1)) + (if n < (1000000 : Int64) then (0 : Int32) else 1)) + (if n < (10000000 : Int64) then (0 : Int32) else 1)) + (if n < (100000000 : Int64) then (0 : Int32) else 1)) + (if n < (1000000000 : Int64) then (0 : Int32) else 1)) + (if n < (10000000000 : Int64) then (0 : Int32) else 1)) + (if n < (100000000000 : Int64) then (0 : Int32) else 1)) + (if n < (1000000000000 : Int64) then (0 : Int32) else 1)) + (if n < (10000000000000 : Int64) then (0 : Int32) else 1)) + (if n < (100000000000000 : Int64) then (0 : Int32) else 1)) + (if n < (1000000000000000 : Int64) then (0 : Int32) else 1)) + (if n < (10000000000000000 : Int64) then (0 : Int32) else 1)) + (if n < (100000000000000000 : Int64) then (0 : Int32) else 1)))]))
  refine GoOn.step (fun t₀ k₀ => kLdJ X17 hx hZ e17 F (j := (18 : Int32)) (v := (.long (1000000000000000000 : Int64))) ⟨by decide, by decide⟩ rfl (g := (mkF m 153 #[.val (.long n), .second, .val (.ref a)] [(.int (18 : Int32)), (.ref a), (.long n), (.int ((((((((((((((((((1 : Int32) + (if n < (10 : Int64) then (0 : Int32) else 1)) + (if n < (100 : Int64) then (0 : Int32) else 1)) + (if n < (1000 : Int64) then (0 : Int32) else 1)) + (if n < (10000 : Int64) then (0 : Int32) else 1)) + (if n < (100000 : Int64) then (0 : Int32) else 1)) + (if n < (1000000 : Int64) then (0 : Int32) else 1)) + (if n < (10000000 : Int64) then (0 : Int32) else 1)) + (if n < (100000000 : Int64) then (0 : Int32) else 1)) + (if n < (1000000000 : Int64) then (0 : Int32) else 1)) + (if n < (10000000000 : Int64) then (0 : Int32) else 1)) + (if n < (100000000000 : Int64) then (0 : Int32) else 1)) + (if n < (1000000000000 : Int64) then (0 : Int32) else 1)) + (if n < (10000000000000 : Int64) then (0 : Int32) else 1)) + (if n < (100000000000000 : Int64) then (0 : Int32) else 1)) + (if n < (1000000000000000 : Int64) then (0 : Int32) else 1)) + (if n < (10000000000000000 : Int64) then (0 : Int32) else 1)) + (if n < (100000000000000000 : Int64) then (0 : Int32) else 1)))])) rfl rfl (hb hby d2_153) t₀ k₀) ?_
  show GoOn p e below _ (T17.setTop (mkF m 154 #[.val (.long n), .second, .val (.ref a)] [(.long (1000000000000000000 : Int64)), (.long n), (.int ((((((((((((((((((1 : Int32) + (if n < (10 : Int64) then (0 : Int32) else 1)) + (if n < (100 : Int64) then (0 : Int32) else 1)) + (if n < (1000 : Int64) then (0 : Int32) else 1)) + (if n < (10000 : Int64) then (0 : Int32) else 1)) + (if n < (100000 : Int64) then (0 : Int32) else 1)) + (if n < (1000000 : Int64) then (0 : Int32) else 1)) + (if n < (10000000 : Int64) then (0 : Int32) else 1)) + (if n < (100000000 : Int64) then (0 : Int32) else 1)) + (if n < (1000000000 : Int64) then (0 : Int32) else 1)) + (if n < (10000000000 : Int64) then (0 : Int32) else 1)) + (if n < (100000000000 : Int64) then (0 : Int32) else 1)) + (if n < (1000000000000 : Int64) then (0 : Int32) else 1)) + (if n < (10000000000000 : Int64) then (0 : Int32) else 1)) + (if n < (100000000000000 : Int64) then (0 : Int32) else 1)) + (if n < (1000000000000000 : Int64) then (0 : Int32) else 1)) + (if n < (10000000000000000 : Int64) then (0 : Int32) else 1)) + (if n < (100000000000000000 : Int64) then (0 : Int32) else 1)))]))
  obtain ⟨_, T18, L18, X18, hQ18, st18⟩ := kCallS X17 hx hZ (argsL := [(.long n), (.long (1000000000000000000 : Int64))]) (rest := [(.int ((((((((((((((((((1 : Int32) + (if n < (10 : Int64) then (0 : Int32) else 1)) + (if n < (100 : Int64) then (0 : Int32) else 1)) + (if n < (1000 : Int64) then (0 : Int32) else 1)) + (if n < (10000 : Int64) then (0 : Int32) else 1)) + (if n < (100000 : Int64) then (0 : Int32) else 1)) + (if n < (1000000 : Int64) then (0 : Int32) else 1)) + (if n < (10000000 : Int64) then (0 : Int32) else 1)) + (if n < (100000000 : Int64) then (0 : Int32) else 1)) + (if n < (1000000000 : Int64) then (0 : Int32) else 1)) + (if n < (10000000000 : Int64) then (0 : Int32) else 1)) + (if n < (100000000000 : Int64) then (0 : Int32) else 1)) + (if n < (1000000000000 : Int64) then (0 : Int32) else 1)) + (if n < (10000000000000 : Int64) then (0 : Int32) else 1)) + (if n < (100000000000000 : Int64) then (0 : Int32) else 1)) + (if n < (1000000000000000 : Int64) then (0 : Int32) else 1)) + (if n < (10000000000000000 : Int64) then (0 : Int32) else 1)) + (if n < (100000000000000000 : Int64) then (0 : Int32) else 1)))]) (c_ge l Z a0 hw n (1000000000000000000 : Int64) h0) hown (hw _ (List.mem_of_getElem? (i := 29) rfl)) (hw _ (List.mem_of_getElem? (i := 30) rfl)) (hw _ (List.mem_of_getElem? (i := 27) rfl)) (hw _ (List.mem_of_getElem? (i := 31) rfl)) (by decide) e17 (g := (mkF m 154 #[.val (.long n), .second, .val (.ref a)] [(.long (1000000000000000000 : Int64)), (.long n), (.int ((((((((((((((((((1 : Int32) + (if n < (10 : Int64) then (0 : Int32) else 1)) + (if n < (100 : Int64) then (0 : Int32) else 1)) + (if n < (1000 : Int64) then (0 : Int32) else 1)) + (if n < (10000 : Int64) then (0 : Int32) else 1)) + (if n < (100000 : Int64) then (0 : Int32) else 1)) + (if n < (1000000 : Int64) then (0 : Int32) else 1)) + (if n < (10000000 : Int64) then (0 : Int32) else 1)) + (if n < (100000000 : Int64) then (0 : Int32) else 1)) + (if n < (1000000000 : Int64) then (0 : Int32) else 1)) + (if n < (10000000000 : Int64) then (0 : Int32) else 1)) + (if n < (100000000000 : Int64) then (0 : Int32) else 1)) + (if n < (1000000000000 : Int64) then (0 : Int32) else 1)) + (if n < (10000000000000 : Int64) then (0 : Int32) else 1)) + (if n < (100000000000000 : Int64) then (0 : Int32) else 1)) + (if n < (1000000000000000 : Int64) then (0 : Int32) else 1)) + (if n < (10000000000000000 : Int64) then (0 : Int32) else 1)) + (if n < (100000000000000000 : Int64) then (0 : Int32) else 1)))])) rfl (by rw [hml]; rfl) (lenOf pd_0 rfl) rfl (W := 1) (by show 2 * 0 + _ ≤ _; exact Nat.le_of_eq rfl) (hb hby d2_154) (by decide) (by decide) (by decide) (by decide)
  obtain ⟨rfl, rfl, e18⟩ := hQ18
  rw [List.append_nil] at X18
  refine GoOn.step st18 ?_
  show GoOn p e below _ (T18.setTop (mkF m 157 #[.val (.long n), .second, .val (.ref a)] [(.int (if n < (1000000000000000000 : Int64) then (0 : Int32) else 1)), (.int ((((((((((((((((((1 : Int32) + (if n < (10 : Int64) then (0 : Int32) else 1)) + (if n < (100 : Int64) then (0 : Int32) else 1)) + (if n < (1000 : Int64) then (0 : Int32) else 1)) + (if n < (10000 : Int64) then (0 : Int32) else 1)) + (if n < (100000 : Int64) then (0 : Int32) else 1)) + (if n < (1000000 : Int64) then (0 : Int32) else 1)) + (if n < (10000000 : Int64) then (0 : Int32) else 1)) + (if n < (100000000 : Int64) then (0 : Int32) else 1)) + (if n < (1000000000 : Int64) then (0 : Int32) else 1)) + (if n < (10000000000 : Int64) then (0 : Int32) else 1)) + (if n < (100000000000 : Int64) then (0 : Int32) else 1)) + (if n < (1000000000000 : Int64) then (0 : Int32) else 1)) + (if n < (10000000000000 : Int64) then (0 : Int32) else 1)) + (if n < (100000000000000 : Int64) then (0 : Int32) else 1)) + (if n < (1000000000000000 : Int64) then (0 : Int32) else 1)) + (if n < (10000000000000000 : Int64) then (0 : Int32) else 1)) + (if n < (100000000000000000 : Int64) then (0 : Int32) else 1)))]))
  refine GoOn.step (fun t₀ k₀ => XS.iadd X18.here hx rfl (hb hby d2_157) rfl k₀) ?_
  show GoOn p e below _ (T18.setTop (mkF m 158 #[.val (.long n), .second, .val (.ref a)] [(.int (((((((((((((((((((1 : Int32) + (if n < (10 : Int64) then (0 : Int32) else 1)) + (if n < (100 : Int64) then (0 : Int32) else 1)) + (if n < (1000 : Int64) then (0 : Int32) else 1)) + (if n < (10000 : Int64) then (0 : Int32) else 1)) + (if n < (100000 : Int64) then (0 : Int32) else 1)) + (if n < (1000000 : Int64) then (0 : Int32) else 1)) + (if n < (10000000 : Int64) then (0 : Int32) else 1)) + (if n < (100000000 : Int64) then (0 : Int32) else 1)) + (if n < (1000000000 : Int64) then (0 : Int32) else 1)) + (if n < (10000000000 : Int64) then (0 : Int32) else 1)) + (if n < (100000000000 : Int64) then (0 : Int32) else 1)) + (if n < (1000000000000 : Int64) then (0 : Int32) else 1)) + (if n < (10000000000000 : Int64) then (0 : Int32) else 1)) + (if n < (100000000000000 : Int64) then (0 : Int32) else 1)) + (if n < (1000000000000000 : Int64) then (0 : Int32) else 1)) + (if n < (10000000000000000 : Int64) then (0 : Int32) else 1)) + (if n < (100000000000000000 : Int64) then (0 : Int32) else 1)) + (if n < (1000000000000000000 : Int64) then (0 : Int32) else 1)))]))
  exact GoOn.retI X18 hx hrt hlk (hb hby d2_158) (by decide) (by decide) (by first | exact ⟨rfl, rfl, rfl⟩ | (rw [e18]; exact ⟨rfl, rfl, rfl⟩))
theorem ef_c_dig (m : MethodId) (x0 : Int64) : entryFrame m #[(.long x0)] 5 = mkF m 0 #[.val (.long x0), .second, .unset, .unset, .unset] [] := by first | (simp [entryFrame, mkF, argsToLocals, Value.category]; done) | rfl
set_option maxRecDepth 65536 in
set_option maxHeartbeats 40000000 in
theorem c_dig (l : Launch) (Z : State) (a0 : Array Value) (hw : ∀ d ∈ tables_1, d.before a0 Z = true) (n : Int64) (h0 : Heap) (hn : 0 ≤ n.toInt) :
    Con l Z (⟨"com/example/austere_log/austerelog/log/Decimal", "digits", "(J)I"⟩ : MethodName) prog_20_method_2_code 5 (some .int) ({ frames := 0, cells := 0, slots := 0, locals := 0 } : Room) #[(.long n)] h0 (PQ (some (.int (digV n))) h0) := by
  refine Con.intro (plainFor_of_name pn_1) ?_
  intro p e s m below meth c s₁ hx hby hml hrt hlk hZ hown hnm X0 e0
  replace hown : s.vm.findClass "com/example/austere_log/austerelog/log/Decimal" = some m.cls := hown
  refine GoOn.cast (ef_c_dig m n) ?_
  show GoOn p e below _ (s₁.setTop (mkF m 0 #[.val (.long n), .second, .unset, .unset, .unset] []))
  have hr := rng64 n
  have k10 : (10 : Int64).toInt = 10 := by decide
  have k0 : (0 : Int64).toInt = 0 := by decide
  refine GoOn.step (fun t₀ k₀ => XS.iconst X0.here hx rfl (hb hby d1_0) k₀) ?_
  show GoOn p e below _ (s₁.setTop (mkF m 1 #[.val (.long n), .second, .unset, .unset, .unset] [(.int (1 : Int32))]))
  refine GoOn.step (fun t₀ k₀ => XS.istoreN X0.here hx rfl (hb hby d1_1) rfl (l' := #[.val (.long n), .second, .val (.int (1 : Int32)), .unset, .unset]) rfl k₀) ?_
  show GoOn p e below _ (s₁.setTop (mkF m 2 #[.val (.long n), .second, .val (.int (1 : Int32)), .unset, .unset] []))
  refine GoOn.step (fun t₀ k₀ => XS.lloadN X0.here hx rfl (hb hby d1_2) rfl k₀) ?_
  show GoOn p e below _ (s₁.setTop (mkF m 3 #[.val (.long n), .second, .val (.int (1 : Int32)), .unset, .unset] [(.long n)]))
  refine GoOn.step (fun t₀ k₀ => X0.ldc2Long hx hown (mvT hZ (hw _ (List.mem_of_getElem? (i := 24) rfl))) (g := (mkF m 3 #[.val (.long n), .second, .val (.int (1 : Int32)), .unset, .unset] [(.long n)])) rfl (hb hby d1_3) t₀ k₀) ?_
  show GoOn p e below _ (s₁.setTop (mkF m 6 #[.val (.long n), .second, .val (.int (1 : Int32)), .unset, .unset] [(.long (10 : Int64)), (.long n)]))
  refine GoOn.step (fun t₀ k₀ => XS.ldiv X0.here hx rfl (hb hby d1_6) rfl (by decide) k₀) ?_
  show GoOn p e below _ (s₁.setTop (mkF m 7 #[.val (.long n), .second, .val (.int (1 : Int32)), .unset, .unset] [(.long (n / (10 : Int64)))]))
  refine GoOn.step (fun t₀ k₀ => XS.lstoreN X0.here hx rfl (hb hby d1_7) rfl (l' := #[.val (.long n), .second, .val (.int (1 : Int32)), .val (.long (n / (10 : Int64))), .second]) rfl k₀) ?_
  show GoOn p e below _ (s₁.setTop (mkF m 8 #[.val (.long n), .second, .val (.int (1 : Int32)), .val (.long (n / (10 : Int64))), .second] []))
  have J : ∀ (k : Nat) (cc : Int32) (t : Int64) (_ : t.toInt.toNat < k) (_ : 0 ≤ t.toInt) (_ : cc + Int32.ofNat (dz t.toInt.toNat) = digV n), GoOn p e below (EndQ s ({ frames := 0, cells := 0, slots := 0, locals := 0 } : Room) (PQ (some (.int (digV n))) h0)) (s₁.setTop (mkF m 8 #[.val (.long n), .second, .val (.int cc), .val (.long t), .second] [])) := by
    intro k
    induction k with
    | zero => intro cc t hk; omega
    | succ k ih =>
      intro cc t hk ht hv
      have htr := rng64 t
      show GoOn p e below _ (s₁.setTop (mkF m 8 #[.val (.long n), .second, .val (.int cc), .val (.long t), .second] []))
      refine GoOn.step (fun t₀ k₀ => XS.lloadN X0.here hx rfl (hb hby d1_8) rfl k₀) ?_
      show GoOn p e below _ (s₁.setTop (mkF m 9 #[.val (.long n), .second, .val (.int cc), .val (.long t), .second] [(.long t)]))
      refine GoOn.step (fun t₀ k₀ => XS.lconst X0.here hx rfl (hb hby d1_9) k₀) ?_
      show GoOn p e below _ (s₁.setTop (mkF m 10 #[.val (.long n), .second, .val (.int cc), .val (.long t), .second] [(.long (0 : Int64)), (.long t)]))
      refine GoOn.step (fun t₀ k₀ => XS.lcmp X0.here hx rfl (hb hby d1_10) rfl k₀) ?_
      show GoOn p e below _ (s₁.setTop (mkF m 11 #[.val (.long n), .second, .val (.int cc), .val (.long t), .second] [(.int (lcmpW t (0 : Int64)))]))
      by_cases hc : (0 : Int64) < t
      · refine GoOn.step (fun t₀ k₀ => XS.ifNo X0.here hx rfl (hb hby d1_11) rfl ((if0 _ _).trans (tlt ((lw_gt _ _).mpr hc)).2.2.2) k₀) ?_
        show GoOn p e below _ (s₁.setTop (mkF m 14 #[.val (.long n), .second, .val (.int cc), .val (.long t), .second] []))
        rw [Int64.lt_iff_toInt_lt, k0] at hc
        refine GoOn.step (fun t₀ k₀ => XS.iinc X0.here hx rfl (hb hby d1_14) rfl (l' := #[.val (.long n), .second, .val (.int (cc + (1 : Int32))), .val (.long t), .second]) rfl k₀) ?_
        show GoOn p e below _ (s₁.setTop (mkF m 17 #[.val (.long n), .second, .val (.int (cc + (1 : Int32))), .val (.long t), .second] []))
        refine GoOn.step (fun t₀ k₀ => XS.lloadN X0.here hx rfl (hb hby d1_17) rfl k₀) ?_
        show GoOn p e below _ (s₁.setTop (mkF m 18 #[.val (.long n), .second, .val (.int (cc + (1 : Int32))), .val (.long t), .second] [(.long t)]))
        refine GoOn.step (fun t₀ k₀ => X0.ldc2Long hx hown (mvT hZ (hw _ (List.mem_of_getElem? (i := 24) rfl))) (g := (mkF m 18 #[.val (.long n), .second, .val (.int (cc + (1 : Int32))), .val (.long t), .second] [(.long t)])) rfl (hb hby d1_18) t₀ k₀) ?_
        show GoOn p e below _ (s₁.setTop (mkF m 21 #[.val (.long n), .second, .val (.int (cc + (1 : Int32))), .val (.long t), .second] [(.long (10 : Int64)), (.long t)]))
        refine GoOn.step (fun t₀ k₀ => XS.ldiv X0.here hx rfl (hb hby d1_21) rfl (by decide) k₀) ?_
        show GoOn p e below _ (s₁.setTop (mkF m 22 #[.val (.long n), .second, .val (.int (cc + (1 : Int32))), .val (.long t), .second] [(.long (t / (10 : Int64)))]))
        refine GoOn.step (fun t₀ k₀ => XS.lstoreN X0.here hx rfl (hb hby d1_22) rfl (l' := #[.val (.long n), .second, .val (.int (cc + (1 : Int32))), .val (.long (t / (10 : Int64))), .second]) rfl k₀) ?_
        show GoOn p e below _ (s₁.setTop (mkF m 23 #[.val (.long n), .second, .val (.int (cc + (1 : Int32))), .val (.long (t / (10 : Int64))), .second] []))
        refine GoOn.step (fun t₀ k₀ => XS.goto X0.here hx rfl (pc0 := 23) (pc' := 8) rfl (hb hby d1_23) (by decide) (by decide) k₀) ?_
        show GoOn p e below _ (s₁.setTop (mkF m 8 #[.val (.long n), .second, .val (.int (cc + (1 : Int32))), .val (.long (t / (10 : Int64))), .second] []))
        have q := (c_ldiv t 10 10 k10 (by decide)).1 ht
        refine ih _ _ (by omega) (by omega) ?_
        rw [← hv, dzp (N := t.toInt.toNat) (by omega), show (t / (10 : Int64)).toInt.toNat = t.toInt.toNat / 10 from by omega, Int32.ofNat_add, ← Int32.add_assoc]
        rfl
      · refine GoOn.step (fun t₀ k₀ => XS.ifYes X0.here hx rfl (pc0 := 11) (pc' := 26) rfl (hb hby d1_11) rfl ((if0 _ _).trans (flt (mt (lw_gt _ _).mp hc)).2.2.2) (by decide) (by decide) k₀) ?_
        show GoOn p e below _ (s₁.setTop (mkF m 26 #[.val (.long n), .second, .val (.int cc), .val (.long t), .second] []))
        rw [Int64.lt_iff_toInt_lt, k0] at hc
        refine GoOn.step (fun t₀ k₀ => XS.iloadN X0.here hx rfl (hb hby d1_26) rfl k₀) ?_
        show GoOn p e below _ (s₁.setTop (mkF m 27 #[.val (.long n), .second, .val (.int cc), .val (.long t), .second] [(.int cc)]))
        rw [show t.toInt.toNat = 0 from by omega, dz0, show Int32.ofNat 0 = 0 from rfl, Int32.add_zero] at hv
        exact GoOn.retI X0 hx hrt hlk (hb hby d1_27) (by decide) (by decide) (by first | exact ⟨by rw [hv], rfl, rfl⟩ | (rw [e0]; exact ⟨by rw [hv], rfl, rfl⟩))
  have q := (c_ldiv n 10 10 k10 (by decide)).1 hn
  refine J (n.toInt.toNat + 1) _ _ (by omega) (by omega) ?_
  rw [digV, show (n / (10 : Int64)).toInt.toNat = n.toInt.toNat / 10 from by omega]
theorem ef_law_ok (m : MethodId) (x0 : Int64) (x1 : Int32) (x2 : Int32) (x3 : Int32) : entryFrame m #[(.long x0), (.int x1), (.int x2), (.int x3)] maxLocals = mkF m 0 #[.val (.long x0), .second, .val (.int x1), .val (.int x2), .val (.int x3), .unset, .unset, .unset, .unset] [] := by first | (simp [entryFrame, mkF, argsToLocals, Value.category, maxLocals]; done) | rfl
set_option maxRecDepth 65536 in
set_option maxHeartbeats 40000000 in
theorem law_ok (l : Launch) (Z : State) (a0 : Array Value) (hw : ∀ d ∈ tables_1, d.before a0 Z = true) (q0 : Int64) (q1 q2 q3 : Int32) (h0 : Heap) (n0 : Nat) (Z0 : n0 ≤ h0.size)  :
    Con l Z x code maxLocals ret room_1 #[(.long q0), (.int q1), (.int q2), (.int q3)] h0 (LQ n0) := by
  refine Con.intro (plainFor_of_name pn_0) ?_
  intro p e s m below meth c s₁ hx hby hml hrt hlk hZ hown hnm X0 e0
  replace hown : s.vm.findClass "com/example/austere_log/austerelog/log/DecimalDigitsPinLaw" = some m.cls := hown
  have N0 := Fr.nil n0
  refine GoOn.cast (ef_law_ok m q0 q1 q2 q3) ?_
  show GoOn p e below _ (s₁.setTop (mkF m 0 #[.val (.long q0), .second, .val (.int q1), .val (.int q2), .val (.int q3), .unset, .unset, .unset, .unset] []))
  refine GoOn.step (fun t₀ k₀ => XS.bipush X0.here hx rfl (hb hby at_0) k₀) ?_
  show GoOn p e below _ (s₁.setTop (mkF m 2 #[.val (.long q0), .second, .val (.int q1), .val (.int q2), .val (.int q3), .unset, .unset, .unset, .unset] [(.int (19 : Int32))]))
  obtain ⟨T19, h19, k19, X19, e19, E19, A19, st19⟩ := newP X0 hx hZ (hw _ (List.mem_of_getElem? (i := 0) rfl)) e0 (g := (mkF m 2 #[.val (.long q0), .second, .val (.int q1), .val (.int q2), .val (.int q3), .unset, .unset, .unset, .unset] [(.int (19 : Int32))])) rfl (hb hby at_2) rfl (by decide) (cap := 19) (by decide) (by decide) (by decide) (by decide)
  obtain ⟨b, g19⟩ : ∃ z, z = h0.size := ⟨_, rfl⟩
  rw [← g19] at A19 st19
  have le_b : n0 ≤ b := by rw [g19]; exact Z0
  replace Z0 := Nat.le_trans Z0 E19.1
  have J_b : Jar Z h19 b .long 19 (fun _ => defaultValue .long) := Jar.new A19 (by decide)
  refine GoOn.step st19 ?_
  show GoOn p e below _ (T19.setTop (mkF m 4 #[.val (.long q0), .second, .val (.int q1), .val (.int q2), .val (.int q3), .unset, .unset, .unset, .unset] [(.ref b)]))
  refine GoOn.step (fun t₀ k₀ => XS.dup X19.here hx rfl (hb hby at_4) rfl rfl k₀) ?_
  show GoOn p e below _ (T19.setTop (mkF m 5 #[.val (.long q0), .second, .val (.int q1), .val (.int q2), .val (.int q3), .unset, .unset, .unset, .unset] [(.ref b), (.ref b)]))
  refine GoOn.step (fun t₀ k₀ => XS.iconst X19.here hx rfl (hb hby at_5) k₀) ?_
  show GoOn p e below _ (T19.setTop (mkF m 6 #[.val (.long q0), .second, .val (.int q1), .val (.int q2), .val (.int q3), .unset, .unset, .unset, .unset] [(.int (0 : Int32)), (.ref b), (.ref b)]))
  refine GoOn.step (fun t₀ k₀ => XS.lconst X19.here hx rfl (hb hby at_6) k₀) ?_
  show GoOn p e below _ (T19.setTop (mkF m 7 #[.val (.long q0), .second, .val (.int q1), .val (.int q2), .val (.int q3), .unset, .unset, .unset, .unset] [(.long (1 : Int64)), (.int (0 : Int32)), (.ref b), (.ref b)]))
  obtain ⟨T20, h20, X20, e20, W20, st20⟩ := kStJ X19 hx hZ e19 J_b (j := (0 : Int32)) ⟨by decide, by decide⟩ (g := (mkF m 7 #[.val (.long q0), .second, .val (.int q1), .val (.int q2), .val (.int q3), .unset, .unset, .unset, .unset] [(.long (1 : Int64)), (.int (0 : Int32)), (.ref b), (.ref b)])) rfl rfl (hb hby at_7)
  replace N0 := Fr.snoc X20 N0 le_b
  replace J_b := J_b.set W20
  replace Z0 := Nat.le_trans Z0 (Nat.le_of_eq W20.size.symm)
  refine GoOn.step st20 ?_
  show GoOn p e below _ (T20.setTop (mkF m 8 #[.val (.long q0), .second, .val (.int q1), .val (.int q2), .val (.int q3), .unset, .unset, .unset, .unset] [(.ref b)]))
  refine GoOn.step (fun t₀ k₀ => XS.dup X20.here hx rfl (hb hby at_8) rfl rfl k₀) ?_
  show GoOn p e below _ (T20.setTop (mkF m 9 #[.val (.long q0), .second, .val (.int q1), .val (.int q2), .val (.int q3), .unset, .unset, .unset, .unset] [(.ref b), (.ref b)]))
  refine GoOn.step (fun t₀ k₀ => XS.iconst X20.here hx rfl (hb hby at_9) k₀) ?_
  show GoOn p e below _ (T20.setTop (mkF m 10 #[.val (.long q0), .second, .val (.int q1), .val (.int q2), .val (.int q3), .unset, .unset, .unset, .unset] [(.int (1 : Int32)), (.ref b), (.ref b)]))
  refine GoOn.step (fun t₀ k₀ => X20.ldc2Long hx hown (mvT hZ (hw _ (List.mem_of_getElem? (i := 1) rfl))) (g := (mkF m 10 #[.val (.long q0), .second, .val (.int q1), .val (.int q2), .val (.int q3), .unset, .unset, .unset, .unset] [(.int (1 : Int32)), (.ref b), (.ref b)])) rfl (hb hby at_10) t₀ k₀) ?_
  show GoOn p e below _ (T20.setTop (mkF m 13 #[.val (.long q0), .second, .val (.int q1), .val (.int q2), .val (.int q3), .unset, .unset, .unset, .unset] [(.long (10 : Int64)), (.int (1 : Int32)), (.ref b), (.ref b)]))
  obtain ⟨T21, h21, X21, e21, W21, st21⟩ := kStJ X20 hx hZ e20 J_b (j := (1 : Int32)) ⟨by decide, by decide⟩ (g := (mkF m 13 #[.val (.long q0), .second, .val (.int q1), .val (.int q2), .val (.int q3), .unset, .unset, .unset, .unset] [(.long (10 : Int64)), (.int (1 : Int32)), (.ref b), (.ref b)])) rfl rfl (hb hby at_13)
  replace N0 := Fr.snoc X21 N0 le_b
  replace J_b := J_b.set W21
  replace Z0 := Nat.le_trans Z0 (Nat.le_of_eq W21.size.symm)
  refine GoOn.step st21 ?_
  show GoOn p e below _ (T21.setTop (mkF m 14 #[.val (.long q0), .second, .val (.int q1), .val (.int q2), .val (.int q3), .unset, .unset, .unset, .unset] [(.ref b)]))
  refine GoOn.step (fun t₀ k₀ => XS.dup X21.here hx rfl (hb hby at_14) rfl rfl k₀) ?_
  show GoOn p e below _ (T21.setTop (mkF m 15 #[.val (.long q0), .second, .val (.int q1), .val (.int q2), .val (.int q3), .unset, .unset, .unset, .unset] [(.ref b), (.ref b)]))
  refine GoOn.step (fun t₀ k₀ => XS.iconst X21.here hx rfl (hb hby at_15) k₀) ?_
  show GoOn p e below _ (T21.setTop (mkF m 16 #[.val (.long q0), .second, .val (.int q1), .val (.int q2), .val (.int q3), .unset, .unset, .unset, .unset] [(.int (2 : Int32)), (.ref b), (.ref b)]))
  refine GoOn.step (fun t₀ k₀ => X21.ldc2Long hx hown (mvT hZ (hw _ (List.mem_of_getElem? (i := 2) rfl))) (g := (mkF m 16 #[.val (.long q0), .second, .val (.int q1), .val (.int q2), .val (.int q3), .unset, .unset, .unset, .unset] [(.int (2 : Int32)), (.ref b), (.ref b)])) rfl (hb hby at_16) t₀ k₀) ?_
  show GoOn p e below _ (T21.setTop (mkF m 19 #[.val (.long q0), .second, .val (.int q1), .val (.int q2), .val (.int q3), .unset, .unset, .unset, .unset] [(.long (100 : Int64)), (.int (2 : Int32)), (.ref b), (.ref b)]))
  obtain ⟨T22, h22, X22, e22, W22, st22⟩ := kStJ X21 hx hZ e21 J_b (j := (2 : Int32)) ⟨by decide, by decide⟩ (g := (mkF m 19 #[.val (.long q0), .second, .val (.int q1), .val (.int q2), .val (.int q3), .unset, .unset, .unset, .unset] [(.long (100 : Int64)), (.int (2 : Int32)), (.ref b), (.ref b)])) rfl rfl (hb hby at_19)
  replace N0 := Fr.snoc X22 N0 le_b
  replace J_b := J_b.set W22
  replace Z0 := Nat.le_trans Z0 (Nat.le_of_eq W22.size.symm)
  refine GoOn.step st22 ?_
  show GoOn p e below _ (T22.setTop (mkF m 20 #[.val (.long q0), .second, .val (.int q1), .val (.int q2), .val (.int q3), .unset, .unset, .unset, .unset] [(.ref b)]))
  refine GoOn.step (fun t₀ k₀ => XS.dup X22.here hx rfl (hb hby at_20) rfl rfl k₀) ?_
  show GoOn p e below _ (T22.setTop (mkF m 21 #[.val (.long q0), .second, .val (.int q1), .val (.int q2), .val (.int q3), .unset, .unset, .unset, .unset] [(.ref b), (.ref b)]))
  refine GoOn.step (fun t₀ k₀ => XS.iconst X22.here hx rfl (hb hby at_21) k₀) ?_
  show GoOn p e below _ (T22.setTop (mkF m 22 #[.val (.long q0), .second, .val (.int q1), .val (.int q2), .val (.int q3), .unset, .unset, .unset, .unset] [(.int (3 : Int32)), (.ref b), (.ref b)]))
  refine GoOn.step (fun t₀ k₀ => X22.ldc2Long hx hown (mvT hZ (hw _ (List.mem_of_getElem? (i := 3) rfl))) (g := (mkF m 22 #[.val (.long q0), .second, .val (.int q1), .val (.int q2), .val (.int q3), .unset, .unset, .unset, .unset] [(.int (3 : Int32)), (.ref b), (.ref b)])) rfl (hb hby at_22) t₀ k₀) ?_
  show GoOn p e below _ (T22.setTop (mkF m 25 #[.val (.long q0), .second, .val (.int q1), .val (.int q2), .val (.int q3), .unset, .unset, .unset, .unset] [(.long (1000 : Int64)), (.int (3 : Int32)), (.ref b), (.ref b)]))
  obtain ⟨T23, h23, X23, e23, W23, st23⟩ := kStJ X22 hx hZ e22 J_b (j := (3 : Int32)) ⟨by decide, by decide⟩ (g := (mkF m 25 #[.val (.long q0), .second, .val (.int q1), .val (.int q2), .val (.int q3), .unset, .unset, .unset, .unset] [(.long (1000 : Int64)), (.int (3 : Int32)), (.ref b), (.ref b)])) rfl rfl (hb hby at_25)
  replace N0 := Fr.snoc X23 N0 le_b
  replace J_b := J_b.set W23
  replace Z0 := Nat.le_trans Z0 (Nat.le_of_eq W23.size.symm)
  refine GoOn.step st23 ?_
  show GoOn p e below _ (T23.setTop (mkF m 26 #[.val (.long q0), .second, .val (.int q1), .val (.int q2), .val (.int q3), .unset, .unset, .unset, .unset] [(.ref b)]))
  refine GoOn.step (fun t₀ k₀ => XS.dup X23.here hx rfl (hb hby at_26) rfl rfl k₀) ?_
  show GoOn p e below _ (T23.setTop (mkF m 27 #[.val (.long q0), .second, .val (.int q1), .val (.int q2), .val (.int q3), .unset, .unset, .unset, .unset] [(.ref b), (.ref b)]))
  refine GoOn.step (fun t₀ k₀ => XS.iconst X23.here hx rfl (hb hby at_27) k₀) ?_
  show GoOn p e below _ (T23.setTop (mkF m 28 #[.val (.long q0), .second, .val (.int q1), .val (.int q2), .val (.int q3), .unset, .unset, .unset, .unset] [(.int (4 : Int32)), (.ref b), (.ref b)]))
  refine GoOn.step (fun t₀ k₀ => X23.ldc2Long hx hown (mvT hZ (hw _ (List.mem_of_getElem? (i := 4) rfl))) (g := (mkF m 28 #[.val (.long q0), .second, .val (.int q1), .val (.int q2), .val (.int q3), .unset, .unset, .unset, .unset] [(.int (4 : Int32)), (.ref b), (.ref b)])) rfl (hb hby at_28) t₀ k₀) ?_
  show GoOn p e below _ (T23.setTop (mkF m 31 #[.val (.long q0), .second, .val (.int q1), .val (.int q2), .val (.int q3), .unset, .unset, .unset, .unset] [(.long (10000 : Int64)), (.int (4 : Int32)), (.ref b), (.ref b)]))
  obtain ⟨T24, h24, X24, e24, W24, st24⟩ := kStJ X23 hx hZ e23 J_b (j := (4 : Int32)) ⟨by decide, by decide⟩ (g := (mkF m 31 #[.val (.long q0), .second, .val (.int q1), .val (.int q2), .val (.int q3), .unset, .unset, .unset, .unset] [(.long (10000 : Int64)), (.int (4 : Int32)), (.ref b), (.ref b)])) rfl rfl (hb hby at_31)
  replace N0 := Fr.snoc X24 N0 le_b
  replace J_b := J_b.set W24
  replace Z0 := Nat.le_trans Z0 (Nat.le_of_eq W24.size.symm)
  refine GoOn.step st24 ?_
  show GoOn p e below _ (T24.setTop (mkF m 32 #[.val (.long q0), .second, .val (.int q1), .val (.int q2), .val (.int q3), .unset, .unset, .unset, .unset] [(.ref b)]))
  refine GoOn.step (fun t₀ k₀ => XS.dup X24.here hx rfl (hb hby at_32) rfl rfl k₀) ?_
  show GoOn p e below _ (T24.setTop (mkF m 33 #[.val (.long q0), .second, .val (.int q1), .val (.int q2), .val (.int q3), .unset, .unset, .unset, .unset] [(.ref b), (.ref b)]))
  refine GoOn.step (fun t₀ k₀ => XS.iconst X24.here hx rfl (hb hby at_33) k₀) ?_
  show GoOn p e below _ (T24.setTop (mkF m 34 #[.val (.long q0), .second, .val (.int q1), .val (.int q2), .val (.int q3), .unset, .unset, .unset, .unset] [(.int (5 : Int32)), (.ref b), (.ref b)]))
  refine GoOn.step (fun t₀ k₀ => X24.ldc2Long hx hown (mvT hZ (hw _ (List.mem_of_getElem? (i := 5) rfl))) (g := (mkF m 34 #[.val (.long q0), .second, .val (.int q1), .val (.int q2), .val (.int q3), .unset, .unset, .unset, .unset] [(.int (5 : Int32)), (.ref b), (.ref b)])) rfl (hb hby at_34) t₀ k₀) ?_
  show GoOn p e below _ (T24.setTop (mkF m 37 #[.val (.long q0), .second, .val (.int q1), .val (.int q2), .val (.int q3), .unset, .unset, .unset, .unset] [(.long (100000 : Int64)), (.int (5 : Int32)), (.ref b), (.ref b)]))
  obtain ⟨T25, h25, X25, e25, W25, st25⟩ := kStJ X24 hx hZ e24 J_b (j := (5 : Int32)) ⟨by decide, by decide⟩ (g := (mkF m 37 #[.val (.long q0), .second, .val (.int q1), .val (.int q2), .val (.int q3), .unset, .unset, .unset, .unset] [(.long (100000 : Int64)), (.int (5 : Int32)), (.ref b), (.ref b)])) rfl rfl (hb hby at_37)
  replace N0 := Fr.snoc X25 N0 le_b
  replace J_b := J_b.set W25
  replace Z0 := Nat.le_trans Z0 (Nat.le_of_eq W25.size.symm)
  refine GoOn.step st25 ?_
  show GoOn p e below _ (T25.setTop (mkF m 38 #[.val (.long q0), .second, .val (.int q1), .val (.int q2), .val (.int q3), .unset, .unset, .unset, .unset] [(.ref b)]))
  refine GoOn.step (fun t₀ k₀ => XS.dup X25.here hx rfl (hb hby at_38) rfl rfl k₀) ?_
  show GoOn p e below _ (T25.setTop (mkF m 39 #[.val (.long q0), .second, .val (.int q1), .val (.int q2), .val (.int q3), .unset, .unset, .unset, .unset] [(.ref b), (.ref b)]))
  refine GoOn.step (fun t₀ k₀ => XS.bipush X25.here hx rfl (hb hby at_39) k₀) ?_
  show GoOn p e below _ (T25.setTop (mkF m 41 #[.val (.long q0), .second, .val (.int q1), .val (.int q2), .val (.int q3), .unset, .unset, .unset, .unset] [(.int (6 : Int32)), (.ref b), (.ref b)]))
  refine GoOn.step (fun t₀ k₀ => X25.ldc2Long hx hown (mvT hZ (hw _ (List.mem_of_getElem? (i := 6) rfl))) (g := (mkF m 41 #[.val (.long q0), .second, .val (.int q1), .val (.int q2), .val (.int q3), .unset, .unset, .unset, .unset] [(.int (6 : Int32)), (.ref b), (.ref b)])) rfl (hb hby at_41) t₀ k₀) ?_
  show GoOn p e below _ (T25.setTop (mkF m 44 #[.val (.long q0), .second, .val (.int q1), .val (.int q2), .val (.int q3), .unset, .unset, .unset, .unset] [(.long (1000000 : Int64)), (.int (6 : Int32)), (.ref b), (.ref b)]))
  obtain ⟨T26, h26, X26, e26, W26, st26⟩ := kStJ X25 hx hZ e25 J_b (j := (6 : Int32)) ⟨by decide, by decide⟩ (g := (mkF m 44 #[.val (.long q0), .second, .val (.int q1), .val (.int q2), .val (.int q3), .unset, .unset, .unset, .unset] [(.long (1000000 : Int64)), (.int (6 : Int32)), (.ref b), (.ref b)])) rfl rfl (hb hby at_44)
  replace N0 := Fr.snoc X26 N0 le_b
  replace J_b := J_b.set W26
  replace Z0 := Nat.le_trans Z0 (Nat.le_of_eq W26.size.symm)
  refine GoOn.step st26 ?_
  show GoOn p e below _ (T26.setTop (mkF m 45 #[.val (.long q0), .second, .val (.int q1), .val (.int q2), .val (.int q3), .unset, .unset, .unset, .unset] [(.ref b)]))
  refine GoOn.step (fun t₀ k₀ => XS.dup X26.here hx rfl (hb hby at_45) rfl rfl k₀) ?_
  show GoOn p e below _ (T26.setTop (mkF m 46 #[.val (.long q0), .second, .val (.int q1), .val (.int q2), .val (.int q3), .unset, .unset, .unset, .unset] [(.ref b), (.ref b)]))
  refine GoOn.step (fun t₀ k₀ => XS.bipush X26.here hx rfl (hb hby at_46) k₀) ?_
  show GoOn p e below _ (T26.setTop (mkF m 48 #[.val (.long q0), .second, .val (.int q1), .val (.int q2), .val (.int q3), .unset, .unset, .unset, .unset] [(.int (7 : Int32)), (.ref b), (.ref b)]))
  refine GoOn.step (fun t₀ k₀ => X26.ldc2Long hx hown (mvT hZ (hw _ (List.mem_of_getElem? (i := 7) rfl))) (g := (mkF m 48 #[.val (.long q0), .second, .val (.int q1), .val (.int q2), .val (.int q3), .unset, .unset, .unset, .unset] [(.int (7 : Int32)), (.ref b), (.ref b)])) rfl (hb hby at_48) t₀ k₀) ?_
  show GoOn p e below _ (T26.setTop (mkF m 51 #[.val (.long q0), .second, .val (.int q1), .val (.int q2), .val (.int q3), .unset, .unset, .unset, .unset] [(.long (10000000 : Int64)), (.int (7 : Int32)), (.ref b), (.ref b)]))
  obtain ⟨T27, h27, X27, e27, W27, st27⟩ := kStJ X26 hx hZ e26 J_b (j := (7 : Int32)) ⟨by decide, by decide⟩ (g := (mkF m 51 #[.val (.long q0), .second, .val (.int q1), .val (.int q2), .val (.int q3), .unset, .unset, .unset, .unset] [(.long (10000000 : Int64)), (.int (7 : Int32)), (.ref b), (.ref b)])) rfl rfl (hb hby at_51)
  replace N0 := Fr.snoc X27 N0 le_b
  replace J_b := J_b.set W27
  replace Z0 := Nat.le_trans Z0 (Nat.le_of_eq W27.size.symm)
  refine GoOn.step st27 ?_
  show GoOn p e below _ (T27.setTop (mkF m 52 #[.val (.long q0), .second, .val (.int q1), .val (.int q2), .val (.int q3), .unset, .unset, .unset, .unset] [(.ref b)]))
  refine GoOn.step (fun t₀ k₀ => XS.dup X27.here hx rfl (hb hby at_52) rfl rfl k₀) ?_
  show GoOn p e below _ (T27.setTop (mkF m 53 #[.val (.long q0), .second, .val (.int q1), .val (.int q2), .val (.int q3), .unset, .unset, .unset, .unset] [(.ref b), (.ref b)]))
  refine GoOn.step (fun t₀ k₀ => XS.bipush X27.here hx rfl (hb hby at_53) k₀) ?_
  show GoOn p e below _ (T27.setTop (mkF m 55 #[.val (.long q0), .second, .val (.int q1), .val (.int q2), .val (.int q3), .unset, .unset, .unset, .unset] [(.int (8 : Int32)), (.ref b), (.ref b)]))
  refine GoOn.step (fun t₀ k₀ => X27.ldc2Long hx hown (mvT hZ (hw _ (List.mem_of_getElem? (i := 8) rfl))) (g := (mkF m 55 #[.val (.long q0), .second, .val (.int q1), .val (.int q2), .val (.int q3), .unset, .unset, .unset, .unset] [(.int (8 : Int32)), (.ref b), (.ref b)])) rfl (hb hby at_55) t₀ k₀) ?_
  show GoOn p e below _ (T27.setTop (mkF m 58 #[.val (.long q0), .second, .val (.int q1), .val (.int q2), .val (.int q3), .unset, .unset, .unset, .unset] [(.long (100000000 : Int64)), (.int (8 : Int32)), (.ref b), (.ref b)]))
  obtain ⟨T28, h28, X28, e28, W28, st28⟩ := kStJ X27 hx hZ e27 J_b (j := (8 : Int32)) ⟨by decide, by decide⟩ (g := (mkF m 58 #[.val (.long q0), .second, .val (.int q1), .val (.int q2), .val (.int q3), .unset, .unset, .unset, .unset] [(.long (100000000 : Int64)), (.int (8 : Int32)), (.ref b), (.ref b)])) rfl rfl (hb hby at_58)
  replace N0 := Fr.snoc X28 N0 le_b
  replace J_b := J_b.set W28
  replace Z0 := Nat.le_trans Z0 (Nat.le_of_eq W28.size.symm)
  refine GoOn.step st28 ?_
  show GoOn p e below _ (T28.setTop (mkF m 59 #[.val (.long q0), .second, .val (.int q1), .val (.int q2), .val (.int q3), .unset, .unset, .unset, .unset] [(.ref b)]))
  refine GoOn.step (fun t₀ k₀ => XS.dup X28.here hx rfl (hb hby at_59) rfl rfl k₀) ?_
  show GoOn p e below _ (T28.setTop (mkF m 60 #[.val (.long q0), .second, .val (.int q1), .val (.int q2), .val (.int q3), .unset, .unset, .unset, .unset] [(.ref b), (.ref b)]))
  refine GoOn.step (fun t₀ k₀ => XS.bipush X28.here hx rfl (hb hby at_60) k₀) ?_
  show GoOn p e below _ (T28.setTop (mkF m 62 #[.val (.long q0), .second, .val (.int q1), .val (.int q2), .val (.int q3), .unset, .unset, .unset, .unset] [(.int (9 : Int32)), (.ref b), (.ref b)]))
  refine GoOn.step (fun t₀ k₀ => X28.ldc2Long hx hown (mvT hZ (hw _ (List.mem_of_getElem? (i := 9) rfl))) (g := (mkF m 62 #[.val (.long q0), .second, .val (.int q1), .val (.int q2), .val (.int q3), .unset, .unset, .unset, .unset] [(.int (9 : Int32)), (.ref b), (.ref b)])) rfl (hb hby at_62) t₀ k₀) ?_
  show GoOn p e below _ (T28.setTop (mkF m 65 #[.val (.long q0), .second, .val (.int q1), .val (.int q2), .val (.int q3), .unset, .unset, .unset, .unset] [(.long (1000000000 : Int64)), (.int (9 : Int32)), (.ref b), (.ref b)]))
  obtain ⟨T29, h29, X29, e29, W29, st29⟩ := kStJ X28 hx hZ e28 J_b (j := (9 : Int32)) ⟨by decide, by decide⟩ (g := (mkF m 65 #[.val (.long q0), .second, .val (.int q1), .val (.int q2), .val (.int q3), .unset, .unset, .unset, .unset] [(.long (1000000000 : Int64)), (.int (9 : Int32)), (.ref b), (.ref b)])) rfl rfl (hb hby at_65)
  replace N0 := Fr.snoc X29 N0 le_b
  replace J_b := J_b.set W29
  replace Z0 := Nat.le_trans Z0 (Nat.le_of_eq W29.size.symm)
  refine GoOn.step st29 ?_
  show GoOn p e below _ (T29.setTop (mkF m 66 #[.val (.long q0), .second, .val (.int q1), .val (.int q2), .val (.int q3), .unset, .unset, .unset, .unset] [(.ref b)]))
  refine GoOn.step (fun t₀ k₀ => XS.dup X29.here hx rfl (hb hby at_66) rfl rfl k₀) ?_
  show GoOn p e below _ (T29.setTop (mkF m 67 #[.val (.long q0), .second, .val (.int q1), .val (.int q2), .val (.int q3), .unset, .unset, .unset, .unset] [(.ref b), (.ref b)]))
  refine GoOn.step (fun t₀ k₀ => XS.bipush X29.here hx rfl (hb hby at_67) k₀) ?_
  show GoOn p e below _ (T29.setTop (mkF m 69 #[.val (.long q0), .second, .val (.int q1), .val (.int q2), .val (.int q3), .unset, .unset, .unset, .unset] [(.int (10 : Int32)), (.ref b), (.ref b)]))
  refine GoOn.step (fun t₀ k₀ => X29.ldc2Long hx hown (mvT hZ (hw _ (List.mem_of_getElem? (i := 10) rfl))) (g := (mkF m 69 #[.val (.long q0), .second, .val (.int q1), .val (.int q2), .val (.int q3), .unset, .unset, .unset, .unset] [(.int (10 : Int32)), (.ref b), (.ref b)])) rfl (hb hby at_69) t₀ k₀) ?_
  show GoOn p e below _ (T29.setTop (mkF m 72 #[.val (.long q0), .second, .val (.int q1), .val (.int q2), .val (.int q3), .unset, .unset, .unset, .unset] [(.long (10000000000 : Int64)), (.int (10 : Int32)), (.ref b), (.ref b)]))
  obtain ⟨T30, h30, X30, e30, W30, st30⟩ := kStJ X29 hx hZ e29 J_b (j := (10 : Int32)) ⟨by decide, by decide⟩ (g := (mkF m 72 #[.val (.long q0), .second, .val (.int q1), .val (.int q2), .val (.int q3), .unset, .unset, .unset, .unset] [(.long (10000000000 : Int64)), (.int (10 : Int32)), (.ref b), (.ref b)])) rfl rfl (hb hby at_72)
  replace N0 := Fr.snoc X30 N0 le_b
  replace J_b := J_b.set W30
  replace Z0 := Nat.le_trans Z0 (Nat.le_of_eq W30.size.symm)
  refine GoOn.step st30 ?_
  show GoOn p e below _ (T30.setTop (mkF m 73 #[.val (.long q0), .second, .val (.int q1), .val (.int q2), .val (.int q3), .unset, .unset, .unset, .unset] [(.ref b)]))
  refine GoOn.step (fun t₀ k₀ => XS.dup X30.here hx rfl (hb hby at_73) rfl rfl k₀) ?_
  show GoOn p e below _ (T30.setTop (mkF m 74 #[.val (.long q0), .second, .val (.int q1), .val (.int q2), .val (.int q3), .unset, .unset, .unset, .unset] [(.ref b), (.ref b)]))
  refine GoOn.step (fun t₀ k₀ => XS.bipush X30.here hx rfl (hb hby at_74) k₀) ?_
  show GoOn p e below _ (T30.setTop (mkF m 76 #[.val (.long q0), .second, .val (.int q1), .val (.int q2), .val (.int q3), .unset, .unset, .unset, .unset] [(.int (11 : Int32)), (.ref b), (.ref b)]))
  refine GoOn.step (fun t₀ k₀ => X30.ldc2Long hx hown (mvT hZ (hw _ (List.mem_of_getElem? (i := 11) rfl))) (g := (mkF m 76 #[.val (.long q0), .second, .val (.int q1), .val (.int q2), .val (.int q3), .unset, .unset, .unset, .unset] [(.int (11 : Int32)), (.ref b), (.ref b)])) rfl (hb hby at_76) t₀ k₀) ?_
  show GoOn p e below _ (T30.setTop (mkF m 79 #[.val (.long q0), .second, .val (.int q1), .val (.int q2), .val (.int q3), .unset, .unset, .unset, .unset] [(.long (100000000000 : Int64)), (.int (11 : Int32)), (.ref b), (.ref b)]))
  obtain ⟨T31, h31, X31, e31, W31, st31⟩ := kStJ X30 hx hZ e30 J_b (j := (11 : Int32)) ⟨by decide, by decide⟩ (g := (mkF m 79 #[.val (.long q0), .second, .val (.int q1), .val (.int q2), .val (.int q3), .unset, .unset, .unset, .unset] [(.long (100000000000 : Int64)), (.int (11 : Int32)), (.ref b), (.ref b)])) rfl rfl (hb hby at_79)
  replace N0 := Fr.snoc X31 N0 le_b
  replace J_b := J_b.set W31
  replace Z0 := Nat.le_trans Z0 (Nat.le_of_eq W31.size.symm)
  refine GoOn.step st31 ?_
  show GoOn p e below _ (T31.setTop (mkF m 80 #[.val (.long q0), .second, .val (.int q1), .val (.int q2), .val (.int q3), .unset, .unset, .unset, .unset] [(.ref b)]))
  refine GoOn.step (fun t₀ k₀ => XS.dup X31.here hx rfl (hb hby at_80) rfl rfl k₀) ?_
  show GoOn p e below _ (T31.setTop (mkF m 81 #[.val (.long q0), .second, .val (.int q1), .val (.int q2), .val (.int q3), .unset, .unset, .unset, .unset] [(.ref b), (.ref b)]))
  refine GoOn.step (fun t₀ k₀ => XS.bipush X31.here hx rfl (hb hby at_81) k₀) ?_
  show GoOn p e below _ (T31.setTop (mkF m 83 #[.val (.long q0), .second, .val (.int q1), .val (.int q2), .val (.int q3), .unset, .unset, .unset, .unset] [(.int (12 : Int32)), (.ref b), (.ref b)]))
  refine GoOn.step (fun t₀ k₀ => X31.ldc2Long hx hown (mvT hZ (hw _ (List.mem_of_getElem? (i := 12) rfl))) (g := (mkF m 83 #[.val (.long q0), .second, .val (.int q1), .val (.int q2), .val (.int q3), .unset, .unset, .unset, .unset] [(.int (12 : Int32)), (.ref b), (.ref b)])) rfl (hb hby at_83) t₀ k₀) ?_
  show GoOn p e below _ (T31.setTop (mkF m 86 #[.val (.long q0), .second, .val (.int q1), .val (.int q2), .val (.int q3), .unset, .unset, .unset, .unset] [(.long (1000000000000 : Int64)), (.int (12 : Int32)), (.ref b), (.ref b)]))
  obtain ⟨T32, h32, X32, e32, W32, st32⟩ := kStJ X31 hx hZ e31 J_b (j := (12 : Int32)) ⟨by decide, by decide⟩ (g := (mkF m 86 #[.val (.long q0), .second, .val (.int q1), .val (.int q2), .val (.int q3), .unset, .unset, .unset, .unset] [(.long (1000000000000 : Int64)), (.int (12 : Int32)), (.ref b), (.ref b)])) rfl rfl (hb hby at_86)
  replace N0 := Fr.snoc X32 N0 le_b
  replace J_b := J_b.set W32
  replace Z0 := Nat.le_trans Z0 (Nat.le_of_eq W32.size.symm)
  refine GoOn.step st32 ?_
  show GoOn p e below _ (T32.setTop (mkF m 87 #[.val (.long q0), .second, .val (.int q1), .val (.int q2), .val (.int q3), .unset, .unset, .unset, .unset] [(.ref b)]))
  refine GoOn.step (fun t₀ k₀ => XS.dup X32.here hx rfl (hb hby at_87) rfl rfl k₀) ?_
  show GoOn p e below _ (T32.setTop (mkF m 88 #[.val (.long q0), .second, .val (.int q1), .val (.int q2), .val (.int q3), .unset, .unset, .unset, .unset] [(.ref b), (.ref b)]))
  refine GoOn.step (fun t₀ k₀ => XS.bipush X32.here hx rfl (hb hby at_88) k₀) ?_
  show GoOn p e below _ (T32.setTop (mkF m 90 #[.val (.long q0), .second, .val (.int q1), .val (.int q2), .val (.int q3), .unset, .unset, .unset, .unset] [(.int (13 : Int32)), (.ref b), (.ref b)]))
  refine GoOn.step (fun t₀ k₀ => X32.ldc2Long hx hown (mvT hZ (hw _ (List.mem_of_getElem? (i := 13) rfl))) (g := (mkF m 90 #[.val (.long q0), .second, .val (.int q1), .val (.int q2), .val (.int q3), .unset, .unset, .unset, .unset] [(.int (13 : Int32)), (.ref b), (.ref b)])) rfl (hb hby at_90) t₀ k₀) ?_
  show GoOn p e below _ (T32.setTop (mkF m 93 #[.val (.long q0), .second, .val (.int q1), .val (.int q2), .val (.int q3), .unset, .unset, .unset, .unset] [(.long (10000000000000 : Int64)), (.int (13 : Int32)), (.ref b), (.ref b)]))
  obtain ⟨T33, h33, X33, e33, W33, st33⟩ := kStJ X32 hx hZ e32 J_b (j := (13 : Int32)) ⟨by decide, by decide⟩ (g := (mkF m 93 #[.val (.long q0), .second, .val (.int q1), .val (.int q2), .val (.int q3), .unset, .unset, .unset, .unset] [(.long (10000000000000 : Int64)), (.int (13 : Int32)), (.ref b), (.ref b)])) rfl rfl (hb hby at_93)
  replace N0 := Fr.snoc X33 N0 le_b
  replace J_b := J_b.set W33
  replace Z0 := Nat.le_trans Z0 (Nat.le_of_eq W33.size.symm)
  refine GoOn.step st33 ?_
  show GoOn p e below _ (T33.setTop (mkF m 94 #[.val (.long q0), .second, .val (.int q1), .val (.int q2), .val (.int q3), .unset, .unset, .unset, .unset] [(.ref b)]))
  refine GoOn.step (fun t₀ k₀ => XS.dup X33.here hx rfl (hb hby at_94) rfl rfl k₀) ?_
  show GoOn p e below _ (T33.setTop (mkF m 95 #[.val (.long q0), .second, .val (.int q1), .val (.int q2), .val (.int q3), .unset, .unset, .unset, .unset] [(.ref b), (.ref b)]))
  refine GoOn.step (fun t₀ k₀ => XS.bipush X33.here hx rfl (hb hby at_95) k₀) ?_
  show GoOn p e below _ (T33.setTop (mkF m 97 #[.val (.long q0), .second, .val (.int q1), .val (.int q2), .val (.int q3), .unset, .unset, .unset, .unset] [(.int (14 : Int32)), (.ref b), (.ref b)]))
  refine GoOn.step (fun t₀ k₀ => X33.ldc2Long hx hown (mvT hZ (hw _ (List.mem_of_getElem? (i := 14) rfl))) (g := (mkF m 97 #[.val (.long q0), .second, .val (.int q1), .val (.int q2), .val (.int q3), .unset, .unset, .unset, .unset] [(.int (14 : Int32)), (.ref b), (.ref b)])) rfl (hb hby at_97) t₀ k₀) ?_
  show GoOn p e below _ (T33.setTop (mkF m 100 #[.val (.long q0), .second, .val (.int q1), .val (.int q2), .val (.int q3), .unset, .unset, .unset, .unset] [(.long (100000000000000 : Int64)), (.int (14 : Int32)), (.ref b), (.ref b)]))
  obtain ⟨T34, h34, X34, e34, W34, st34⟩ := kStJ X33 hx hZ e33 J_b (j := (14 : Int32)) ⟨by decide, by decide⟩ (g := (mkF m 100 #[.val (.long q0), .second, .val (.int q1), .val (.int q2), .val (.int q3), .unset, .unset, .unset, .unset] [(.long (100000000000000 : Int64)), (.int (14 : Int32)), (.ref b), (.ref b)])) rfl rfl (hb hby at_100)
  replace N0 := Fr.snoc X34 N0 le_b
  replace J_b := J_b.set W34
  replace Z0 := Nat.le_trans Z0 (Nat.le_of_eq W34.size.symm)
  refine GoOn.step st34 ?_
  show GoOn p e below _ (T34.setTop (mkF m 101 #[.val (.long q0), .second, .val (.int q1), .val (.int q2), .val (.int q3), .unset, .unset, .unset, .unset] [(.ref b)]))
  refine GoOn.step (fun t₀ k₀ => XS.dup X34.here hx rfl (hb hby at_101) rfl rfl k₀) ?_
  show GoOn p e below _ (T34.setTop (mkF m 102 #[.val (.long q0), .second, .val (.int q1), .val (.int q2), .val (.int q3), .unset, .unset, .unset, .unset] [(.ref b), (.ref b)]))
  refine GoOn.step (fun t₀ k₀ => XS.bipush X34.here hx rfl (hb hby at_102) k₀) ?_
  show GoOn p e below _ (T34.setTop (mkF m 104 #[.val (.long q0), .second, .val (.int q1), .val (.int q2), .val (.int q3), .unset, .unset, .unset, .unset] [(.int (15 : Int32)), (.ref b), (.ref b)]))
  refine GoOn.step (fun t₀ k₀ => X34.ldc2Long hx hown (mvT hZ (hw _ (List.mem_of_getElem? (i := 15) rfl))) (g := (mkF m 104 #[.val (.long q0), .second, .val (.int q1), .val (.int q2), .val (.int q3), .unset, .unset, .unset, .unset] [(.int (15 : Int32)), (.ref b), (.ref b)])) rfl (hb hby at_104) t₀ k₀) ?_
  show GoOn p e below _ (T34.setTop (mkF m 107 #[.val (.long q0), .second, .val (.int q1), .val (.int q2), .val (.int q3), .unset, .unset, .unset, .unset] [(.long (1000000000000000 : Int64)), (.int (15 : Int32)), (.ref b), (.ref b)]))
  obtain ⟨T35, h35, X35, e35, W35, st35⟩ := kStJ X34 hx hZ e34 J_b (j := (15 : Int32)) ⟨by decide, by decide⟩ (g := (mkF m 107 #[.val (.long q0), .second, .val (.int q1), .val (.int q2), .val (.int q3), .unset, .unset, .unset, .unset] [(.long (1000000000000000 : Int64)), (.int (15 : Int32)), (.ref b), (.ref b)])) rfl rfl (hb hby at_107)
  replace N0 := Fr.snoc X35 N0 le_b
  replace J_b := J_b.set W35
  replace Z0 := Nat.le_trans Z0 (Nat.le_of_eq W35.size.symm)
  refine GoOn.step st35 ?_
  show GoOn p e below _ (T35.setTop (mkF m 108 #[.val (.long q0), .second, .val (.int q1), .val (.int q2), .val (.int q3), .unset, .unset, .unset, .unset] [(.ref b)]))
  refine GoOn.step (fun t₀ k₀ => XS.dup X35.here hx rfl (hb hby at_108) rfl rfl k₀) ?_
  show GoOn p e below _ (T35.setTop (mkF m 109 #[.val (.long q0), .second, .val (.int q1), .val (.int q2), .val (.int q3), .unset, .unset, .unset, .unset] [(.ref b), (.ref b)]))
  refine GoOn.step (fun t₀ k₀ => XS.bipush X35.here hx rfl (hb hby at_109) k₀) ?_
  show GoOn p e below _ (T35.setTop (mkF m 111 #[.val (.long q0), .second, .val (.int q1), .val (.int q2), .val (.int q3), .unset, .unset, .unset, .unset] [(.int (16 : Int32)), (.ref b), (.ref b)]))
  refine GoOn.step (fun t₀ k₀ => X35.ldc2Long hx hown (mvT hZ (hw _ (List.mem_of_getElem? (i := 16) rfl))) (g := (mkF m 111 #[.val (.long q0), .second, .val (.int q1), .val (.int q2), .val (.int q3), .unset, .unset, .unset, .unset] [(.int (16 : Int32)), (.ref b), (.ref b)])) rfl (hb hby at_111) t₀ k₀) ?_
  show GoOn p e below _ (T35.setTop (mkF m 114 #[.val (.long q0), .second, .val (.int q1), .val (.int q2), .val (.int q3), .unset, .unset, .unset, .unset] [(.long (10000000000000000 : Int64)), (.int (16 : Int32)), (.ref b), (.ref b)]))
  obtain ⟨T36, h36, X36, e36, W36, st36⟩ := kStJ X35 hx hZ e35 J_b (j := (16 : Int32)) ⟨by decide, by decide⟩ (g := (mkF m 114 #[.val (.long q0), .second, .val (.int q1), .val (.int q2), .val (.int q3), .unset, .unset, .unset, .unset] [(.long (10000000000000000 : Int64)), (.int (16 : Int32)), (.ref b), (.ref b)])) rfl rfl (hb hby at_114)
  replace N0 := Fr.snoc X36 N0 le_b
  replace J_b := J_b.set W36
  replace Z0 := Nat.le_trans Z0 (Nat.le_of_eq W36.size.symm)
  refine GoOn.step st36 ?_
  show GoOn p e below _ (T36.setTop (mkF m 115 #[.val (.long q0), .second, .val (.int q1), .val (.int q2), .val (.int q3), .unset, .unset, .unset, .unset] [(.ref b)]))
  refine GoOn.step (fun t₀ k₀ => XS.dup X36.here hx rfl (hb hby at_115) rfl rfl k₀) ?_
  show GoOn p e below _ (T36.setTop (mkF m 116 #[.val (.long q0), .second, .val (.int q1), .val (.int q2), .val (.int q3), .unset, .unset, .unset, .unset] [(.ref b), (.ref b)]))
  refine GoOn.step (fun t₀ k₀ => XS.bipush X36.here hx rfl (hb hby at_116) k₀) ?_
  show GoOn p e below _ (T36.setTop (mkF m 118 #[.val (.long q0), .second, .val (.int q1), .val (.int q2), .val (.int q3), .unset, .unset, .unset, .unset] [(.int (17 : Int32)), (.ref b), (.ref b)]))
  refine GoOn.step (fun t₀ k₀ => X36.ldc2Long hx hown (mvT hZ (hw _ (List.mem_of_getElem? (i := 17) rfl))) (g := (mkF m 118 #[.val (.long q0), .second, .val (.int q1), .val (.int q2), .val (.int q3), .unset, .unset, .unset, .unset] [(.int (17 : Int32)), (.ref b), (.ref b)])) rfl (hb hby at_118) t₀ k₀) ?_
  show GoOn p e below _ (T36.setTop (mkF m 121 #[.val (.long q0), .second, .val (.int q1), .val (.int q2), .val (.int q3), .unset, .unset, .unset, .unset] [(.long (100000000000000000 : Int64)), (.int (17 : Int32)), (.ref b), (.ref b)]))
  obtain ⟨T37, h37, X37, e37, W37, st37⟩ := kStJ X36 hx hZ e36 J_b (j := (17 : Int32)) ⟨by decide, by decide⟩ (g := (mkF m 121 #[.val (.long q0), .second, .val (.int q1), .val (.int q2), .val (.int q3), .unset, .unset, .unset, .unset] [(.long (100000000000000000 : Int64)), (.int (17 : Int32)), (.ref b), (.ref b)])) rfl rfl (hb hby at_121)
  replace N0 := Fr.snoc X37 N0 le_b
  replace J_b := J_b.set W37
  replace Z0 := Nat.le_trans Z0 (Nat.le_of_eq W37.size.symm)
  refine GoOn.step st37 ?_
  show GoOn p e below _ (T37.setTop (mkF m 122 #[.val (.long q0), .second, .val (.int q1), .val (.int q2), .val (.int q3), .unset, .unset, .unset, .unset] [(.ref b)]))
  refine GoOn.step (fun t₀ k₀ => XS.dup X37.here hx rfl (hb hby at_122) rfl rfl k₀) ?_
  show GoOn p e below _ (T37.setTop (mkF m 123 #[.val (.long q0), .second, .val (.int q1), .val (.int q2), .val (.int q3), .unset, .unset, .unset, .unset] [(.ref b), (.ref b)]))
  refine GoOn.step (fun t₀ k₀ => XS.bipush X37.here hx rfl (hb hby at_123) k₀) ?_
  show GoOn p e below _ (T37.setTop (mkF m 125 #[.val (.long q0), .second, .val (.int q1), .val (.int q2), .val (.int q3), .unset, .unset, .unset, .unset] [(.int (18 : Int32)), (.ref b), (.ref b)]))
  refine GoOn.step (fun t₀ k₀ => X37.ldc2Long hx hown (mvT hZ (hw _ (List.mem_of_getElem? (i := 18) rfl))) (g := (mkF m 125 #[.val (.long q0), .second, .val (.int q1), .val (.int q2), .val (.int q3), .unset, .unset, .unset, .unset] [(.int (18 : Int32)), (.ref b), (.ref b)])) rfl (hb hby at_125) t₀ k₀) ?_
  show GoOn p e below _ (T37.setTop (mkF m 128 #[.val (.long q0), .second, .val (.int q1), .val (.int q2), .val (.int q3), .unset, .unset, .unset, .unset] [(.long (1000000000000000000 : Int64)), (.int (18 : Int32)), (.ref b), (.ref b)]))
  obtain ⟨T38, h38, X38, e38, W38, st38⟩ := kStJ X37 hx hZ e37 J_b (j := (18 : Int32)) ⟨by decide, by decide⟩ (g := (mkF m 128 #[.val (.long q0), .second, .val (.int q1), .val (.int q2), .val (.int q3), .unset, .unset, .unset, .unset] [(.long (1000000000000000000 : Int64)), (.int (18 : Int32)), (.ref b), (.ref b)])) rfl rfl (hb hby at_128)
  replace N0 := Fr.snoc X38 N0 le_b
  replace J_b := J_b.set W38
  replace Z0 := Nat.le_trans Z0 (Nat.le_of_eq W38.size.symm)
  refine GoOn.step st38 ?_
  show GoOn p e below _ (T38.setTop (mkF m 129 #[.val (.long q0), .second, .val (.int q1), .val (.int q2), .val (.int q3), .unset, .unset, .unset, .unset] [(.ref b)]))
  have J : Jar Z h38 b .long 19 (fun i => .long (p10 i)) := J_b.congr (by decide +kernel)
  clear J_b
  refine GoOn.step (fun t₀ k₀ => XS.astore X38.here hx rfl (hb hby at_129) rfl rfl (l' := #[.val (.long q0), .second, .val (.int q1), .val (.int q2), .val (.int q3), .val (.ref b), .unset, .unset, .unset]) rfl k₀) ?_
  show GoOn p e below _ (T38.setTop (mkF m 131 #[.val (.long q0), .second, .val (.int q1), .val (.int q2), .val (.int q3), .val (.ref b), .unset, .unset, .unset] []))
  refine GoOn.step (fun t₀ k₀ => XS.iload X38.here hx rfl (hb hby at_131) rfl k₀) ?_
  show GoOn p e below _ (T38.setTop (mkF m 133 #[.val (.long q0), .second, .val (.int q1), .val (.int q2), .val (.int q3), .val (.ref b), .unset, .unset, .unset] [(.int q3)]))
  refine GoOn.step (fun t₀ k₀ => XS.iconst X38.here hx rfl (hb hby at_133) k₀) ?_
  show GoOn p e below _ (T38.setTop (mkF m 134 #[.val (.long q0), .second, .val (.int q1), .val (.int q2), .val (.int q3), .val (.ref b), .unset, .unset, .unset] [(.int (1 : Int32)), (.int q3)]))
  refine GoOn.step (fun t₀ k₀ => XS.iand X38.here hx rfl (hb hby at_134) rfl k₀) ?_
  show GoOn p e below _ (T38.setTop (mkF m 135 #[.val (.long q0), .second, .val (.int q1), .val (.int q2), .val (.int q3), .val (.ref b), .unset, .unset, .unset] [(.int (q3 &&& (1 : Int32)))]))
  by_cases hc : (q3 &&& (1 : Int32)) = (0 : Int32)
  · refine GoOn.step (fun t₀ k₀ => XS.ifNo X38.here hx rfl (hb hby at_135) rfl ((if0 _ _).trans (teq hc).2) k₀) ?_
    show GoOn p e below _ (T38.setTop (mkF m 138 #[.val (.long q0), .second, .val (.int q1), .val (.int q2), .val (.int q3), .val (.ref b), .unset, .unset, .unset] []))
    refine GoOn.step (fun t₀ k₀ => XS.lloadN X38.here hx rfl (hb hby at_138) rfl k₀) ?_
    show GoOn p e below _ (T38.setTop (mkF m 139 #[.val (.long q0), .second, .val (.int q1), .val (.int q2), .val (.int q3), .val (.ref b), .unset, .unset, .unset] [(.long q0)]))
    refine GoOn.step (fun t₀ k₀ => X38.ldc2Long hx hown (mvT hZ (hw _ (List.mem_of_getElem? (i := 19) rfl))) (g := (mkF m 139 #[.val (.long q0), .second, .val (.int q1), .val (.int q2), .val (.int q3), .val (.ref b), .unset, .unset, .unset] [(.long q0)])) rfl (hb hby at_139) t₀ k₀) ?_
    show GoOn p e below _ (T38.setTop (mkF m 142 #[.val (.long q0), .second, .val (.int q1), .val (.int q2), .val (.int q3), .val (.ref b), .unset, .unset, .unset] [(.long (9223372036854775807 : Int64)), (.long q0)]))
    refine GoOn.step (fun t₀ k₀ => XS.land X38.here hx rfl (hb hby at_142) rfl k₀) ?_
    show GoOn p e below _ (T38.setTop (mkF m 143 #[.val (.long q0), .second, .val (.int q1), .val (.int q2), .val (.int q3), .val (.ref b), .unset, .unset, .unset] [(.long (q0 &&& (9223372036854775807 : Int64)))]))
    have hm : (q0 &&& (9223372036854775807 : Int64)).toInt = q0.toInt % 9223372036854775808 := c_maskL q0 9223372036854775807 63 (by decide) (by decide)
    generalize hv : (q0 &&& (9223372036854775807 : Int64)) = n
    have hvI := congrArg Int64.toInt hv
    have hn : 0 ≤ n.toInt := by omega
    refine GoOn.step (fun t₀ k₀ => XS.lstore X38.here hx rfl (hb hby at_143) rfl (l' := #[.val (.long q0), .second, .val (.int q1), .val (.int q2), .val (.int q3), .val (.ref b), .val (.long n), .second, .unset]) rfl k₀) ?_
    show GoOn p e below _ (T38.setTop (mkF m 145 #[.val (.long q0), .second, .val (.int q1), .val (.int q2), .val (.int q3), .val (.ref b), .val (.long n), .second, .unset] []))
    refine GoOn.step (fun t₀ k₀ => XS.goto X38.here hx rfl (pc0 := 145) (pc' := 174) rfl (hb hby at_145) (by decide) (by decide) k₀) ?_
    show GoOn p e below _ (T38.setTop (mkF m 174 #[.val (.long q0), .second, .val (.int q1), .val (.int q2), .val (.int q3), .val (.ref b), .val (.long n), .second, .unset] []))
    refine GoOn.step (fun t₀ k₀ => XS.lload X38.here hx rfl (hb hby at_174) rfl k₀) ?_
    show GoOn p e below _ (T38.setTop (mkF m 176 #[.val (.long q0), .second, .val (.int q1), .val (.int q2), .val (.int q3), .val (.ref b), .val (.long n), .second, .unset] [(.long n)]))
    obtain ⟨_, T39, L39, X39, hQ39, st39⟩ := kCallS X38 hx hZ (argsL := [(.long n)]) (rest := []) (c_dig l Z a0 hw n _ hn) hown (hw _ (List.mem_of_getElem? (i := 20) rfl)) (hw _ (List.mem_of_getElem? (i := 21) rfl)) (hw _ (List.mem_of_getElem? (i := 22) rfl)) (hw _ (List.mem_of_getElem? (i := 23) rfl)) (by decide) e38 (g := (mkF m 176 #[.val (.long q0), .second, .val (.int q1), .val (.int q2), .val (.int q3), .val (.ref b), .val (.long n), .second, .unset] [(.long n)])) rfl (by rw [hml]; rfl) (lenOf pd_1 rfl) rfl (W := 0) (by show 2 * 0 + _ ≤ _; exact Nat.le_of_eq rfl) (hb hby at_176) (by decide) (by decide) (by decide) (by decide)
    obtain ⟨rfl, rfl, e39⟩ := hQ39
    rw [List.append_nil] at X39
    refine GoOn.step st39 ?_
    show GoOn p e below _ (T39.setTop (mkF m 179 #[.val (.long q0), .second, .val (.int q1), .val (.int q2), .val (.int q3), .val (.ref b), .val (.long n), .second, .unset] [(.int (digV n))]))
    refine GoOn.step (fun t₀ k₀ => XS.lload X39.here hx rfl (hb hby at_179) rfl k₀) ?_
    show GoOn p e below _ (T39.setTop (mkF m 181 #[.val (.long q0), .second, .val (.int q1), .val (.int q2), .val (.int q3), .val (.ref b), .val (.long n), .second, .unset] [(.long n), (.int (digV n))]))
    refine GoOn.step (fun t₀ k₀ => XS.aload X39.here hx rfl (hb hby at_181) rfl rfl k₀) ?_
    show GoOn p e below _ (T39.setTop (mkF m 183 #[.val (.long q0), .second, .val (.int q1), .val (.int q2), .val (.int q3), .val (.ref b), .val (.long n), .second, .unset] [(.ref b), (.long n), (.int (digV n))]))
    obtain ⟨_, T40, L40, X40, hQ40, st40⟩ := kCallS X39 hx hZ (argsL := [(.long n), (.ref b)]) (rest := [(.int (digV n))]) (c_exp l Z a0 hw n b _ J) hown (hw _ (List.mem_of_getElem? (i := 25) rfl)) (hw _ (List.mem_of_getElem? (i := 26) rfl)) (hw _ (List.mem_of_getElem? (i := 27) rfl)) (hw _ (List.mem_of_getElem? (i := 28) rfl)) (by decide) e39 (g := (mkF m 183 #[.val (.long q0), .second, .val (.int q1), .val (.int q2), .val (.int q3), .val (.ref b), .val (.long n), .second, .unset] [(.ref b), (.long n), (.int (digV n))])) rfl (by rw [hml]; rfl) (lenOf pd_2 rfl) rfl (W := 1) (by show 2 * 0 + _ ≤ _; exact Nat.le_of_eq rfl) (hb hby at_183) (by decide) (by decide) (by decide) (by decide)
    obtain ⟨rfl, rfl, e40⟩ := hQ40
    rw [List.append_nil] at X40
    refine GoOn.step st40 ?_
    show GoOn p e below _ (T40.setTop (mkF m 186 #[.val (.long q0), .second, .val (.int q1), .val (.int q2), .val (.int q3), .val (.ref b), .val (.long n), .second, .unset] [(.int (expV n)), (.int (digV n))]))
    have hf41 : (digV n) = (expV n) := (pl_dig n hn)
    refine GoOn.step (fun t₀ k₀ => XS.icmpNo X40.here hx rfl (hb hby at_186) rfl (teq hf41).2 k₀) ?_
    show GoOn p e below _ (T40.setTop (mkF m 189 #[.val (.long q0), .second, .val (.int q1), .val (.int q2), .val (.int q3), .val (.ref b), .val (.long n), .second, .unset] []))
    refine GoOn.step (fun t₀ k₀ => XS.iconst X40.here hx rfl (hb hby at_189) k₀) ?_
    show GoOn p e below _ (T40.setTop (mkF m 190 #[.val (.long q0), .second, .val (.int q1), .val (.int q2), .val (.int q3), .val (.ref b), .val (.long n), .second, .unset] [(.int (1 : Int32))]))
    refine GoOn.step (fun t₀ k₀ => XS.goto X40.here hx rfl (pc0 := 190) (pc' := 194) rfl (hb hby at_190) (by decide) (by decide) k₀) ?_
    show GoOn p e below _ (T40.setTop (mkF m 194 #[.val (.long q0), .second, .val (.int q1), .val (.int q2), .val (.int q3), .val (.ref b), .val (.long n), .second, .unset] [(.int (1 : Int32))]))
    exact GoOn.retN X40 hx hrt hlk (by simp) (hb hby at_194) (by decide) (by decide) (by first | exact ⟨rfl, N0⟩ | (rw [e40]; exact ⟨rfl, N0⟩))
  · refine GoOn.step (fun t₀ k₀ => XS.ifYes X38.here hx rfl (pc0 := 135) (pc' := 148) rfl (hb hby at_135) rfl ((if0 _ _).trans (feq hc).2) (by decide) (by decide) k₀) ?_
    show GoOn p e below _ (T38.setTop (mkF m 148 #[.val (.long q0), .second, .val (.int q1), .val (.int q2), .val (.int q3), .val (.ref b), .unset, .unset, .unset] []))
    have m1 : (q1 &&& (2147483647 : Int32)).toInt = q1.toInt % 2147483648 := c_mask q1 2147483647 31 (by decide) (by decide)
    have m2 := (c_irem (q1 &&& (2147483647 : Int32)) 19 19 (by decide)).1 (by omega)
    refine GoOn.step (fun t₀ k₀ => XS.iloadN X38.here hx rfl (hb hby at_148) rfl k₀) ?_
    show GoOn p e below _ (T38.setTop (mkF m 149 #[.val (.long q0), .second, .val (.int q1), .val (.int q2), .val (.int q3), .val (.ref b), .unset, .unset, .unset] [(.int q1)]))
    refine GoOn.step (fun t₀ k₀ => X38.ldcInt hx hown (mvT hZ (hw _ (List.mem_of_getElem? (i := 32) rfl))) (g := (mkF m 149 #[.val (.long q0), .second, .val (.int q1), .val (.int q2), .val (.int q3), .val (.ref b), .unset, .unset, .unset] [(.int q1)])) rfl (hb hby at_149) t₀ k₀) ?_
    show GoOn p e below _ (T38.setTop (mkF m 151 #[.val (.long q0), .second, .val (.int q1), .val (.int q2), .val (.int q3), .val (.ref b), .unset, .unset, .unset] [(.int (2147483647 : Int32)), (.int q1)]))
    refine GoOn.step (fun t₀ k₀ => XS.iand X38.here hx rfl (hb hby at_151) rfl k₀) ?_
    show GoOn p e below _ (T38.setTop (mkF m 152 #[.val (.long q0), .second, .val (.int q1), .val (.int q2), .val (.int q3), .val (.ref b), .unset, .unset, .unset] [(.int (q1 &&& (2147483647 : Int32)))]))
    refine GoOn.step (fun t₀ k₀ => XS.bipush X38.here hx rfl (hb hby at_152) k₀) ?_
    show GoOn p e below _ (T38.setTop (mkF m 154 #[.val (.long q0), .second, .val (.int q1), .val (.int q2), .val (.int q3), .val (.ref b), .unset, .unset, .unset] [(.int (19 : Int32)), (.int (q1 &&& (2147483647 : Int32)))]))
    refine GoOn.step (fun t₀ k₀ => iremM X38 hx rfl (hb hby at_154) rfl (by decide) k₀) ?_
    show GoOn p e below _ (T38.setTop (mkF m 155 #[.val (.long q0), .second, .val (.int q1), .val (.int q2), .val (.int q3), .val (.ref b), .unset, .unset, .unset] [(.int ((q1 &&& (2147483647 : Int32)) % (19 : Int32)))]))
    generalize hi : ((q1 &&& (2147483647 : Int32)) % (19 : Int32)) = i
    have hiI := congrArg Int32.toInt hi
    refine GoOn.step (fun t₀ k₀ => XS.istore X38.here hx rfl (hb hby at_155) rfl (l' := #[.val (.long q0), .second, .val (.int q1), .val (.int q2), .val (.int q3), .val (.ref b), .unset, .unset, .val (.int i)]) rfl k₀) ?_
    show GoOn p e below _ (T38.setTop (mkF m 157 #[.val (.long q0), .second, .val (.int q1), .val (.int q2), .val (.int q3), .val (.ref b), .unset, .unset, .val (.int i)] []))
    refine GoOn.step (fun t₀ k₀ => XS.aload X38.here hx rfl (hb hby at_157) rfl rfl k₀) ?_
    show GoOn p e below _ (T38.setTop (mkF m 159 #[.val (.long q0), .second, .val (.int q1), .val (.int q2), .val (.int q3), .val (.ref b), .unset, .unset, .val (.int i)] [(.ref b)]))
    refine GoOn.step (fun t₀ k₀ => XS.iload X38.here hx rfl (hb hby at_159) rfl k₀) ?_
    show GoOn p e below _ (T38.setTop (mkF m 161 #[.val (.long q0), .second, .val (.int q1), .val (.int q2), .val (.int q3), .val (.ref b), .unset, .unset, .val (.int i)] [(.int i), (.ref b)]))
    have hib : i.toNatClampNeg < 19 := by have e : i.toNatClampNeg = i.toInt.toNat := rfl; omega
    have hp : 1 ≤ (p10 i.toNatClampNeg).toInt ∧ (p10 i.toNatClampNeg).toInt ≤ 1000000000000000000 := (by decide +kernel : ∀ i, i < 19 → 1 ≤ (p10 i).toInt ∧ (p10 i).toInt ≤ 1000000000000000000) _ hib
    refine GoOn.step (fun t₀ k₀ => kLdJ X38 hx hZ e38 J (j := i) (v := (.long (p10 i.toNatClampNeg))) ⟨by omega, by omega⟩ rfl (g := (mkF m 161 #[.val (.long q0), .second, .val (.int q1), .val (.int q2), .val (.int q3), .val (.ref b), .unset, .unset, .val (.int i)] [(.int i), (.ref b)])) rfl rfl (hb hby at_161) t₀ k₀) ?_
    show GoOn p e below _ (T38.setTop (mkF m 162 #[.val (.long q0), .second, .val (.int q1), .val (.int q2), .val (.int q3), .val (.ref b), .unset, .unset, .val (.int i)] [(.long (p10 i.toNatClampNeg))]))
    generalize hpp : (p10 i.toNatClampNeg) = pp
    have hppI := congrArg Int64.toInt hpp
    have m3 : (q2 &&& (2147483647 : Int32)).toInt = q2.toInt % 2147483648 := c_mask q2 2147483647 31 (by decide) (by decide)
    have m4 := (c_irem (q2 &&& (2147483647 : Int32)) 3 3 (by decide)).1 (by omega)
    refine GoOn.step (fun t₀ k₀ => XS.iloadN X38.here hx rfl (hb hby at_162) rfl k₀) ?_
    show GoOn p e below _ (T38.setTop (mkF m 163 #[.val (.long q0), .second, .val (.int q1), .val (.int q2), .val (.int q3), .val (.ref b), .unset, .unset, .val (.int i)] [(.int q2), (.long pp)]))
    refine GoOn.step (fun t₀ k₀ => X38.ldcInt hx hown (mvT hZ (hw _ (List.mem_of_getElem? (i := 32) rfl))) (g := (mkF m 163 #[.val (.long q0), .second, .val (.int q1), .val (.int q2), .val (.int q3), .val (.ref b), .unset, .unset, .val (.int i)] [(.int q2), (.long pp)])) rfl (hb hby at_163) t₀ k₀) ?_
    show GoOn p e below _ (T38.setTop (mkF m 165 #[.val (.long q0), .second, .val (.int q1), .val (.int q2), .val (.int q3), .val (.ref b), .unset, .unset, .val (.int i)] [(.int (2147483647 : Int32)), (.int q2), (.long pp)]))
    refine GoOn.step (fun t₀ k₀ => XS.iand X38.here hx rfl (hb hby at_165) rfl k₀) ?_
    show GoOn p e below _ (T38.setTop (mkF m 166 #[.val (.long q0), .second, .val (.int q1), .val (.int q2), .val (.int q3), .val (.ref b), .unset, .unset, .val (.int i)] [(.int (q2 &&& (2147483647 : Int32))), (.long pp)]))
    refine GoOn.step (fun t₀ k₀ => XS.iconst X38.here hx rfl (hb hby at_166) k₀) ?_
    show GoOn p e below _ (T38.setTop (mkF m 167 #[.val (.long q0), .second, .val (.int q1), .val (.int q2), .val (.int q3), .val (.ref b), .unset, .unset, .val (.int i)] [(.int (3 : Int32)), (.int (q2 &&& (2147483647 : Int32))), (.long pp)]))
    refine GoOn.step (fun t₀ k₀ => iremM X38 hx rfl (hb hby at_167) rfl (by decide) k₀) ?_
    show GoOn p e below _ (T38.setTop (mkF m 168 #[.val (.long q0), .second, .val (.int q1), .val (.int q2), .val (.int q3), .val (.ref b), .unset, .unset, .val (.int i)] [(.int ((q2 &&& (2147483647 : Int32)) % (3 : Int32))), (.long pp)]))
    generalize hd3 : ((q2 &&& (2147483647 : Int32)) % (3 : Int32)) = d3
    have hd3I := congrArg Int32.toInt hd3
    refine GoOn.step (fun t₀ k₀ => XS.i2l X38.here hx rfl (hb hby at_168) rfl k₀) ?_
    show GoOn p e below _ (T38.setTop (mkF m 169 #[.val (.long q0), .second, .val (.int q1), .val (.int q2), .val (.int q3), .val (.ref b), .unset, .unset, .val (.int i)] [(.long (d3.toInt64)), (.long pp)]))
    refine GoOn.step (fun t₀ k₀ => XS.ladd X38.here hx rfl (hb hby at_169) rfl k₀) ?_
    show GoOn p e below _ (T38.setTop (mkF m 170 #[.val (.long q0), .second, .val (.int q1), .val (.int q2), .val (.int q3), .val (.ref b), .unset, .unset, .val (.int i)] [(.long (pp + (d3.toInt64)))]))
    refine GoOn.step (fun t₀ k₀ => XS.lconst X38.here hx rfl (hb hby at_170) k₀) ?_
    show GoOn p e below _ (T38.setTop (mkF m 171 #[.val (.long q0), .second, .val (.int q1), .val (.int q2), .val (.int q3), .val (.ref b), .unset, .unset, .val (.int i)] [(.long (1 : Int64)), (.long (pp + (d3.toInt64)))]))
    refine GoOn.step (fun t₀ k₀ => XS.lsub X38.here hx rfl (hb hby at_171) rfl k₀) ?_
    show GoOn p e below _ (T38.setTop (mkF m 172 #[.val (.long q0), .second, .val (.int q1), .val (.int q2), .val (.int q3), .val (.ref b), .unset, .unset, .val (.int i)] [(.long ((pp + (d3.toInt64)) - (1 : Int64)))]))
    have a1 := c_i2l d3
    have a2 := c_ladd pp d3.toInt64
    have a3 := rng64 (pp + d3.toInt64)
    have a4 := c_lsub (pp + d3.toInt64) 1
    have a5 := rng64 (pp + d3.toInt64 - 1)
    have a6 : (1 : Int64).toInt = 1 := by decide
    generalize hv : ((pp + (d3.toInt64)) - (1 : Int64)) = n
    have hvI := congrArg Int64.toInt hv
    have hn : 0 ≤ n.toInt := by omega
    refine GoOn.step (fun t₀ k₀ => XS.lstore X38.here hx rfl (hb hby at_172) rfl (l' := #[.val (.long q0), .second, .val (.int q1), .val (.int q2), .val (.int q3), .val (.ref b), .val (.long n), .second, .val (.int i)]) rfl k₀) ?_
    show GoOn p e below _ (T38.setTop (mkF m 174 #[.val (.long q0), .second, .val (.int q1), .val (.int q2), .val (.int q3), .val (.ref b), .val (.long n), .second, .val (.int i)] []))
    refine GoOn.step (fun t₀ k₀ => XS.lload X38.here hx rfl (hb hby at_174) rfl k₀) ?_
    show GoOn p e below _ (T38.setTop (mkF m 176 #[.val (.long q0), .second, .val (.int q1), .val (.int q2), .val (.int q3), .val (.ref b), .val (.long n), .second, .val (.int i)] [(.long n)]))
    obtain ⟨_, T42, L42, X42, hQ42, st42⟩ := kCallS X38 hx hZ (argsL := [(.long n)]) (rest := []) (c_dig l Z a0 hw n _ hn) hown (hw _ (List.mem_of_getElem? (i := 20) rfl)) (hw _ (List.mem_of_getElem? (i := 21) rfl)) (hw _ (List.mem_of_getElem? (i := 22) rfl)) (hw _ (List.mem_of_getElem? (i := 23) rfl)) (by decide) e38 (g := (mkF m 176 #[.val (.long q0), .second, .val (.int q1), .val (.int q2), .val (.int q3), .val (.ref b), .val (.long n), .second, .val (.int i)] [(.long n)])) rfl (by rw [hml]; rfl) (lenOf pd_1 rfl) rfl (W := 0) (by show 2 * 0 + _ ≤ _; exact Nat.le_of_eq rfl) (hb hby at_176) (by decide) (by decide) (by decide) (by decide)
    obtain ⟨rfl, rfl, e42⟩ := hQ42
    rw [List.append_nil] at X42
    refine GoOn.step st42 ?_
    show GoOn p e below _ (T42.setTop (mkF m 179 #[.val (.long q0), .second, .val (.int q1), .val (.int q2), .val (.int q3), .val (.ref b), .val (.long n), .second, .val (.int i)] [(.int (digV n))]))
    refine GoOn.step (fun t₀ k₀ => XS.lload X42.here hx rfl (hb hby at_179) rfl k₀) ?_
    show GoOn p e below _ (T42.setTop (mkF m 181 #[.val (.long q0), .second, .val (.int q1), .val (.int q2), .val (.int q3), .val (.ref b), .val (.long n), .second, .val (.int i)] [(.long n), (.int (digV n))]))
    refine GoOn.step (fun t₀ k₀ => XS.aload X42.here hx rfl (hb hby at_181) rfl rfl k₀) ?_
    show GoOn p e below _ (T42.setTop (mkF m 183 #[.val (.long q0), .second, .val (.int q1), .val (.int q2), .val (.int q3), .val (.ref b), .val (.long n), .second, .val (.int i)] [(.ref b), (.long n), (.int (digV n))]))
    obtain ⟨_, T43, L43, X43, hQ43, st43⟩ := kCallS X42 hx hZ (argsL := [(.long n), (.ref b)]) (rest := [(.int (digV n))]) (c_exp l Z a0 hw n b _ J) hown (hw _ (List.mem_of_getElem? (i := 25) rfl)) (hw _ (List.mem_of_getElem? (i := 26) rfl)) (hw _ (List.mem_of_getElem? (i := 27) rfl)) (hw _ (List.mem_of_getElem? (i := 28) rfl)) (by decide) e42 (g := (mkF m 183 #[.val (.long q0), .second, .val (.int q1), .val (.int q2), .val (.int q3), .val (.ref b), .val (.long n), .second, .val (.int i)] [(.ref b), (.long n), (.int (digV n))])) rfl (by rw [hml]; rfl) (lenOf pd_2 rfl) rfl (W := 1) (by show 2 * 0 + _ ≤ _; exact Nat.le_of_eq rfl) (hb hby at_183) (by decide) (by decide) (by decide) (by decide)
    obtain ⟨rfl, rfl, e43⟩ := hQ43
    rw [List.append_nil] at X43
    refine GoOn.step st43 ?_
    show GoOn p e below _ (T43.setTop (mkF m 186 #[.val (.long q0), .second, .val (.int q1), .val (.int q2), .val (.int q3), .val (.ref b), .val (.long n), .second, .val (.int i)] [(.int (expV n)), (.int (digV n))]))
    have hf44 : (digV n) = (expV n) := (pl_dig n hn)
    refine GoOn.step (fun t₀ k₀ => XS.icmpNo X43.here hx rfl (hb hby at_186) rfl (teq hf44).2 k₀) ?_
    show GoOn p e below _ (T43.setTop (mkF m 189 #[.val (.long q0), .second, .val (.int q1), .val (.int q2), .val (.int q3), .val (.ref b), .val (.long n), .second, .val (.int i)] []))
    refine GoOn.step (fun t₀ k₀ => XS.iconst X43.here hx rfl (hb hby at_189) k₀) ?_
    show GoOn p e below _ (T43.setTop (mkF m 190 #[.val (.long q0), .second, .val (.int q1), .val (.int q2), .val (.int q3), .val (.ref b), .val (.long n), .second, .val (.int i)] [(.int (1 : Int32))]))
    refine GoOn.step (fun t₀ k₀ => XS.goto X43.here hx rfl (pc0 := 190) (pc' := 194) rfl (hb hby at_190) (by decide) (by decide) k₀) ?_
    show GoOn p e below _ (T43.setTop (mkF m 194 #[.val (.long q0), .second, .val (.int q1), .val (.int q2), .val (.int q3), .val (.ref b), .val (.long n), .second, .val (.int i)] [(.int (1 : Int32))]))
    exact GoOn.retN X43 hx hrt hlk (by simp) (hb hby at_194) (by decide) (by decide) (by first | exact ⟨rfl, N0⟩ | (rw [e43]; exact ⟨rfl, N0⟩))
set_option maxRecDepth 65536 in
set_option maxHeartbeats 40000000 in
theorem comes_1 {Post : Tables → Env → Array Value → State → Outcome → State → Prop} (hpost : ∀ tb e args s v u, (limb_1_1.after args s (.returned v) u = true ∧ limb_1_2.after args s (.returned v) u = true ∧ True) → FrameEnd s (.returned v) u (Jvm.fieldLocs frame_1_writes args s ++ Jvm.arrayLocs frame_1_arrays args s ++ Jvm.staticLocs frame_1_statics s) 16 128 → Post tb e args s (.returned v) u) :
    ArmFor flags0 classFile x code maxLocals ret World_1 tables_1 room_1 Calls_1 rest_1 Pre_1 Post := by
  intro l hfl _ _ p e ha hc hk s m args below hf hA hF happ hP
  obtain ⟨hcalls, hrest, hpre⟩ := hP
  obtain ⟨-, -, -, hnamed, -, -, -, hat⟩ := (Spec.applies_iff hf).mp happ
  obtain ⟨hg, hn⟩ := and_e (Cond.before_iff.mp (show (Jvm.Cond.and given_1 narrow_1).before args s = true from hpre))
  obtain ⟨g0, r0⟩ := and_e hg
  obtain ⟨g1, r1⟩ := and_e r0
  obtain ⟨g2, r2⟩ := and_e r1
  obtain ⟨g3, r3⟩ := and_e r2
  obtain ⟨w0, w1, w2, w3, rfl⟩ : ∃ w0 w1 w2 w3 : Value, args = #[w0, w1, w2, w3] := by
    have hs : args.size = 4 := by simpa [Cond.value, given_1] using g0
    obtain ⟨L⟩ := args
    match L, hs with
    | [w0, w1, w2, w3], _ => exact ⟨w0, w1, w2, w3, rfl⟩
  have hw := fun d (hd : d ∈ tables_1) => atoms_spec (ws := Jvm.Cond.code x code maxLocals ret :: tables_1) hat d (List.mem_cons_of_mem _ hd)
  have hfit : Fit s := fun {y c} hc i hi => by
    obtain ⟨ha, rfl⟩ := Array.getElem?_eq_some_iff.mp hc
    have q := List.all_eq_true.mp ((Array.all_eq_true_iff_forall_mem.mp hF) _ (Array.getElem_mem ha)) i (List.mem_range.mpr hi)
    simpa [Array.getElem?_eq_getElem hi] using q
  obtain ⟨i0, ei0⟩ := isL_v g1
  obtain rfl : w0 = (.long i0) := Option.some.inj ei0
  obtain ⟨i1, ei1⟩ := is_v g2
  obtain rfl : w1 = (.int i1) := Option.some.inj ei1
  obtain ⟨i2, ei2⟩ := is_v g3
  obtain rfl : w2 = (.int i2) := Option.some.inj ei2
  obtain ⟨i3, ei3⟩ := is_v r3
  obtain rfl : w3 = (.int i3) := Option.some.inj ei3
  obtain ⟨n, o, h1, h2, h3, _, L, rfl, ⟨rfl, N⟩, hq⟩ := law_ok l s _ hw i0 i1 i2 i3 s.heap s.heap.size (Nat.le_refl _) tables_1 p e ha hc hk s m _ below hf ((Spec.applies_iff_loose hf).mp happ).1 ⟨rfl, State.Warmed39.refl s, rfl⟩ trivial
  refine ⟨n, _, h1, h2, h3, hpost _ _ _ _ _ _ ⟨Cond.after_iff.mpr rfl, Cond.after_iff.mpr (eq_i res_at (Term.int_eval (1)) rfl), trivial⟩ ⟨hq.1, hq.2.1, (hq.2.2.sift fun y hy => Or.inr (N y hy)).mono (by decide) (by decide)⟩⟩
theorem main_1_1 : Claimed_1_1 := comes_1 fun _ _ _ _ _ _ h hF => ⟨h.1, hF⟩
theorem main_1_2 : Claimed_1_2 := comes_1 fun _ _ _ _ _ _ h hF => ⟨h.2.1, hF⟩
end Jvm.Pilot.@@N@@
namespace Jvm.Pilot.@@N@@
open Jvm Jvm.ClassFile Sem Op Lib Jvm.Free Jvm.Stand Jvm.Pilot.@@N@@.Jvm.D
/-! MADE BY PROGRAM (witnessworld.py) out of the Statement's table words and the real class files: 9 classes; the members and pool entries that the words name. The judged class is class 1, her method 1. -/
namespace start1
open Jvm.ClassFile
def u (s : String) : CpInfo := .utf8 (stringToUtf16 s)
/-- a pool by its gaps: so many unusable entries, then the entry; so many at the end -/
def gap : Nat → List CpInfo → List CpInfo
  | 0, r => r
  | n + 1, r => .unusable :: gap n r
def poolList (es : List (Nat × CpInfo)) (last : Nat) : List CpInfo := es.foldr (fun e r => gap e.1 (e.2 :: r)) (gap last [])
def pool (es : List (Nat × CpInfo)) (last : Nat) : Array CpInfo := ⟨poolList es last⟩
def fileOf (pool : Array CpInfo) (this : Nat) (attrs : Array Attribute := #[]) (ms : Array MethodInfo := #[]) (fl : Nat := 33) (sup : Nat := 0) (ifs : Array Nat := #[]) (fds : Array FieldInfo := #[]) : ClassFile where
  minorVersion := 0
  majorVersion := 65
  constantPool := pool
  accessFlags := fl
  thisClass := this
  superClass := sup
  interfaces := ifs
  fields := fds
  methods := ms
  attributes := attrs
def plain (name : String) (sup : Option ClassId) : Class where
  name := name
  kind := .ordinary
  loader := none
  accessFlags := 33
  super := sup
  interfaces := #[]
  cf := none
  fields := #[]
  methods := #[]
  instanceTypes := #[]
  staticTypes := #[]
  resolved := #[]
  callSites := []
  init := .initialized
  statics := none
  mirror := none

def pool0 : Array CpInfo := pool [(5, u "<init>"), (0, u "()V"), (1, .class_ 10), (1, u "java/lang/Object")] 113

def k0m0 : Method := { name := "<init>", desc := "()V", sig := { parameters := [], returnType := none }, accessFlags := 1, code := none }
/-- java/lang/Object -/
def k0 : Class := { plain "java/lang/Object" none with
  accessFlags := 33
  interfaces := #[]
  cf := some (fileOf pool0 8 #[] #[{ accessFlags := 1, nameIndex := 5, descriptorIndex := 6, attributes := #[] }] 33 0 #[] #[])
  fields := #[]
  methods := #[k0m0]
  instanceTypes := #[]
  staticTypes := #[]
  resolved := Array.replicate 124 none
  statics := none }

def pool1 : Array CpInfo := pool [(2, .class_ 4), (1, u "java/lang/Object"), (0, u "<init>"), (0, u "()V"), (0, .long 10), (1, .long 100), (1, .long 1000), (1, .long 10000), (1, .long 100000), (1, .long 1000000), (1, .long 10000000), (1, .long 100000000), (1, .long 1000000000), (1, .long 10000000000), (1, .long 100000000000), (1, .long 1000000000000), (1, .long 10000000000000), (1, .long 100000000000000), (1, .long 1000000000000000), (1, .long 10000000000000000), (1, .long 100000000000000000), (1, .long 1000000000000000000), (3, .long 9223372036854775807), (1, .integer 2147483647), (0, .methodref 49 50), (0, .class_ 51), (0, .nameAndType 52 53), (0, u "com/example/austere_log/austerelog/log/Decimal"), (0, u "digits"), (0, u "(J)I"), (0, .methodref 55 56), (0, .class_ 57), (0, .nameAndType 58 59), (0, u "com/example/austere_log/austerelog/log/DecimalDigitsPinLaw"), (0, u "expected"), (0, u "(J[J)I"), (0, .methodref 55 61), (0, .nameAndType 62 63), (0, u "ge"), (0, u "(JJ)I"), (2, u "law"), (0, u "(JIII)Z")] 5

def k1m0 : Method := { name := "<init>", desc := "()V", sig := { parameters := [], returnType := none }, accessFlags := 2, code := none }
def k1c1 : Code := { maxStack := 5, maxLocals := 9, code := code, exceptionTable := #[], attributes := #[] }
def k1m1 : Method := { name := "law", desc := "(JIII)Z", sig := { parameters := [.long, .int, .int, .int], returnType := some .boolean }, accessFlags := 9, code := some k1c1 }
def k1c2 : Code := { maxStack := 4, maxLocals := 4, code := method_3_code, exceptionTable := #[], attributes := #[] }
def k1m2 : Method := { name := "ge", desc := "(JJ)I", sig := { parameters := [.long, .long], returnType := some .int }, accessFlags := 10, code := some k1c2 }
def k1c3 : Code := { maxStack := 5, maxLocals := 3, code := method_4_code, exceptionTable := #[], attributes := #[] }
def k1m3 : Method := { name := "expected", desc := "(J[J)I", sig := { parameters := [.long, (.array .long)], returnType := some .int }, accessFlags := 10, code := some k1c3 }
/-- com/example/austere_log/austerelog/log/DecimalDigitsPinLaw -/
def k1 : Class := { plain "com/example/austere_log/austerelog/log/DecimalDigitsPinLaw" (some 0) with
  accessFlags := 49
  interfaces := #[]
  cf := some (fileOf pool1 55 #[] #[{ accessFlags := 2, nameIndex := 5, descriptorIndex := 6, attributes := #[] }, { accessFlags := 9, nameIndex := 66, descriptorIndex := 67, attributes := #[] }, { accessFlags := 10, nameIndex := 62, descriptorIndex := 63, attributes := #[] }, { accessFlags := 10, nameIndex := 58, descriptorIndex := 59, attributes := #[] }] 49 2 #[] #[])
  fields := #[]
  methods := #[k1m0, k1m1, k1m2, k1m3]
  instanceTypes := #[]
  staticTypes := #[]
  resolved := Array.replicate 73 none
  statics := none }

def pool2 : Array CpInfo := pool [(2, .class_ 4), (1, u "java/lang/Object"), (0, u "<init>"), (0, u "()V"), (0, .long 10), (2, .class_ 12), (1, u "com/example/austere_log/austerelog/log/Decimal"), (0, u "digits"), (0, u "(J)I")] 9

def k2m0 : Method := { name := "<init>", desc := "()V", sig := { parameters := [], returnType := none }, accessFlags := 2, code := none }
def k2c1 : Code := { maxStack := 4, maxLocals := 5, code := prog_20_method_2_code, exceptionTable := #[], attributes := #[] }
def k2m1 : Method := { name := "digits", desc := "(J)I", sig := { parameters := [.long], returnType := some .int }, accessFlags := 9, code := some k2c1 }
/-- com/example/austere_log/austerelog/log/Decimal -/
def k2 : Class := { plain "com/example/austere_log/austerelog/log/Decimal" (some 0) with
  accessFlags := 49
  interfaces := #[]
  cf := some (fileOf pool2 10 #[] #[{ accessFlags := 2, nameIndex := 5, descriptorIndex := 6, attributes := #[] }, { accessFlags := 9, nameIndex := 13, descriptorIndex := 14, attributes := #[] }] 49 2 #[] #[])
  fields := #[]
  methods := #[k2m0, k2m1]
  instanceTypes := #[]
  staticTypes := #[]
  resolved := Array.replicate 24 none
  statics := none }

def pool3 : Array CpInfo := pool [(1, u "java/lang/Cloneable"), (0, .class_ 1), (0, u "java/lang/Object"), (0, .class_ 3)] 3

/-- java/lang/Cloneable -/
def k3 : Class := { plain "java/lang/Cloneable" (some 0) with
  accessFlags := 1537
  interfaces := #[]
  cf := some (fileOf pool3 2 #[] #[] 1537 4 #[] #[])
  fields := #[]
  methods := #[]
  instanceTypes := #[]
  staticTypes := #[]
  resolved := Array.replicate 8 none
  statics := none }

def pool4 : Array CpInfo := pool [(1, u "java/io/Serializable"), (0, .class_ 1), (0, u "java/lang/Object"), (0, .class_ 3)] 3

/-- java/io/Serializable -/
def k4 : Class := { plain "java/io/Serializable" (some 0) with
  accessFlags := 1537
  interfaces := #[]
  cf := some (fileOf pool4 2 #[] #[] 1537 4 #[] #[])
  fields := #[]
  methods := #[]
  instanceTypes := #[]
  staticTypes := #[]
  resolved := Array.replicate 8 none
  statics := none }

/-- the primitive byte -/
def k5 : Class := { plain "byte" none with kind := .primitive 'B', accessFlags := 0x411 }
/-- [B -/
def k6 : Class := { plain "[B" (some 0) with kind := .array 5 .byte, interfaces := #[3, 4], accessFlags := 1041 }

/-- the primitive long -/
def k7 : Class := { plain "long" none with kind := .primitive 'J', accessFlags := 0x411 }
/-- [J -/
def k8 : Class := { plain "[J" (some 0) with kind := .array 7 .long, interfaces := #[3, 4], accessFlags := 1041 }

def heap : Heap := #[]
def classes : Array Class := #[k0, k1, k2, k3, k4, k5, k6, k7, k8]
def interned : List (Array UInt16 × Addr) := []
def slotsUsed : Nat := 0
def theMethod : MethodId := ⟨1, 1⟩
def args0 : Array Value := #[.long 50, .int 7, .int 2, .int 3]
def aboutOver (below : List Frame) : State where
  vm := { classes := classes, interned := interned.toArray }
  heap := heap
  slotsUsed := slotsUsed
  threads := #[{ frames := .invoking theMethod args0 :: below }]
def below0 : List Frame := [.native { method := ⟨0, 0⟩, args := #[] }]
def about1 : State := aboutOver below0
def p0 : Program := .bare "" "" ""
def e0 : Env := launch0.env 0 0 0
theorem w_frames : about1.frames = Frame.invoking theMethod args0 :: below0 := rfl
set_option maxRecDepth 65536 in
theorem w_args : argsFit about1.vm theMethod args0 = true := by decide +kernel
set_option maxRecDepth 65536 in
theorem w_heap : heapFits about1 = true := by decide +kernel
set_option maxRecDepth 65536 in
theorem w_runnable : about1.curStatus? = some .runnable := by decide +kernel
set_option maxRecDepth 65536 in
theorem w_alone : about1.alone = true := by decide +kernel
set_option maxRecDepth 65536 in
theorem w_named : about1.methodNamed? x = some theMethod := by decide +kernel
set_option maxRecDepth 65536 in
theorem w_hears : about1.hears theMethod below0 = true := by decide +kernel
set_option maxRecDepth 65536 in
theorem w_ripe : about1.ripe theMethod args0 below0 = true := by decide +kernel
theorem w_running : about1.status = .running := rfl
set_option maxRecDepth 65536 in
theorem w_room : about1.hasRoom e0.platform room_1 = true :=
  launch0.hasRoom_least _ room_1 (by decide +kernel) (by decide +kernel) (by decide +kernel) (by decide +kernel) (by decide +kernel) (by decide +kernel)
theorem allAtoms_all (ts : List Jvm.Cond) (a : Array Jvm.Value) (st : Jvm.State) : (allAtoms ts).before a st = ts.all (fun c => c.before a st) := by
  induction ts with
  | nil => rfl
  | cons c t ih =>
    show (Jvm.Cond.and c (allAtoms t)).before a st = _
    rw [Jvm.Cond.before_and, ih, List.all_cons]
def words1 : List Jvm.Cond := Jvm.Cond.code x code maxLocals ret :: tables_1
/-- a 'code' word, met by the world's own term for the bytes: nothing is compared byte by byte -/
theorem code_word {y : MethodName} {bytes : ByteArray} {mx : Nat} {rt : Option FieldType} {a : Array Value} {s : State} {m : MethodId} {meth : Method} {c : Code} (h1 : s.methodNamed? y = some m) (h2 : s.vm.method? m = some meth) (h3 : meth.code = some c) (h4 : c.code = bytes)
    (h5 : (c.maxLocals == mx && c.exceptionTable.isEmpty && decide (c.maxStack ≤ mostOperands) && decide (meth.sig.returnType = rt) && !meth.locks && decide (parseMethodDescriptor y.desc = some meth.sig)) = true) : (Jvm.Cond.code y bytes mx rt).before a s = true := by
  simp only [Bool.and_eq_true, beq_iff_eq, Bool.not_eq_true', decide_eq_true_eq] at h5
  obtain ⟨⟨⟨⟨⟨g1, g2⟩, g3⟩, g4⟩, g5⟩, g6⟩ := h5
  simp [Cond.before, Cond.holds, Cond.value, h1, h2, h3, h4, g1, g2, g3, g4, g5, g6]
def isCode : Jvm.Cond → Bool
  | .code _ _ _ _ => true
  | _ => false
theorem all_split {L : List Jvm.Cond} {P : Jvm.Cond → Bool} (h1 : L.all (fun c => isCode c || P c) = true) (h2 : ∀ c ∈ L.filter isCode, P c = true) : L.all P = true := by
  refine List.all_eq_true.mpr fun c hc => ?_
  have h := List.all_eq_true.mp h1 c hc
  rcases Bool.eq_false_or_eq_true (isCode c) with hi | hi
  · exact h2 c (List.mem_filter.mpr ⟨hc, hi⟩)
  · simpa [hi] using h
set_option maxRecDepth 65536 in
theorem w_c0 : (Jvm.Cond.code x code maxLocals ret).before args0 about1 = true := code_word (m := ⟨1, 1⟩) (meth := k1m1) (c := k1c1) (by decide +kernel) rfl rfl rfl (by decide +kernel)
set_option maxRecDepth 65536 in
theorem w_c1 : (Jvm.Cond.code ({ cls := "com/example/austere_log/austerelog/log/Decimal", name := "digits", desc := "(J)I" } : Jvm.MethodName) prog_20_method_2_code (5 : Nat) (Option.some Jvm.ClassFile.FieldType.int)).before args0 about1 = true := code_word (m := ⟨2, 1⟩) (meth := k2m1) (c := k2c1) (by decide +kernel) rfl rfl rfl (by decide +kernel)
set_option maxRecDepth 65536 in
theorem w_c2 : (Jvm.Cond.code ({ cls := "com/example/austere_log/austerelog/log/DecimalDigitsPinLaw", name := "expected", desc := "(J[J)I" } : Jvm.MethodName) method_4_code (3 : Nat) (Option.some Jvm.ClassFile.FieldType.int)).before args0 about1 = true := code_word (m := ⟨1, 3⟩) (meth := k1m3) (c := k1c3) (by decide +kernel) rfl rfl rfl (by decide +kernel)
set_option maxRecDepth 65536 in
theorem w_c3 : (Jvm.Cond.code ({ cls := "com/example/austere_log/austerelog/log/DecimalDigitsPinLaw", name := "ge", desc := "(JJ)I" } : Jvm.MethodName) method_3_code (4 : Nat) (Option.some Jvm.ClassFile.FieldType.int)).before args0 about1 = true := code_word (m := ⟨1, 2⟩) (meth := k1m2) (c := k1c2) (by decide +kernel) rfl rfl rfl (by decide +kernel)
def codes1 : List Jvm.Cond := [Jvm.Cond.code x code maxLocals ret, Jvm.Cond.code ({ cls := "com/example/austere_log/austerelog/log/Decimal", name := "digits", desc := "(J)I" } : Jvm.MethodName) prog_20_method_2_code (5 : Nat) (Option.some Jvm.ClassFile.FieldType.int), Jvm.Cond.code ({ cls := "com/example/austere_log/austerelog/log/DecimalDigitsPinLaw", name := "expected", desc := "(J[J)I" } : Jvm.MethodName) method_4_code (3 : Nat) (Option.some Jvm.ClassFile.FieldType.int), Jvm.Cond.code ({ cls := "com/example/austere_log/austerelog/log/DecimalDigitsPinLaw", name := "ge", desc := "(JJ)I" } : Jvm.MethodName) method_3_code (4 : Nat) (Option.some Jvm.ClassFile.FieldType.int)]
set_option maxRecDepth 65536 in
theorem codes_eq : words1.filter isCode = codes1 := rfl
theorem w_codes : ∀ c ∈ words1.filter isCode, c.before args0 about1 = true := by
  rw [codes_eq]
  intro c hc
  simp only [codes1, List.mem_cons, List.not_mem_nil, or_false] at hc
  rcases hc with rfl | rfl | rfl | rfl
  · exact w_c0
  · exact w_c1
  · exact w_c2
  · exact w_c3
set_option maxRecDepth 65536 in
theorem w_t1 : (words1.take 24).all (fun c => isCode c || c.before args0 about1) = true := by decide +kernel
set_option maxRecDepth 65536 in
theorem w_t2 : (words1.drop 24).all (fun c => isCode c || c.before args0 about1) = true := by decide +kernel
theorem w_tables : (allAtoms (Jvm.Cond.code x code maxLocals ret :: tables_1)).before args0 about1 = true := by
  rw [allAtoms_all]
  show words1.all (fun c => c.before args0 about1) = true
  refine all_split ?_ w_codes
  rw [← List.take_append_drop 24 words1, List.all_append, w_t1, w_t2]
  rfl
set_option maxRecDepth 65536 in
theorem w_case : (Jvm.Cond.and given_1 narrow_1).before args0 about1 = true := by decide +kernel
theorem w_applies : (headSpec (Jvm.Cond.code x code maxLocals ret :: tables_1) room_1).applies x e0.platform about1 = true :=
  (Spec.applies_iff w_frames).mpr ⟨w_running, w_runnable, w_alone, w_named, w_hears, w_ripe, w_room, w_tables⟩
theorem atStart : AtStart classFile x code maxLocals ret World_1 tables_1 room_1 Calls_1 rest_1 Pre_1 launch0 p0 e0 about1 theMethod args0 below0 :=
  ⟨lists_1, trivial, launch0.admits_env _ _ _, launch0.least_env, fairChoices_fair.cas, fairChoices_fair.clock, w_frames, w_args, w_heap, w_applies, trivial, trivial, w_case⟩
end start1
theorem witness_1 : WitnessClaimed_1 := ⟨start1.p0, start1.e0, start1.about1, start1.theMethod, start1.args0, start1.below0, start1.atStart⟩
end Jvm.Pilot.@@N@@
