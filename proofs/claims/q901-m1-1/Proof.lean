import JvmDerived
import JvmDerived.Pilot.@@N@@Statement
import JvmDerived.Pilot.@@N@@Code
set_option linter.unusedVariables false
set_option linter.unusedSimpArgs false
namespace Jvm.Pilot.@@N@@
open Jvm Jvm.ClassFile Sem Op Lib Jvm.Free Jvm.Stand Jvm.LawKit Jvm.RoadKit Bundle Jvm.Pilot.@@N@@.Jvm.D
/-! ## own kit: a walk in continuation style over the library's steps -/
section OwnKit
variable {p : Program} {l : Launch} {e : Env} {R : Room} {s : State} {m : MethodId} {args : Array Value} {below : List Frame} {meth : Method} {c : Code} {T : State} {locs : List Loc} {cells slots : Nat} {Z : State} {a0 : Array Value} {h h' : Heap}
/-- from U the run ends, and then E holds -/
def GoOn (p : Program) (e : Env) (below : List Frame) (E : State → Outcome → Prop) (U : State) : Prop :=
  ∃ t o, Steps p.tables e below U t ∧ t.status = .running ∧ Ended t below o ∧ E t o
theorem GoOn.step {E : State → Outcome → Prop} {U U' : State} (hs : ∀ t, Steps p.tables e below U' t → Steps p.tables e below U t) (g : GoOn p e below E U') : GoOn p e below E U := by
  obtain ⟨t, o, h1, h2⟩ := g
  exact ⟨t, o, hs _ h1, h2⟩
/-- how a body ends: what it returns, its heap, the places that it wrote -/
abbrev EndQ (s : State) (rm : Room) (Q : Option Value → Heap → List Loc → Prop) : State → Outcome → Prop :=
  fun U o => ∃ v L, o = .returned v ∧ Q v U.heap L ∧ FrameEnd s o U L rm.cells rm.slots
/-- a body's contract at one array of arguments and one heap -/
def Con (l : Launch) (Z : State) (y : MethodName) (bytes : ByteArray) (mx : Nat) (rt : Option FieldType) (rm : Room) (as : Array Value) (h : Heap) (Q : Option Value → Heap → List Loc → Prop) : Prop :=
  ∀ ws : List Jvm.Cond, MetFree l y (head1 (Jvm.Cond.code y bytes mx rt :: ws) rm) (fun a U => a = as ∧ Z.Warmed39 U.vm ∧ U.heap = h) (fun _ _ _ _ _ => True) (fun _ U o U' => ∃ v L, o = .returned v ∧ Q v U'.heap L ∧ FrameEnd U o U' L rm.cells rm.slots)
theorem Con.intro {y : MethodName} {bytes : ByteArray} {mx : Nat} {rt : Option FieldType} {rm : Room} {as : Array Value} {Q : Option Value → Heap → List Loc → Prop} (hp : plainFor y = true)
    (body : ∀ (p : Program) (e : Env) (s : State) (m : MethodId) (below : List Frame) (meth : Method) (c : Code) (s₁ : State), p.tables.exec = Jvm.exec → c.code = bytes → c.maxLocals = mx → meth.sig.returnType = rt → meth.locks = false → Z.Warmed39 s.vm → s.vm.findClass y.cls = some m.cls → meth.name = y.name →
      Stand p l e rm s m as below meth c s₁ [] 0 0 → s₁.heap = h → GoOn p e below (EndQ s rm Q) (s₁.setTop (entryFrame m as mx))) : Con l Z y bytes mx rt rm as h Q := fun ws => by
  refine MetFree.of_bodySF hp hisR ?_
  intro p e s m args below meth c s₁ Bd hml0 hP hK
  obtain ⟨rfl, hZ, hh⟩ := hP
  have X0 : Stand p l e rm s m args below meth c s₁ [] 0 0 := Stand.of_body Bd
  obtain ⟨t, o, h1, h2, h3, h4⟩ := body p e s m below meth c s₁ Bd.exec Bd.bytes hml0 Bd.returns Bd.notSynchronized hZ (findClass_of_methodNamed Bd.named) (name_of_methodNamed Bd.named Bd.method).1 X0 (by rw [← hh, Bd.state]; rfl)
  exact ⟨t, o, h1, h2, h3, h4⟩
theorem GoOn.cast {E : State → Outcome → Prop} {g g' : JFrame} (q : g = g') (k : GoOn p e below E (T.setTop g')) : GoOn p e below E (T.setTop g) := q ▸ k
theorem GoOn.retI (X : Stand p l e R s m args below meth c T locs cells slots) (hx : p.tables.exec = Jvm.exec) (hrt : meth.sig.returnType = some .int) (hlk : meth.locks = false) {rm : Room} {Q : Option Value → Heap → List Loc → Prop} {pc : Nat} {Ls : Array Slot} {z : Int32} {rest : List Value}
    (hd : decode c.code pc = .ok (.ireturn, 1)) (hc : cells ≤ rm.cells) (hs : slots ≤ rm.slots) (hQ : Q (some (.int z)) T.heap locs) : GoOn p e below (EndQ s rm Q) (T.setTop (mkF m pc Ls (.int z :: rest))) := by
  obtain ⟨fs, hr, hrun, hended, hW, hsame⟩ := X.leave (v := some (.int z)) (fun h => by rw [hrt] at h; cases h) hlk
  exact ⟨_, _, Jvm.RoadKit.retOut X hx hrt rfl (Or.inl ⟨rfl, Or.inl rfl, _, rfl⟩) hd hr, hrun, hended, _, _, rfl, hQ, ⟨_, rfl⟩, hW, hsame.mono hc hs⟩
theorem GoOn.retN (X : Stand p l e R s m args below meth c T locs cells slots) (hx : p.tables.exec = Jvm.exec) {t : FieldType} (hrt : meth.sig.returnType = some t) (hlk : meth.locks = false) {rm : Room} {Q : Option Value → Heap → List Loc → Prop} {pc : Nat} {Ls : Array Slot} {z : Int32} {rest : List Value} (ht : t = .boolean ∨ t = .byte ∨ t = .char ∨ t = .short)
    (hd : decode c.code pc = .ok (.ireturn, 1)) (hc : cells ≤ rm.cells) (hs : slots ≤ rm.slots) (hQ : Q (some (.int (nar t z))) T.heap locs) : GoOn p e below (EndQ s rm Q) (T.setTop (mkF m pc Ls (.int z :: rest))) := by
  obtain ⟨fs, hr, hrun, hended, hW, hsame⟩ := X.leave (v := some (.int (nar t z))) (fun h => by rw [hrt] at h; cases h) hlk
  exact ⟨_, _, Jvm.RoadKit.retN X hx hrt ht hd hr, hrun, hended, _, _, rfl, hQ, ⟨_, rfl⟩, hW, hsame.mono hc hs⟩
theorem GoOn.retJ (X : Stand p l e R s m args below meth c T locs cells slots) (hx : p.tables.exec = Jvm.exec) (hrt : meth.sig.returnType = some .long) (hlk : meth.locks = false) {rm : Room} {Q : Option Value → Heap → List Loc → Prop} {pc : Nat} {Ls : Array Slot} {z : Int64} {rest : List Value}
    (hd : decode c.code pc = .ok (.lreturn, 1)) (hc : cells ≤ rm.cells) (hs : slots ≤ rm.slots) (hQ : Q (some (.long z)) T.heap locs) : GoOn p e below (EndQ s rm Q) (T.setTop (mkF m pc Ls (.long z :: rest))) := by
  obtain ⟨fs, hr, hrun, hended, hW, hsame⟩ := X.leave (v := some (.long z)) (fun h => by rw [hrt] at h; cases h) hlk
  exact ⟨_, _, Jvm.RoadKit.retOut X hx hrt rfl (Or.inr (Or.inl ⟨rfl, rfl, _, rfl⟩)) hd hr, hrun, hended, _, _, rfl, hQ, ⟨_, rfl⟩, hW, hsame.mono hc hs⟩
theorem GoOn.retR (X : Stand p l e R s m args below meth c T locs cells slots) (hx : p.tables.exec = Jvm.exec) {t : FieldType} (hrt : meth.sig.returnType = some t) (htr : t.isReference = true) (hlk : meth.locks = false) {rm : Room} {Q : Option Value → Heap → List Loc → Prop} {pc : Nat} {Ls : Array Slot} {z : Value} (hz : z.isRef = true) {rest : List Value}
    (hd : decode c.code pc = .ok (.areturn, 1)) (hc : cells ≤ rm.cells) (hs : slots ≤ rm.slots) (hQ : Q (some z) T.heap locs) : GoOn p e below (EndQ s rm Q) (T.setTop (mkF m pc Ls (z :: rest))) := by
  obtain ⟨fs, hr, hrun, hended, hW, hsame⟩ := X.leave (v := some z) (fun h => by rw [hrt] at h; cases h) hlk
  refine ⟨_, _, Jvm.RoadKit.retOut X hx hrt ?_ (Or.inr (Or.inr (Or.inr (Or.inr ⟨rfl, htr, hz⟩)))) hd hr, hrun, hended, _, _, rfl, hQ, ⟨_, rfl⟩, hW, hsame.mono hc hs⟩
  cases z <;> first | (cases t <;> rfl) | (simp [Value.isRef] at hz)
theorem GoOn.ret0 (X : Stand p l e R s m args below meth c T locs cells slots) (hx : p.tables.exec = Jvm.exec) (hrt : meth.sig.returnType = none) (hlk : meth.locks = false) {rm : Room} {Q : Option Value → Heap → List Loc → Prop} {pc : Nat} {Ls : Array Slot}
    (hd : decode c.code pc = .ok (.return_, 1)) (hc : cells ≤ rm.cells) (hs : slots ≤ rm.slots) (hQ : Q none T.heap locs) : GoOn p e below (EndQ s rm Q) (T.setTop (mkF m pc Ls [])) := by
  obtain ⟨fs, hr, hrun, hended, hW, hsame⟩ := X.leave (v := none) (fun _ => rfl) hlk
  exact ⟨_, _, X.returnOut hx hrt hd hr, hrun, hended, _, _, rfl, hQ, ⟨_, rfl⟩, hW, hsame.mono hc hs⟩
/-- a static call by its contract -/
theorem kCallS (X : Stand p l e R s m args below meth c T locs cells slots) (hx : p.tables.exec = Jvm.exec) (hZ : Z.Warmed39 s.vm) {own : String} {index : Nat} {y : MethodName} {bytes : ByteArray} {mx : Nat} {rt : Option FieldType} {rm : Room} {Q : Option Value → Heap → List Loc → Prop} {argsL rest : List Value}
    (K : Con l Z y bytes mx rt rm argsL.toArray h Q) (hown : s.vm.findClass own = some m.cls) (w1 : (Jvm.Cond.methodLink own index y).before a0 Z = true) (w2 : (Jvm.Cond.static y).before a0 Z = true) (w3 : (Jvm.Cond.initialized y.cls).before a0 Z = true) (w4 : (Jvm.Cond.code y bytes mx rt).before a0 Z = true)
    (hy : y.cls ≠ "java/lang/invoke/MethodHandle" ∧ y.cls ≠ "java/lang/invoke/VarHandle") (eT : T.heap = h) {g : JFrame} (hg : g.method = m) (hsize : g.locals.size = c.maxLocals) (hlen : ∀ sig, parseMethodDescriptor y.desc = some sig → argsL.length = sig.parameters.length) (hstack : g.stack = argsL.reverse ++ rest)
    {W : Nat} (hW : 2 * g.monitorRoom + (rest.map fun v => v.category).sum ≤ W) (hd : decode c.code g.pc = .ok (.invokestatic index, 3)) (hf : rm.frames + 1 ≤ R.frames) (hl : W + (mx + 11) + rm.locals ≤ R.locals) (hc : cells + rm.cells ≤ R.cells) (hs : slots + rm.slots ≤ R.slots) :
    ∃ v T' L, Stand p l e R s m args below meth c T' (locs ++ L) (cells + rm.cells) (slots + rm.slots) ∧ Q v T'.heap L ∧ ∀ target, Steps p.tables e below (T'.setTop { g with pc := g.pc + 3, stack := v.toList ++ rest }) target → Steps p.tables e below (T.setTop g) target := by
  obtain ⟨v, _, ⟨T', L', k', n'⟩, -, X', ⟨L, hQ, l1, l2, l3⟩, st⟩ := Jvm.LawKit.callS X hx (y := y) hown (mvT hZ w1) (mvT hZ w2) (mvT hZ w3) (mvT hZ w4) hy (backOf (W := W) (K []) hZ w4 w3 hf hl) hg hsize hlen hstack hW hd (fun _ _ => ⟨rfl, eT, hc, hs⟩)
  dsimp only [Pt.U, Pt.locs, Pt.cells, Pt.slots] at X' l1 l2 l3 hQ st
  subst l1 l2 l3
  exact ⟨v, T', L, X', hQ, fun t k => st _ k⟩
/-- a constructor by its contract -/
theorem kCallI (X : Stand p l e R s m args below meth c T locs cells slots) (hx : p.tables.exec = Jvm.exec) (hZ : Z.Warmed39 s.vm) {own : String} {index : Nat} {y : MethodName} {bytes : ByteArray} {mx : Nat} {rm : Room} {Q : Option Value → Heap → List Loc → Prop} {a : Addr} {argsL rest : List Value}
    (K : Con l Z y bytes mx none rm (.ref a :: argsL).toArray h Q) (hy1 : y.name = "<init>") (hown : s.vm.findClass own = some m.cls) (w1 : (Jvm.Cond.methodLink own index y).before a0 Z = true) (w2 : (Jvm.Cond.instanceMethod y).before a0 Z = true) (w3 : (Jvm.Cond.initialized y.cls).before a0 Z = true) (w4 : (Jvm.Cond.code y bytes mx none).before a0 Z = true)
    (hy : y.cls ≠ "java/lang/invoke/MethodHandle" ∧ y.cls ≠ "java/lang/invoke/VarHandle") (eT : T.heap = h) {g : JFrame} (hg : g.method = m) (hsize : g.locals.size = c.maxLocals) (hlen : ∀ sig, parseMethodDescriptor y.desc = some sig → argsL.length = sig.parameters.length) (hstack : g.stack = argsL.reverse ++ .ref a :: rest)
    {W : Nat} (hW : 2 * g.monitorRoom + (rest.map fun v => v.category).sum ≤ W) (hd : decode c.code g.pc = .ok (.invokespecial index, 3)) (hf : rm.frames + 1 ≤ R.frames) (hl : W + (mx + 11) + rm.locals ≤ R.locals) (hc : cells + rm.cells ≤ R.cells) (hs : slots + rm.slots ≤ R.slots) :
    ∃ v T' L, Stand p l e R s m args below meth c T' (locs ++ L) (cells + rm.cells) (slots + rm.slots) ∧ Q v T'.heap L ∧ ∀ target, Steps p.tables e below (T'.setTop { g with pc := g.pc + 3, stack := v.toList ++ rest }) target → Steps p.tables e below (T.setTop g) target := by
  obtain ⟨v, _, ⟨T', L', k', n'⟩, -, X', ⟨L, hQ, l1, l2, l3⟩, st⟩ := X.specialBack hx (y := y) hy1 hown (mvT hZ w1) (mvT hZ w2) (mvT hZ w4) hy (backOf (W := W) (K []) hZ w4 w3 hf hl) hg hsize (Steps.refl _) (a := a) hlen hstack hW hd (fun _ _ => ⟨rfl, eT, hc, hs⟩)
  dsimp only [Pt.U, Pt.locs, Pt.cells, Pt.slots] at X' l1 l2 l3 hQ st
  subst l1 l2 l3
  exact ⟨v, T', L, X', hQ, fun t k => st.trans k⟩
/-- an instance method by its contract, on an object of that very class -/
theorem kCallV (X : Stand p l e R s m args below meth c T locs cells slots) (hx : p.tables.exec = Jvm.exec) (hZ : Z.Warmed39 s.vm) {own C : String} {index : Nat} {y z : MethodName} {bytes : ByteArray} {mx : Nat} {rt : Option FieldType} {rm : Room} {Q : Option Value → Heap → List Loc → Prop} {a : Addr} {argsL rest : List Value}
    (K : Con l Z z bytes mx rt rm (.ref a :: argsL).toArray h Q) (hown : s.vm.findClass own = some m.cls) (w1 : (Jvm.Cond.methodLink own index y).before a0 Z = true) (wd : (Jvm.Cond.declares y).before a0 Z = true) (hnf : NotFace s y) (ws : (Jvm.Cond.selects C y z).before a0 Z = true) (w2 : (Jvm.Cond.instanceMethod z).before a0 Z = true) (w3 : (Jvm.Cond.initialized z.cls).before a0 Z = true) (w4 : (Jvm.Cond.code z bytes mx rt).before a0 Z = true)
    (hy : y.cls ≠ "java/lang/invoke/MethodHandle" ∧ y.cls ≠ "java/lang/invoke/VarHandle") (eT : T.heap = h) (E : Exa Z h a C) {g : JFrame} (hg : g.method = m) (hsize : g.locals.size = c.maxLocals) (hlen : ∀ sig, parseMethodDescriptor y.desc = some sig → argsL.length = sig.parameters.length) (hstack : g.stack = argsL.reverse ++ .ref a :: rest)
    {W : Nat} (hW : 2 * g.monitorRoom + (rest.map fun v => v.category).sum ≤ W) (hd : decode c.code g.pc = .ok (.invokevirtual index, 3)) (hf : rm.frames + 1 ≤ R.frames) (hl : W + (mx + 11) + rm.locals ≤ R.locals) (hc : cells + rm.cells ≤ R.cells) (hs : slots + rm.slots ≤ R.slots) :
    ∃ v T' L, Stand p l e R s m args below meth c T' (locs ++ L) (cells + rm.cells) (slots + rm.slots) ∧ Q v T'.heap L ∧ ∀ target, Steps p.tables e below (T'.setTop { g with pc := g.pc + 3, stack := v.toList ++ rest }) target → Steps p.tables e below (T.setTop g) target := by
  obtain ⟨cB, kB, q1, q2, q3⟩ := isOf hZ eT E
  obtain ⟨v, _, ⟨T', L', k', n'⟩, -, X', ⟨L, hQ, l1, l2, l3⟩, st⟩ := X.virtualBack hx (y := y) (z := z) hown (mvT hZ w1) (mvT hZ wd) hnf (mvT hZ ws) (mvT hZ w2) hy (backOf (W := W) (K []) hZ w4 w3 hf hl) q1 q3 hg hsize (Steps.refl _) hlen hstack hW hd (fun _ _ => ⟨rfl, eT, hc, hs⟩)
  dsimp only [Pt.U, Pt.locs, Pt.cells, Pt.slots] at X' l1 l2 l3 hQ st
  subst l1 l2 l3
  exact ⟨v, T', L, X', hQ, fun t k => st.trans k⟩
/-- a private method by its contract ('invokevirtual'); y2: a method of the same class of which is known that its class is no interface -/
theorem kCallP (X : Stand p l e R s m args below meth c T locs cells slots) (hx : p.tables.exec = Jvm.exec) (hZ : Z.Warmed39 s.vm) {own C : String} {index : Nat} {y y2 : MethodName} {bytes : ByteArray} {mx : Nat} {rt : Option FieldType} {rm : Room} {Q : Option Value → Heap → List Loc → Prop} {a : Addr} {argsL rest : List Value}
    (K : Con l Z y bytes mx rt rm (.ref a :: argsL).toArray h Q) (hown : s.vm.findClass own = some m.cls) (w1 : (Jvm.Cond.methodLink own index y).before a0 Z = true) (w2 : (Jvm.Cond.instanceMethod y).before a0 Z = true) (wp : (Jvm.Cond.privateMethod y).before a0 Z = true) (w3 : (Jvm.Cond.initialized y.cls).before a0 Z = true) (w4 : (Jvm.Cond.code y bytes mx rt).before a0 Z = true)
    (hnf : NotFace s y2) (hcl : y2.cls = y.cls) (w5 : (Jvm.Cond.instanceMethod y2).before a0 Z = true)
    (hy : y.cls ≠ "java/lang/invoke/MethodHandle" ∧ y.cls ≠ "java/lang/invoke/VarHandle") (eT : T.heap = h) (E : Exa Z h a C) {g : JFrame} (hg : g.method = m) (hsize : g.locals.size = c.maxLocals) (hlen : ∀ sig, parseMethodDescriptor y.desc = some sig → argsL.length = sig.parameters.length) (hstack : g.stack = argsL.reverse ++ .ref a :: rest)
    {W : Nat} (hW : 2 * g.monitorRoom + (rest.map fun v => v.category).sum ≤ W) (hd : decode c.code g.pc = .ok (.invokevirtual index, 3)) (hf : rm.frames + 1 ≤ R.frames) (hl : W + (mx + 11) + rm.locals ≤ R.locals) (hc : cells + rm.cells ≤ R.cells) (hs : slots + rm.slots ≤ R.slots) :
    ∃ v T' L, Stand p l e R s m args below meth c T' (locs ++ L) (cells + rm.cells) (slots + rm.slots) ∧ Q v T'.heap L ∧ ∀ target, Steps p.tables e below (T'.setTop { g with pc := g.pc + 3, stack := v.toList ++ rest }) target → Steps p.tables e below (T.setTop g) target := by
  obtain ⟨cB, kB, q1, q2, cell, q3, q4, q5⟩ := isOf hZ eT E
  obtain ⟨mk, methM, hnamed, hmethM, hstM, habM⟩ := Cond.instanceMethod_spec (mvT (args := args) hZ w2)
  obtain ⟨methM', cM, hmethM', -, -, -, -, -, -, hsigM⟩ := Cond.code_spec hnamed (mvT (args := args) hZ w4)
  cases hmethM.symm.trans hmethM'
  obtain ⟨mk2, methM2, hnamed2, -⟩ := Cond.instanceMethod_spec (mvT (args := args) hZ w5)
  obtain ⟨kP, hkP, hkPi⟩ := hnf mk2 hnamed2
  have hcc : mk2.cls = mk.cls := by
    have u1 := findClass_of_methodNamed hnamed2
    rw [hcl] at u1
    exact Option.some.inj (u1.symm.trans (findClass_of_methodNamed hnamed))
  rw [hcc] at hkP
  have hpriv : s.PrivateAt y := Cond.privateMethod_at (mvP hZ wp (args := args))
  obtain ⟨vm₁, X₁, hstep₁⟩ := X.invokevirtual hx hown (mvT hZ w1) hnamed hmethM hstM hkP hkPi hy (a := a) (cell := cell) q3 (fun q z => by rw [z] at q5; cases q5) (selectMethod_private hmethM (hpriv mk methM hnamed hmethM)) hmethM habM hkP hkPi (g := g) hg (argsL := argsL) (rest := rest) (hlen _ hsigM) hstack hd
  obtain ⟨v, ⟨T', L', k', n'⟩, X', ⟨L, hQ, l1, l2, l3⟩, st⟩ := (backOf (W := W) (K []) hZ w4 w3 hf hl) m meth c ⟨T.setVm vm₁, locs, cells, slots⟩ { g with stack := rest } (.invokevirtual index) mk (.ref a :: argsL).toArray X₁ hg hsize hd hW (X₁.named hnamed) ⟨rfl, eT, hc, hs⟩
  dsimp only [Pt.U, Pt.locs, Pt.cells, Pt.slots] at X' l1 l2 l3 hQ st
  subst l1 l2 l3
  exact ⟨v, T', L, X', hQ, fun t k => (hstep₁ _ fun acts => by rw [doInvoke_state]; exact Steps.refl _).trans (st.trans k)⟩
/-- an array: its kind, its length, what each place holds -/
def Jar (Z : State) (h : Heap) (a : Addr) (ty : FieldType) (n : Nat) (f : Nat → Value) : Prop := ∃ cl : Cell, Arr Z h a cl ty ∧ cl.slots.size = n ∧ ∀ i, i < n → cl.slots[i]? = some (f i)
section JarS
variable {a b : Addr} {ty : FieldType} {n : Nat} {f g : Nat → Value} {v : Value} {sl : Nat} {ws : List Addr}
theorem Jar.lt (F : Jar Z h a ty n f) : a < h.size := by obtain ⟨cl, A, -⟩ := F; exact A.lt
theorem Jar.ext (F : Jar Z h a ty n f) (E : Ext h h') : Jar Z h' a ty n f := by obtain ⟨cl, A, r⟩ := F; exact ⟨cl, A.ext E, r⟩
theorem Jar.other (F : Jar Z h b ty n f) (W : Wr h h' a sl v) (q : b ≠ a) : Jar Z h' b ty n f := by obtain ⟨cl, A, r⟩ := F; exact ⟨cl, A.other W q, r⟩
theorem Jar.keep (F : Jar Z h a ty n f) (K : Keep h h' ws) (q : a ∉ ws) : Jar Z h' a ty n f := by obtain ⟨cl, A, r⟩ := F; exact ⟨cl, ⟨K.2.1 a cl A.1 q, A.2⟩, r⟩
theorem Jar.congr (F : Jar Z h a ty n f) (q : ∀ i, i < n → f i = g i) : Jar Z h a ty n g := by obtain ⟨cl, A, s1, s2⟩ := F; exact ⟨cl, A, s1, fun i hi => by rw [s2 i hi, q i hi]⟩
theorem Jar.new {k : ClassId} {z : Int32} (A : Arr Z h a (newA k ty z) ty) (hz : z.toNatClampNeg = n) : Jar Z h a ty n (fun _ => defaultValue ty) := ⟨_, A, (sz_new _ _ _).trans hz, fun i hi => by simp [newA, hz, hi]⟩
theorem Jar.set (F : Jar Z h a ty n f) (W : Wr h h' a sl v) : Jar Z h' a ty n (fun i => if i = sl then v else f i) := by
  obtain ⟨cl, A, s1, s2⟩ := F
  obtain ⟨c2, q1, -, q3, -⟩ := id W
  cases A.1.symm.trans q1
  refine ⟨_, Arr.same W A, by simp [Cell.setSlot, s1], fun i hi => ?_⟩
  by_cases q : i = sl
  · subst q; simp [Cell.setSlot, q3]
  · show (cl.slots.setIfInBounds sl v)[i]? = some (if i = sl then v else f i)
    rw [if_neg q, ← s2 i hi, Array.getElem?_setIfInBounds_ne (Ne.symm q)]
theorem Jar.ints (F : Jar Z h a ty n f) (H : ∀ i, ∃ x, f i = .int x) : ∃ g : Nat → Int32, Jar Z h a ty n (fun i => .int (g i)) := ⟨fun i => Classical.choose (H i), F.congr fun i _ => Classical.choose_spec (H i)⟩
theorem Jar.longs (F : Jar Z h a ty n f) (H : ∀ i, ∃ x, f i = .long x) : ∃ g : Nat → Int64, Jar Z h a ty n (fun i => .long (g i)) := ⟨fun i => Classical.choose (H i), F.congr fun i _ => Classical.choose_spec (H i)⟩
theorem inJ {cl : Cell} {j : Int32} (s1 : cl.slots.size = n) (hj : 0 ≤ j.toInt ∧ j.toInt < n) : ¬ (j < 0 ∨ cl.slots.size ≤ j.toNatClampNeg) := by
  rw [s1, Int32.lt_iff_toInt_lt]
  have e1 : (0 : Int32).toInt = 0 := rfl
  have e2 : j.toNatClampNeg = j.toInt.toNat := rfl
  omega
theorem natJ {j : Int32} (hj : 0 ≤ j.toInt ∧ j.toInt < n) : j.toNatClampNeg < n := by
  have e2 : j.toNatClampNeg = j.toInt.toNat := rfl
  omega
end JarS
theorem kLdI (X : Stand p l e R s m args below meth c T locs cells slots) (hx : p.tables.exec = Jvm.exec) (hZ : Z.Warmed39 s.vm) (eT : T.heap = h) {a : Addr} {n : Nat} {f : Nat → Value} (F : Jar Z h a .int n f) {j : Int32} {v : Value} (hj : 0 ≤ j.toInt ∧ j.toInt < n) (hv : f j.toNatClampNeg = v) {g : JFrame} (hg : g.method = m) {rest : List Value} (hs : g.stack = .int j :: .ref a :: rest) (hd : decode c.code g.pc = .ok (.iaload, 1)) :
    ∀ t, Steps p.tables e below (T.setTop { g with pc := g.pc + 1, stack := v :: rest }) t → Steps p.tables e below (T.setTop g) t := by
  obtain ⟨cl, A, s1, s2⟩ := F
  exact X.iaload hx (j := j) (v := v) (by rw [eT]; exact A.1) (State.isArrayOf_alike hZ.alike A.2.1) A.2.2 (inJ s1 hj) (by rw [s2 _ (natJ hj), hv]) hg hs hd
theorem kLdJ (X : Stand p l e R s m args below meth c T locs cells slots) (hx : p.tables.exec = Jvm.exec) (hZ : Z.Warmed39 s.vm) (eT : T.heap = h) {a : Addr} {n : Nat} {f : Nat → Value} (F : Jar Z h a .long n f) {j : Int32} {v : Value} (hj : 0 ≤ j.toInt ∧ j.toInt < n) (hv : f j.toNatClampNeg = v) {g : JFrame} (hg : g.method = m) {rest : List Value} (hs : g.stack = .int j :: .ref a :: rest) (hd : decode c.code g.pc = .ok (.laload, 1)) :
    ∀ t, Steps p.tables e below (T.setTop { g with pc := g.pc + 1, stack := v :: rest }) t → Steps p.tables e below (T.setTop g) t := by
  obtain ⟨cl, A, s1, s2⟩ := F
  exact X.laload hx (j := j) (v := v) (by rw [eT]; exact A.1) (State.isArrayOf_alike hZ.alike A.2.1) A.2.2 (inJ s1 hj) (by rw [s2 _ (natJ hj), hv]) hg hs hd
theorem kLdB (X : Stand p l e R s m args below meth c T locs cells slots) (hx : p.tables.exec = Jvm.exec) (hZ : Z.Warmed39 s.vm) (eT : T.heap = h) {a : Addr} {n : Nat} {f : Nat → Value} (F : Jar Z h a .byte n f) {j : Int32} {v : Value} (hj : 0 ≤ j.toInt ∧ j.toInt < n) (hv : f j.toNatClampNeg = v) {g : JFrame} (hg : g.method = m) {rest : List Value} (hs : g.stack = .int j :: .ref a :: rest) (hd : decode c.code g.pc = .ok (.baload, 1)) :
    ∀ t, Steps p.tables e below (T.setTop { g with pc := g.pc + 1, stack := v :: rest }) t → Steps p.tables e below (T.setTop g) t := by
  obtain ⟨cl, A, s1, s2⟩ := F
  exact X.baloadBytes hx (j := j) (v := v) (by rw [eT]; exact A.1) (State.isArrayOf_alike hZ.alike A.2.1) A.2.2 (inJ s1 hj) (by rw [s2 _ (natJ hj), hv]) hg hs hd
theorem kLdA (X : Stand p l e R s m args below meth c T locs cells slots) (hx : p.tables.exec = Jvm.exec) (hZ : Z.Warmed39 s.vm) (eT : T.heap = h) {a : Addr} {ty : FieldType} {n : Nat} {f : Nat → Value} (F : Jar Z h a ty n f) (hty : ty.isReference = true) {j : Int32} {v : Value} (hj : 0 ≤ j.toInt ∧ j.toInt < n) (hv : f j.toNatClampNeg = v) {g : JFrame} (hg : g.method = m) {rest : List Value} (hs : g.stack = .int j :: .ref a :: rest) (hd : decode c.code g.pc = .ok (.aaload, 1)) :
    ∀ t, Steps p.tables e below (T.setTop { g with pc := g.pc + 1, stack := v :: rest }) t → Steps p.tables e below (T.setTop g) t := by
  obtain ⟨cl, A, s1, s2⟩ := F
  exact X.aaload hx (j := j) (v := v) (by rw [eT]; exact A.1) (State.isArrayOf_alike hZ.alike A.2.1) hty A.2.2 (inJ s1 hj) (by rw [s2 _ (natJ hj), hv]) hg hs hd
theorem kLen (X : Stand p l e R s m args below meth c T locs cells slots) (hx : p.tables.exec = Jvm.exec) (hZ : Z.Warmed39 s.vm) (eT : T.heap = h) {a : Addr} {ty : FieldType} {n : Nat} {f : Nat → Value} (F : Jar Z h a ty n f) {z : Int32} (hz : n.toInt32 = z) {g : JFrame} (hg : g.method = m) {rest : List Value} (hs : g.stack = .ref a :: rest) (hd : decode c.code g.pc = .ok (.arraylength, 1)) :
    ∀ t, Steps p.tables e below (T.setTop { g with pc := g.pc + 1, stack := .int z :: rest }) t → Steps p.tables e below (T.setTop g) t := by
  obtain ⟨cl, A, s1, s2⟩ := F
  subst hz s1
  exact X.arraylength hx (by rw [eT]; exact A.1) (State.isArrayOf_alike hZ.alike A.2.1) hg hs hd
/-- a store: what the three kinds say alike -/
theorem kStI (X : Stand p l e R s m args below meth c T locs cells slots) (hx : p.tables.exec = Jvm.exec) (hZ : Z.Warmed39 s.vm) (eT : T.heap = h) {a : Addr} {n : Nat} {f : Nat → Value} (F : Jar Z h a .int n f) {j x : Int32} (hj : 0 ≤ j.toInt ∧ j.toInt < n) {g : JFrame} (hg : g.method = m) {rest : List Value} (hs : g.stack = .int x :: .int j :: .ref a :: rest) (hd : decode c.code g.pc = .ok (.iastore, 1)) :
    ∃ T' h', Stand p l e R s m args below meth c T' (locs ++ [⟨a, j.toNatClampNeg⟩]) cells slots ∧ T'.heap = h' ∧ Wr h h' a j.toNatClampNeg (.int x) ∧ ∀ target, Steps p.tables e below (T'.setTop { g with pc := g.pc + 1, stack := rest }) target → Steps p.tables e below (T.setTop g) target := by
  obtain ⟨cl, A, s1, s2⟩ := F
  exact stI X hx hZ eT A (inJ s1 hj) hg hs hd
theorem kStJ (X : Stand p l e R s m args below meth c T locs cells slots) (hx : p.tables.exec = Jvm.exec) (hZ : Z.Warmed39 s.vm) (eT : T.heap = h) {a : Addr} {n : Nat} {f : Nat → Value} (F : Jar Z h a .long n f) {j : Int32} {x : Int64} (hj : 0 ≤ j.toInt ∧ j.toInt < n) {g : JFrame} (hg : g.method = m) {rest : List Value} (hs : g.stack = .long x :: .int j :: .ref a :: rest) (hd : decode c.code g.pc = .ok (.lastore, 1)) :
    ∃ T' h', Stand p l e R s m args below meth c T' (locs ++ [⟨a, j.toNatClampNeg⟩]) cells slots ∧ T'.heap = h' ∧ Wr h h' a j.toNatClampNeg (.long x) ∧ ∀ target, Steps p.tables e below (T'.setTop { g with pc := g.pc + 1, stack := rest }) target → Steps p.tables e below (T.setTop g) target := by
  obtain ⟨cl, A, s1, s2⟩ := F
  exact stJ X hx hZ eT A (inJ s1 hj) hg hs hd
theorem kStB (X : Stand p l e R s m args below meth c T locs cells slots) (hx : p.tables.exec = Jvm.exec) (hZ : Z.Warmed39 s.vm) (eT : T.heap = h) {a : Addr} {n : Nat} {f : Nat → Value} (F : Jar Z h a .byte n f) {j x : Int32} (hj : 0 ≤ j.toInt ∧ j.toInt < n) {g : JFrame} (hg : g.method = m) {rest : List Value} (hs : g.stack = .int x :: .int j :: .ref a :: rest) (hd : decode c.code g.pc = .ok (.bastore, 1)) :
    ∃ T' h', Stand p l e R s m args below meth c T' (locs ++ [⟨a, j.toNatClampNeg⟩]) cells slots ∧ T'.heap = h' ∧ Wr h h' a j.toNatClampNeg (.int (x.toInt8.toInt32)) ∧ ∀ target, Steps p.tables e below (T'.setTop { g with pc := g.pc + 1, stack := rest }) target → Steps p.tables e below (T.setTop g) target := by
  obtain ⟨cl, A, s1, s2⟩ := F
  exact stB X hx hZ eT A (inJ s1 hj) hg hs hd
theorem kClone (X : Stand p l e R s m args below meth c T locs cells slots) (hx : p.tables.exec = Jvm.exec) (hZ : Z.Warmed39 s.vm) {own ad : String} {index : Nat} (hown : s.vm.findClass own = some m.cls)
    (w1 : (Jvm.Cond.methodLink own index ⟨ad, "clone", "()Ljava/lang/Object;"⟩).before a0 Z = true) (w2 : (Jvm.Cond.sameMethod ad "java/lang/Object" "clone" "()Ljava/lang/Object;").before a0 Z = true) (w3 : (Jvm.Cond.native ⟨"java/lang/Object", "clone", "()Ljava/lang/Object;"⟩).before a0 Z = true)
    (w4 : (Jvm.Cond.instanceMethod ⟨"java/lang/Object", "clone", "()Ljava/lang/Object;"⟩).before a0 Z = true) (w5 : (Jvm.Cond.selects ad ⟨ad, "clone", "()Ljava/lang/Object;"⟩ ⟨"java/lang/Object", "clone", "()Ljava/lang/Object;"⟩).before a0 Z = true) (w6 : (Jvm.Cond.castable ad "java/lang/Cloneable").before a0 Z = true)
    (eT : T.heap = h) {a : Addr} {ty : FieldType} {n : Nat} {f : Nat → Value} (F : Jar Z h a ty n f) (E : Exa Z h a ad) (hft : ∀ i, i < n → fits ty (f i) = true) {g : JFrame} (hg : g.method = m) (hsize : g.locals.size = c.maxLocals) {rest : List Value} (hs : g.stack = .ref a :: rest) (hd : decode c.code g.pc = .ok (.invokevirtual index, 3))
    (hf : 1 ≤ R.frames) {W cap : Nat} (hW : 2 * g.monitorRoom + (rest.map fun v => v.category).sum ≤ W) (hl : W + 14 ≤ R.locals) (hcap : n ≤ cap) (hc : cells + 1 ≤ R.cells) (hsl : slots + cap ≤ R.slots) :
    ∃ T' h', Stand p l e R s m args below meth c T' locs (cells + 1) (slots + cap) ∧ T'.heap = h' ∧ Ext h h' ∧ Jar Z h' h.size ty n f ∧ Exa Z h' h.size ad ∧
      ∀ target, Steps p.tables e below (T'.setTop { g with pc := g.pc + 3, stack := .ref h.size :: rest }) target → Steps p.tables e below (T.setTop g) target := by
  obtain ⟨cl, A, s1, s2⟩ := F
  have FC : FitC Z cl := fitC_of A fun i hi v hv => by rw [s2 i (s1 ▸ hi)] at hv; cases hv; exact hft i (s1 ▸ hi)
  obtain ⟨T', h', X', e', ex, A', E', st⟩ := cloneA X hx hZ hown w1 w2 w3 w4 w5 w6 eT A E FC hg hsize hs hd hf hW hl (by rw [s1]; exact hcap) hc hsl
  exact ⟨T', h', X', e', ex, ⟨cloneOf cl, A', s1, s2⟩, E', st⟩
theorem catR {v : Value} (h : v.isRef = true) : v.category = 1 := by cases v <;> first | rfl | (simp [Value.isRef] at h)
theorem narO {C : String} (v : Value) : narrow (.object C) v = v := by cases v <;> rfl
theorem fitO {C : String} {v : Value} (h : v.isRef = true) : fits (.object C) v = true := by cases v <;> first | rfl | (simp [Value.isRef] at h)
theorem own_len {s : State} {args : Array Value} {t : Term} {n : Int32} {ca : Addr} {c : Cell} (ev : t.eval args s none [] s = some (.ref ca)) (ha : s.arrayAt? ca = some c) (w : (Jvm.Cond.eq (.length t) (.int n)).value args s none s [] = some true) : c.slots.size < 2 ^ 31 ∧ c.slots.size.toInt32 = n := by
  by_cases h : c.slots.size < 2 ^ 31
  · refine ⟨h, ?_⟩
    simpa [Cond.value, Term.eval, ev, ha, h] using w
  · simp [Cond.value, Term.eval, ev, ha, h] at w
theorem own_nat {k : Nat} {n : Int32} {K : Nat} (h : k < 2 ^ 31) (e : k.toInt32 = n) (hn : n.toInt = K) : k = K := by
  have := len_toInt h
  rw [e, hn] at this
  omega
theorem own_elem {s : State} {args : Array Value} {C D E : String} {K : String} {ca : Addr} {c : Cell} {i : Nat} (ev : (Term.static C D E).eval args s none [] s = some (.ref ca)) (hc : s.heap[ca]? = some c) (hi : i < 2 ^ 31) (w : (Jvm.Cond.exactly ((Term.static C D E).elem (.index 0)) K).value args s none s [i] = some true) :
    ∃ b, c.slots[i]? = some (.ref b) ∧ Exa s s.heap b K := by
  obtain ⟨b, eb⟩ := exa_v w
  have ev' : (Term.static C D E).eval args s none [i] s = some (.ref ca) := ev
  have ei : (Term.index 0).eval args s none [i] s = some (.int i.toInt32) := Term.index_eval _
  have q := (elem_in eb ev' ei hc).2
  have en : i.toInt32.toNatClampNeg = i := by
    have := len_toInt hi
    have e : i.toInt32.toNatClampNeg = i.toInt32.toInt.toNat := rfl
    omega
  rw [en] at q
  exact ⟨b, q, exa_at eb w⟩
theorem own_eqI {s : State} {args : Array Value} {t : Term} {n : Int32} (w : (Jvm.Cond.eq t (.int n)).value args s none s [] = some true) : t.eval args s none [] s = some (.int n) := by
  cases ht : t.eval args s none [] s with
  | none => simp [Cond.value, ht] at w
  | some x => cases x <;> simp [Cond.value, Term.eval, ht] at w ⊢; exact w
/-- what a body that writes nothing and makes nothing leaves -/
def PQ (r : Option Value) (h0 : Heap) : Option Value → Heap → List Loc → Prop := fun v h L => v = r ∧ L = [] ∧ h = h0
/-- what the law leaves -/
def LQ (n0 : Nat) : Option Value → Heap → List Loc → Prop := fun v _ L => v = some (.int 1) ∧ Fr n0 L
end OwnKit
theorem pn_0 : plainName "com/example/tidewire/tidewire/session/KeepaliveStamp" = true := by first | (simp [plainName, overriddenIn]; done) | decide +kernel
theorem d1_0 : decode prog_66_method_1_code 0 = .ok (.aload_n 0, 1) := by decide +kernel
theorem d1_1 : decode prog_66_method_1_code 1 = .ok (.invokespecial 1, 3) := by decide +kernel
theorem d1_4 : decode prog_66_method_1_code 4 = .ok (.lload_n 1, 1) := by decide +kernel
theorem d1_5 : decode prog_66_method_1_code 5 = .ok (.lconst 0, 1) := by decide +kernel
theorem d1_6 : decode prog_66_method_1_code 6 = .ok (.lcmp, 1) := by decide +kernel
theorem d1_7 : decode prog_66_method_1_code 7 = .ok (.ifCond .lt 25, 3) := by decide +kernel
theorem d1_10 : decode prog_66_method_1_code 10 = .ok (.lload_n 1, 1) := by decide +kernel
theorem d1_11 : decode prog_66_method_1_code 11 = .ok (.ldc2_w 9, 3) := by decide +kernel
theorem d1_14 : decode prog_66_method_1_code 14 = .ok (.lcmp, 1) := by decide +kernel
theorem d1_15 : decode prog_66_method_1_code 15 = .ok (.ifCond .gt 17, 3) := by decide +kernel
theorem d1_18 : decode prog_66_method_1_code 18 = .ok (.lload_n 3, 1) := by decide +kernel
theorem d1_19 : decode prog_66_method_1_code 19 = .ok (.lconst 0, 1) := by decide +kernel
theorem d1_20 : decode prog_66_method_1_code 20 = .ok (.lcmp, 1) := by decide +kernel
theorem d1_21 : decode prog_66_method_1_code 21 = .ok (.ifCond .lt 11, 3) := by decide +kernel
theorem d1_24 : decode prog_66_method_1_code 24 = .ok (.lload_n 3, 1) := by decide +kernel
theorem d1_25 : decode prog_66_method_1_code 25 = .ok (.ldc2_w 9, 3) := by decide +kernel
theorem d1_28 : decode prog_66_method_1_code 28 = .ok (.lcmp, 1) := by decide +kernel
theorem d1_29 : decode prog_66_method_1_code 29 = .ok (.ifCond .le 18, 3) := by decide +kernel
theorem d1_47 : decode prog_66_method_1_code 47 = .ok (.aload_n 0, 1) := by decide +kernel
theorem d1_48 : decode prog_66_method_1_code 48 = .ok (.lload_n 1, 1) := by decide +kernel
theorem d1_49 : decode prog_66_method_1_code 49 = .ok (.putfield 20, 3) := by decide +kernel
theorem d1_52 : decode prog_66_method_1_code 52 = .ok (.aload_n 0, 1) := by decide +kernel
theorem d1_53 : decode prog_66_method_1_code 53 = .ok (.lload_n 3, 1) := by decide +kernel
theorem d1_54 : decode prog_66_method_1_code 54 = .ok (.putfield 24, 3) := by decide +kernel
theorem d1_57 : decode prog_66_method_1_code 57 = .ok (.return_, 1) := by decide +kernel
theorem pn_1 : plainName "java/lang/Number" = true := by first | (simp [plainName, overriddenIn]; done) | decide +kernel
theorem d6_0 : decode jdk_18_method_1_code 0 = .ok (.aload_n 0, 1) := by decide +kernel
theorem d6_1 : decode jdk_18_method_1_code 1 = .ok (.invokespecial 1, 3) := by decide +kernel
theorem d6_4 : decode jdk_18_method_1_code 4 = .ok (.return_, 1) := by decide +kernel
theorem pn_2 : plainName "java/lang/Long" = true := by first | (simp [plainName, overriddenIn]; done) | decide +kernel
theorem d5_0 : decode jdk_35_method_26_code 0 = .ok (.aload_n 0, 1) := by decide +kernel
theorem pd_0 : parseMethodDescriptor "()V" = some ⟨[], none⟩ := by decide +kernel
theorem d5_1 : decode jdk_35_method_26_code 1 = .ok (.invokespecial 270, 3) := by decide +kernel
theorem d5_4 : decode jdk_35_method_26_code 4 = .ok (.aload_n 0, 1) := by decide +kernel
theorem d5_5 : decode jdk_35_method_26_code 5 = .ok (.lload_n 1, 1) := by decide +kernel
theorem d5_6 : decode jdk_35_method_26_code 6 = .ok (.putfield 273, 3) := by decide +kernel
theorem d5_9 : decode jdk_35_method_26_code 9 = .ok (.return_, 1) := by decide +kernel
theorem d3_0 : decode jdk_35_method_24_code 0 = .ok (.sipush 128, 3) := by decide +kernel
theorem d3_3 : decode jdk_35_method_24_code 3 = .ok (.istore_n 2, 1) := by decide +kernel
theorem d3_4 : decode jdk_35_method_24_code 4 = .ok (.lload_n 0, 1) := by decide +kernel
theorem d3_5 : decode jdk_35_method_24_code 5 = .ok (.ldc2_w 230, 3) := by decide +kernel
theorem d3_8 : decode jdk_35_method_24_code 8 = .ok (.lcmp, 1) := by decide +kernel
theorem d3_9 : decode jdk_35_method_24_code 9 = .ok (.ifCond .lt 22, 3) := by decide +kernel
theorem d3_12 : decode jdk_35_method_24_code 12 = .ok (.lload_n 0, 1) := by decide +kernel
theorem d3_13 : decode jdk_35_method_24_code 13 = .ok (.ldc2_w 232, 3) := by decide +kernel
theorem d3_16 : decode jdk_35_method_24_code 16 = .ok (.lcmp, 1) := by decide +kernel
theorem d3_17 : decode jdk_35_method_24_code 17 = .ok (.ifCond .gt 14, 3) := by decide +kernel
theorem d3_20 : decode jdk_35_method_24_code 20 = .ok (.getstatic 234, 3) := by decide +kernel
theorem d3_23 : decode jdk_35_method_24_code 23 = .ok (.lload_n 0, 1) := by decide +kernel
theorem d3_24 : decode jdk_35_method_24_code 24 = .ok (.l2i, 1) := by decide +kernel
theorem d3_25 : decode jdk_35_method_24_code 25 = .ok (.sipush 128, 3) := by decide +kernel
theorem d3_28 : decode jdk_35_method_24_code 28 = .ok (.iadd, 1) := by decide +kernel
theorem d3_29 : decode jdk_35_method_24_code 29 = .ok (.aaload, 1) := by decide +kernel
theorem d3_30 : decode jdk_35_method_24_code 30 = .ok (.areturn, 1) := by decide +kernel
theorem d3_31 : decode jdk_35_method_24_code 31 = .ok (.new 1, 3) := by decide +kernel
theorem d3_34 : decode jdk_35_method_24_code 34 = .ok (.dup, 1) := by decide +kernel
theorem d3_35 : decode jdk_35_method_24_code 35 = .ok (.lload_n 0, 1) := by decide +kernel
theorem pd_1 : parseMethodDescriptor "(J)V" = some ⟨[.long], none⟩ := by decide +kernel
theorem d3_36 : decode jdk_35_method_24_code 36 = .ok (.invokespecial 240, 3) := by decide +kernel
theorem d3_39 : decode jdk_35_method_24_code 39 = .ok (.areturn, 1) := by decide +kernel
theorem d4_0 : decode prog_66_method_7_code 0 = .ok (.aload_n 1, 1) := by decide +kernel
theorem d4_1 : decode prog_66_method_7_code 1 = .ok (.instanceof 7, 3) := by decide +kernel
theorem d4_4 : decode prog_66_method_7_code 4 = .ok (.ifCond .eq 36, 3) := by decide +kernel
theorem d4_7 : decode prog_66_method_7_code 7 = .ok (.aload_n 1, 1) := by decide +kernel
theorem d4_8 : decode prog_66_method_7_code 8 = .ok (.checkcast 7, 3) := by decide +kernel
theorem d4_11 : decode prog_66_method_7_code 11 = .ok (.astore_n 2, 1) := by decide +kernel
theorem d4_12 : decode prog_66_method_7_code 12 = .ok (.aload_n 2, 1) := by decide +kernel
theorem d4_13 : decode prog_66_method_7_code 13 = .ok (.getfield 20, 3) := by decide +kernel
theorem d4_16 : decode prog_66_method_7_code 16 = .ok (.aload_n 0, 1) := by decide +kernel
theorem d4_17 : decode prog_66_method_7_code 17 = .ok (.getfield 20, 3) := by decide +kernel
theorem d4_20 : decode prog_66_method_7_code 20 = .ok (.lcmp, 1) := by decide +kernel
theorem d4_21 : decode prog_66_method_7_code 21 = .ok (.ifCond .ne 19, 3) := by decide +kernel
theorem d4_40 : decode prog_66_method_7_code 40 = .ok (.iconst 0, 1) := by decide +kernel
theorem d4_41 : decode prog_66_method_7_code 41 = .ok (.ireturn, 1) := by decide +kernel
theorem d4_24 : decode prog_66_method_7_code 24 = .ok (.aload_n 2, 1) := by decide +kernel
theorem d4_25 : decode prog_66_method_7_code 25 = .ok (.getfield 24, 3) := by decide +kernel
theorem d4_28 : decode prog_66_method_7_code 28 = .ok (.aload_n 0, 1) := by decide +kernel
theorem d4_29 : decode prog_66_method_7_code 29 = .ok (.getfield 24, 3) := by decide +kernel
theorem d4_32 : decode prog_66_method_7_code 32 = .ok (.lcmp, 1) := by decide +kernel
theorem d4_33 : decode prog_66_method_7_code 33 = .ok (.ifCond .ne 7, 3) := by decide +kernel
theorem d4_36 : decode prog_66_method_7_code 36 = .ok (.iconst 1, 1) := by decide +kernel
theorem d4_37 : decode prog_66_method_7_code 37 = .ok (.goto 4, 3) := by decide +kernel
theorem pn_3 : plainName "com/example/tidewire/tidewire/session/KeepaliveStampEqualsPinLaw" = true := by first | (simp [plainName, overriddenIn]; done) | decide +kernel
theorem pd_2 : parseMethodDescriptor "(JJ)V" = some ⟨[.long, .long], none⟩ := by decide +kernel
theorem pd_3 : parseMethodDescriptor "(J)Ljava/lang/Long;" = some ⟨[.long], some (.object "java/lang/Long")⟩ := by decide +kernel
theorem pd_4 : parseMethodDescriptor "(Ljava/lang/Object;)Z" = some ⟨[(.object "java/lang/Object")], some .boolean⟩ := by decide +kernel
def KsQ (Z : State) (a : Addr) (u v : Int64) (h0 : Heap) (n0 : Nat) : Option Value → Heap → List Loc → Prop := fun r h L => r = none ∧ Fr n0 L ∧ Keep h0 h [a] ∧ Fld Z h a "com/example/tidewire/tidewire/session/KeepaliveStamp" "seconds" "J" (.long u) ∧ Fld Z h a "com/example/tidewire/tidewire/session/KeepaliveStamp" "nanoseconds" "J" (.long v)
theorem ef_c_ini (m : MethodId) (x0 : Addr) (x1 : Int64) (x2 : Int64) : entryFrame m #[(.ref x0), (.long x1), (.long x2)] 5 = mkF m 0 #[.val (.ref x0), .val (.long x1), .second, .val (.long x2), .second] [] := by first | (simp [entryFrame, mkF, argsToLocals, Value.category]; done) | rfl
set_option maxRecDepth 65536 in
set_option maxHeartbeats 40000000 in
theorem c_ini (l : Launch) (Z : State) (a0 : Array Value) (hw : ∀ d ∈ tables_1, d.before a0 Z = true) (a : Addr) (u v : Int64) (h0 : Heap) (n0 : Nat) (Z0 : n0 ≤ h0.size) (Ex : Exa Z h0 a "com/example/tidewire/tidewire/session/KeepaliveStamp") (Fs : Fld Z h0 a "com/example/tidewire/tidewire/session/KeepaliveStamp" "seconds" "J" (.long (0 : Int64))) (Fn : Fld Z h0 a "com/example/tidewire/tidewire/session/KeepaliveStamp" "nanoseconds" "J" (.long (0 : Int64))) (ga : n0 ≤ a) (u1 : ¬ u < 0) (u2 : ¬ (4294967295 : Int64) < u) (v1 : ¬ v < 0) (v2 : ¬ (4294967295 : Int64) < v) :
    Con l Z (⟨"com/example/tidewire/tidewire/session/KeepaliveStamp", "<init>", "(JJ)V"⟩ : MethodName) prog_66_method_1_code 5 none ({ frames := 1, cells := 0, slots := 0, locals := 12 } : Room) #[(.ref a), (.long u), (.long v)] h0 (KsQ Z a u v h0 n0) := by
  refine Con.intro (plainFor_of_name pn_0) ?_
  intro p e s m below meth c s₁ hx hby hml hrt hlk hZ hown hnm X0 e0
  replace hown : s.vm.findClass "com/example/tidewire/tidewire/session/KeepaliveStamp" = some m.cls := hown
  have N0 := Fr.nil n0
  refine GoOn.cast (ef_c_ini m a u v) ?_
  show GoOn p e below _ (s₁.setTop (mkF m 0 #[.val (.ref a), .val (.long u), .second, .val (.long v), .second] []))
  have K0 : Keep h0 h0 [a] := Keep.refl _ _
  refine GoOn.step (fun t₀ k₀ => XS.aloadN X0.here hx rfl (hb hby d1_0) rfl rfl k₀) ?_
  show GoOn p e below _ (s₁.setTop (mkF m 1 #[.val (.ref a), .val (.long u), .second, .val (.long v), .second] [(.ref a)]))
  obtain ⟨T1, X1, e1, st1⟩ := initO X0 hx hZ hown (hw _ (List.mem_of_getElem? (i := 7) rfl)) (hw _ (List.mem_of_getElem? (i := 8) rfl)) (hw _ (List.mem_of_getElem? (i := 9) rfl)) e0 (g := (mkF m 1 #[.val (.ref a), .val (.long u), .second, .val (.long v), .second] [(.ref a)])) rfl (by rw [hml]; rfl) rfl (hb hby d1_1) (by decide) (W := 0) (by show 2 * 0 + _ ≤ _; exact Nat.le_of_eq rfl) (by decide)
  refine GoOn.step st1 ?_
  show GoOn p e below _ (T1.setTop (mkF m 4 #[.val (.ref a), .val (.long u), .second, .val (.long v), .second] []))
  refine GoOn.step (fun t₀ k₀ => XS.lloadN X1.here hx rfl (hb hby d1_4) rfl k₀) ?_
  show GoOn p e below _ (T1.setTop (mkF m 5 #[.val (.ref a), .val (.long u), .second, .val (.long v), .second] [(.long u)]))
  refine GoOn.step (fun t₀ k₀ => XS.lconst X1.here hx rfl (hb hby d1_5) k₀) ?_
  show GoOn p e below _ (T1.setTop (mkF m 6 #[.val (.ref a), .val (.long u), .second, .val (.long v), .second] [(.long (0 : Int64)), (.long u)]))
  refine GoOn.step (fun t₀ k₀ => XS.lcmp X1.here hx rfl (hb hby d1_6) rfl k₀) ?_
  show GoOn p e below _ (T1.setTop (mkF m 7 #[.val (.ref a), .val (.long u), .second, .val (.long v), .second] [(.int (lcmpW u (0 : Int64)))]))
  have hf2 : ¬ (u < (0 : Int64)) := u1
  refine GoOn.step (fun t₀ k₀ => XS.ifNo X1.here hx rfl (hb hby d1_7) rfl ((if0 _ _).trans (flt (mt (lw_lt _ _).mp hf2)).1) k₀) ?_
  show GoOn p e below _ (T1.setTop (mkF m 10 #[.val (.ref a), .val (.long u), .second, .val (.long v), .second] []))
  refine GoOn.step (fun t₀ k₀ => XS.lloadN X1.here hx rfl (hb hby d1_10) rfl k₀) ?_
  show GoOn p e below _ (T1.setTop (mkF m 11 #[.val (.ref a), .val (.long u), .second, .val (.long v), .second] [(.long u)]))
  refine GoOn.step (fun t₀ k₀ => X1.ldc2Long hx hown (mvT hZ (hw _ (List.mem_of_getElem? (i := 10) rfl))) (g := (mkF m 11 #[.val (.ref a), .val (.long u), .second, .val (.long v), .second] [(.long u)])) rfl (hb hby d1_11) t₀ k₀) ?_
  show GoOn p e below _ (T1.setTop (mkF m 14 #[.val (.ref a), .val (.long u), .second, .val (.long v), .second] [(.long (4294967295 : Int64)), (.long u)]))
  refine GoOn.step (fun t₀ k₀ => XS.lcmp X1.here hx rfl (hb hby d1_14) rfl k₀) ?_
  show GoOn p e below _ (T1.setTop (mkF m 15 #[.val (.ref a), .val (.long u), .second, .val (.long v), .second] [(.int (lcmpW u (4294967295 : Int64)))]))
  have hf3 : ¬ ((4294967295 : Int64) < u) := u2
  refine GoOn.step (fun t₀ k₀ => XS.ifNo X1.here hx rfl (hb hby d1_15) rfl ((if0 _ _).trans (flt (mt (lw_gt _ _).mp hf3)).2.2.1) k₀) ?_
  show GoOn p e below _ (T1.setTop (mkF m 18 #[.val (.ref a), .val (.long u), .second, .val (.long v), .second] []))
  refine GoOn.step (fun t₀ k₀ => XS.lloadN X1.here hx rfl (hb hby d1_18) rfl k₀) ?_
  show GoOn p e below _ (T1.setTop (mkF m 19 #[.val (.ref a), .val (.long u), .second, .val (.long v), .second] [(.long v)]))
  refine GoOn.step (fun t₀ k₀ => XS.lconst X1.here hx rfl (hb hby d1_19) k₀) ?_
  show GoOn p e below _ (T1.setTop (mkF m 20 #[.val (.ref a), .val (.long u), .second, .val (.long v), .second] [(.long (0 : Int64)), (.long v)]))
  refine GoOn.step (fun t₀ k₀ => XS.lcmp X1.here hx rfl (hb hby d1_20) rfl k₀) ?_
  show GoOn p e below _ (T1.setTop (mkF m 21 #[.val (.ref a), .val (.long u), .second, .val (.long v), .second] [(.int (lcmpW v (0 : Int64)))]))
  have hf4 : ¬ (v < (0 : Int64)) := v1
  refine GoOn.step (fun t₀ k₀ => XS.ifNo X1.here hx rfl (hb hby d1_21) rfl ((if0 _ _).trans (flt (mt (lw_lt _ _).mp hf4)).1) k₀) ?_
  show GoOn p e below _ (T1.setTop (mkF m 24 #[.val (.ref a), .val (.long u), .second, .val (.long v), .second] []))
  refine GoOn.step (fun t₀ k₀ => XS.lloadN X1.here hx rfl (hb hby d1_24) rfl k₀) ?_
  show GoOn p e below _ (T1.setTop (mkF m 25 #[.val (.ref a), .val (.long u), .second, .val (.long v), .second] [(.long v)]))
  refine GoOn.step (fun t₀ k₀ => X1.ldc2Long hx hown (mvT hZ (hw _ (List.mem_of_getElem? (i := 10) rfl))) (g := (mkF m 25 #[.val (.ref a), .val (.long u), .second, .val (.long v), .second] [(.long v)])) rfl (hb hby d1_25) t₀ k₀) ?_
  show GoOn p e below _ (T1.setTop (mkF m 28 #[.val (.ref a), .val (.long u), .second, .val (.long v), .second] [(.long (4294967295 : Int64)), (.long v)]))
  refine GoOn.step (fun t₀ k₀ => XS.lcmp X1.here hx rfl (hb hby d1_28) rfl k₀) ?_
  show GoOn p e below _ (T1.setTop (mkF m 29 #[.val (.ref a), .val (.long u), .second, .val (.long v), .second] [(.int (lcmpW v (4294967295 : Int64)))]))
  have hf5 : ¬ ((4294967295 : Int64) < v) := v2
  refine GoOn.step (fun t₀ k₀ => XS.ifYes X1.here hx rfl (pc0 := 29) (pc' := 47) rfl (hb hby d1_29) rfl ((if0 _ _).trans (flt (mt (lw_gt _ _).mp hf5)).2.2.2) (by decide) (by decide) k₀) ?_
  show GoOn p e below _ (T1.setTop (mkF m 47 #[.val (.ref a), .val (.long u), .second, .val (.long v), .second] []))
  refine GoOn.step (fun t₀ k₀ => XS.aloadN X1.here hx rfl (hb hby d1_47) rfl rfl k₀) ?_
  show GoOn p e below _ (T1.setTop (mkF m 48 #[.val (.ref a), .val (.long u), .second, .val (.long v), .second] [(.ref a)]))
  refine GoOn.step (fun t₀ k₀ => XS.lloadN X1.here hx rfl (hb hby d1_48) rfl k₀) ?_
  show GoOn p e below _ (T1.setTop (mkF m 49 #[.val (.ref a), .val (.long u), .second, .val (.long v), .second] [(.long u), (.ref a)]))
  obtain ⟨T6, h6, X6, e6, W6, st6⟩ := putF X1 hx hZ hown (host := "") (Or.inl (hw _ (List.mem_of_getElem? (i := 11) rfl))) Via.refl e1 Fs Ex (Or.inr ⟨(hw _ (List.mem_of_getElem? (i := 12) rfl)), rfl, hnm⟩) (hw _ (List.mem_of_getElem? (i := 2) rfl)) (ty := .long) (by decide) rfl rfl (g := (mkF m 49 #[.val (.ref a), .val (.long u), .second, .val (.long v), .second] [(.long u), (.ref a)])) rfl rfl (hb hby d1_49)
  replace N0 := Fr.snoc X6 N0 ga
  replace Ex := Ex.wr W6
  replace Fs := Fld.same W6 Fs
  replace Fn := Fn.other W6 (Or.inr (slot_ne (Or.inr (hw _ (List.mem_of_getElem? (i := 14) rfl))) (Or.inr (hw _ (List.mem_of_getElem? (i := 12) rfl))) (by decide) (t := .long) (t' := .long) (by decide) (by decide)))
  replace Z0 := Nat.le_trans Z0 (Nat.le_of_eq W6.size.symm)
  replace K0 := K0.wr W6 (Or.inl (by simp))
  refine GoOn.step st6 ?_
  show GoOn p e below _ (T6.setTop (mkF m 52 #[.val (.ref a), .val (.long u), .second, .val (.long v), .second] []))
  refine GoOn.step (fun t₀ k₀ => XS.aloadN X6.here hx rfl (hb hby d1_52) rfl rfl k₀) ?_
  show GoOn p e below _ (T6.setTop (mkF m 53 #[.val (.ref a), .val (.long u), .second, .val (.long v), .second] [(.ref a)]))
  refine GoOn.step (fun t₀ k₀ => XS.lloadN X6.here hx rfl (hb hby d1_53) rfl k₀) ?_
  show GoOn p e below _ (T6.setTop (mkF m 54 #[.val (.ref a), .val (.long u), .second, .val (.long v), .second] [(.long v), (.ref a)]))
  obtain ⟨T7, h7, X7, e7, W7, st7⟩ := putF X6 hx hZ hown (host := "") (Or.inl (hw _ (List.mem_of_getElem? (i := 13) rfl))) Via.refl e6 Fn Ex (Or.inr ⟨(hw _ (List.mem_of_getElem? (i := 14) rfl)), rfl, hnm⟩) (hw _ (List.mem_of_getElem? (i := 2) rfl)) (ty := .long) (by decide) rfl rfl (g := (mkF m 54 #[.val (.ref a), .val (.long u), .second, .val (.long v), .second] [(.long v), (.ref a)])) rfl rfl (hb hby d1_54)
  replace N0 := Fr.snoc X7 N0 ga
  replace Ex := Ex.wr W7
  replace Fs := Fs.other W7 (Or.inr (slot_ne (Or.inr (hw _ (List.mem_of_getElem? (i := 12) rfl))) (Or.inr (hw _ (List.mem_of_getElem? (i := 14) rfl))) (by decide) (t := .long) (t' := .long) (by decide) (by decide)))
  replace Fn := Fld.same W7 Fn
  replace Z0 := Nat.le_trans Z0 (Nat.le_of_eq W7.size.symm)
  replace K0 := K0.wr W7 (Or.inl (by simp))
  refine GoOn.step st7 ?_
  show GoOn p e below _ (T7.setTop (mkF m 57 #[.val (.ref a), .val (.long u), .second, .val (.long v), .second] []))
  exact GoOn.ret0 X7 hx hrt hlk (hb hby d1_57) (by decide) (by decide) (by first | exact ⟨rfl, N0, K0, Fs, Fn⟩ | (rw [e7]; exact ⟨rfl, N0, K0, Fs, Fn⟩))
theorem ef_c_num (m : MethodId) (x0 : Addr) : entryFrame m #[(.ref x0)] 1 = mkF m 0 #[.val (.ref x0)] [] := by first | (simp [entryFrame, mkF, argsToLocals, Value.category]; done) | rfl
set_option maxRecDepth 65536 in
set_option maxHeartbeats 40000000 in
theorem c_num (l : Launch) (Z : State) (a0 : Array Value) (hw : ∀ d ∈ tables_1, d.before a0 Z = true) (a : Addr) (h0 : Heap)  :
    Con l Z (⟨"java/lang/Number", "<init>", "()V"⟩ : MethodName) jdk_18_method_1_code 1 none ({ frames := 1, cells := 0, slots := 0, locals := 12 } : Room) #[(.ref a)] h0 (PQ none h0) := by
  refine Con.intro (plainFor_of_name pn_1) ?_
  intro p e s m below meth c s₁ hx hby hml hrt hlk hZ hown hnm X0 e0
  replace hown : s.vm.findClass "java/lang/Number" = some m.cls := hown
  refine GoOn.cast (ef_c_num m a) ?_
  show GoOn p e below _ (s₁.setTop (mkF m 0 #[.val (.ref a)] []))
  refine GoOn.step (fun t₀ k₀ => XS.aloadN X0.here hx rfl (hb hby d6_0) rfl rfl k₀) ?_
  show GoOn p e below _ (s₁.setTop (mkF m 1 #[.val (.ref a)] [(.ref a)]))
  obtain ⟨T8, X8, e8, st8⟩ := initO X0 hx hZ hown (hw _ (List.mem_of_getElem? (i := 45) rfl)) (hw _ (List.mem_of_getElem? (i := 8) rfl)) (hw _ (List.mem_of_getElem? (i := 9) rfl)) e0 (g := (mkF m 1 #[.val (.ref a)] [(.ref a)])) rfl (by rw [hml]; rfl) rfl (hb hby d6_1) (by decide) (W := 0) (by show 2 * 0 + _ ≤ _; exact Nat.le_of_eq rfl) (by decide)
  refine GoOn.step st8 ?_
  show GoOn p e below _ (T8.setTop (mkF m 4 #[.val (.ref a)] []))
  exact GoOn.ret0 X8 hx hrt hlk (hb hby d6_4) (by decide) (by decide) (by first | exact ⟨rfl, rfl, rfl⟩ | (rw [e8]; exact ⟨rfl, rfl, rfl⟩))
def LgQ (a : Addr) (h0 : Heap) (n0 : Nat) : Option Value → Heap → List Loc → Prop := fun r h L => r = none ∧ Fr n0 L ∧ Keep h0 h [a]
theorem ef_c_lini (m : MethodId) (x0 : Addr) (x1 : Int64) : entryFrame m #[(.ref x0), (.long x1)] 3 = mkF m 0 #[.val (.ref x0), .val (.long x1), .second] [] := by first | (simp [entryFrame, mkF, argsToLocals, Value.category]; done) | rfl
set_option maxRecDepth 65536 in
set_option maxHeartbeats 40000000 in
theorem c_lini (l : Launch) (Z : State) (a0 : Array Value) (hw : ∀ d ∈ tables_1, d.before a0 Z = true) (a : Addr) (u : Int64) (h0 : Heap) (n0 : Nat) (Z0 : n0 ≤ h0.size) (Ex : Exa Z h0 a "java/lang/Long") (Fv : Fld Z h0 a "java/lang/Long" "value" "J" (.long (0 : Int64))) (ga : n0 ≤ a) :
    Con l Z (⟨"java/lang/Long", "<init>", "(J)V"⟩ : MethodName) jdk_35_method_26_code 3 none ({ frames := 2, cells := 0, slots := 0, locals := 24 } : Room) #[(.ref a), (.long u)] h0 (LgQ a h0 n0) := by
  refine Con.intro (plainFor_of_name pn_2) ?_
  intro p e s m below meth c s₁ hx hby hml hrt hlk hZ hown hnm X0 e0
  replace hown : s.vm.findClass "java/lang/Long" = some m.cls := hown
  have N0 := Fr.nil n0
  refine GoOn.cast (ef_c_lini m a u) ?_
  show GoOn p e below _ (s₁.setTop (mkF m 0 #[.val (.ref a), .val (.long u), .second] []))
  have K0 : Keep h0 h0 [a] := Keep.refl _ _
  refine GoOn.step (fun t₀ k₀ => XS.aloadN X0.here hx rfl (hb hby d5_0) rfl rfl k₀) ?_
  show GoOn p e below _ (s₁.setTop (mkF m 1 #[.val (.ref a), .val (.long u), .second] [(.ref a)]))
  obtain ⟨_, T9, L9, X9, hQ9, st9⟩ := kCallI X0 hx hZ (a := a) (argsL := []) (rest := []) (c_num l Z a0 hw a h0) rfl hown (hw _ (List.mem_of_getElem? (i := 39) rfl)) (hw _ (List.mem_of_getElem? (i := 40) rfl)) (hw _ (List.mem_of_getElem? (i := 43) rfl)) (hw _ (List.mem_of_getElem? (i := 44) rfl)) (by decide) e0 (g := (mkF m 1 #[.val (.ref a), .val (.long u), .second] [(.ref a)])) rfl (by rw [hml]; rfl) (lenOf pd_0 rfl) rfl (W := 0) (by show 2 * 0 + _ ≤ _; exact Nat.le_of_eq rfl) (hb hby d5_1) (by decide) (by decide) (by decide) (by decide)
  obtain ⟨rfl, rfl, e9⟩ := hQ9
  rw [List.append_nil] at X9
  refine GoOn.step st9 ?_
  show GoOn p e below _ (T9.setTop (mkF m 4 #[.val (.ref a), .val (.long u), .second] []))
  refine GoOn.step (fun t₀ k₀ => XS.aloadN X9.here hx rfl (hb hby d5_4) rfl rfl k₀) ?_
  show GoOn p e below _ (T9.setTop (mkF m 5 #[.val (.ref a), .val (.long u), .second] [(.ref a)]))
  refine GoOn.step (fun t₀ k₀ => XS.lloadN X9.here hx rfl (hb hby d5_5) rfl k₀) ?_
  show GoOn p e below _ (T9.setTop (mkF m 6 #[.val (.ref a), .val (.long u), .second] [(.long u), (.ref a)]))
  obtain ⟨T10, h10, X10, e10, W10, st10⟩ := putF X9 hx hZ hown (host := "") (Or.inl (hw _ (List.mem_of_getElem? (i := 46) rfl))) Via.refl e9 Fv Ex (Or.inr ⟨(hw _ (List.mem_of_getElem? (i := 47) rfl)), rfl, hnm⟩) (hw _ (List.mem_of_getElem? (i := 34) rfl)) (ty := .long) (by decide) rfl rfl (g := (mkF m 6 #[.val (.ref a), .val (.long u), .second] [(.long u), (.ref a)])) rfl rfl (hb hby d5_6)
  replace N0 := Fr.snoc X10 N0 ga
  replace Ex := Ex.wr W10
  replace Fv := Fld.same W10 Fv
  replace Z0 := Nat.le_trans Z0 (Nat.le_of_eq W10.size.symm)
  replace K0 := K0.wr W10 (Or.inl (by simp))
  refine GoOn.step st10 ?_
  show GoOn p e below _ (T10.setTop (mkF m 9 #[.val (.ref a), .val (.long u), .second] []))
  exact GoOn.ret0 X10 hx hrt hlk (hb hby d5_9) (by decide) (by decide) (by first | exact ⟨rfl, N0, K0⟩ | (rw [e10]; exact ⟨rfl, N0, K0⟩))
/-- the cache as the run's past left it -/
def CaL (Z : State) : Prop := ∃ (ca : Addr) (bs : Nat → Addr), Sta Z Z.heap "java/lang/Long$LongCache" "cache" "[Ljava/lang/Long;" (.ref ca) ∧ Jar Z Z.heap ca (.object "java/lang/Long") 256 (fun i => .ref (bs i)) ∧ ∀ i, i < 256 → Exa Z Z.heap (bs i) "java/lang/Long"
def VoQ (Z : State) (h0 : Heap) (n0 : Nat) : Option Value → Heap → List Loc → Prop := fun r h L => ∃ b, r = some (.ref b) ∧ Fr n0 L ∧ Keep h0 h [] ∧ Exa Z h b "java/lang/Long"
theorem keep_ext {h0 h : Heap} (K : Keep h0 h []) : Ext h0 h := ⟨K.1, fun x c q => K.2.1 x c q nin0⟩
theorem keep_cut {h0 h : Heap} {b : Addr} (K : Keep h0 h [b]) (q : h0.size ≤ b) : Keep h0 h [] := (Keep.refl h0 []).trans K (fun x hx => by cases List.mem_singleton.mp hx; exact Or.inr q)
theorem ef_c_vo (m : MethodId) (x0 : Int64) : entryFrame m #[(.long x0)] 3 = mkF m 0 #[.val (.long x0), .second, .unset] [] := by first | (simp [entryFrame, mkF, argsToLocals, Value.category]; done) | rfl
set_option maxRecDepth 65536 in
set_option maxHeartbeats 40000000 in
theorem c_vo (l : Launch) (Z : State) (a0 : Array Value) (hw : ∀ d ∈ tables_1, d.before a0 Z = true) (u : Int64) (h0 : Heap) (n0 : Nat) (Z0 : n0 ≤ h0.size) (O : Old Z n0 h0) (CL : CaL Z) (hu : 0 ≤ u.toInt) :
    Con l Z (⟨"java/lang/Long", "valueOf", "(J)Ljava/lang/Long;"⟩ : MethodName) jdk_35_method_24_code 3 (some (.object "java/lang/Long")) ({ frames := 3, cells := 1, slots := 1, locals := 48 } : Room) #[(.long u)] h0 (VoQ Z h0 n0) := by
  refine Con.intro (plainFor_of_name pn_2) ?_
  intro p e s m below meth c s₁ hx hby hml hrt hlk hZ hown hnm X0 e0
  replace hown : s.vm.findClass "java/lang/Long" = some m.cls := hown
  have N0 := Fr.nil n0
  refine GoOn.cast (ef_c_vo m u) ?_
  show GoOn p e below _ (s₁.setTop (mkF m 0 #[.val (.long u), .second, .unset] []))
  obtain ⟨ca, bs, St, Jc, Ec⟩ := CL
  replace St := St.ext O.2
  replace Jc := Jc.ext O.2
  refine GoOn.step (fun t₀ k₀ => XS.sipush X0.here hx rfl (hb hby d3_0) k₀) ?_
  show GoOn p e below _ (s₁.setTop (mkF m 3 #[.val (.long u), .second, .unset] [(.int (128 : Int32))]))
  refine GoOn.step (fun t₀ k₀ => XS.istoreN X0.here hx rfl (hb hby d3_3) rfl (l' := #[.val (.long u), .second, .val (.int (128 : Int32))]) rfl k₀) ?_
  show GoOn p e below _ (s₁.setTop (mkF m 4 #[.val (.long u), .second, .val (.int (128 : Int32))] []))
  refine GoOn.step (fun t₀ k₀ => XS.lloadN X0.here hx rfl (hb hby d3_4) rfl k₀) ?_
  show GoOn p e below _ (s₁.setTop (mkF m 5 #[.val (.long u), .second, .val (.int (128 : Int32))] [(.long u)]))
  refine GoOn.step (fun t₀ k₀ => X0.ldc2Long hx hown (mvT hZ (hw _ (List.mem_of_getElem? (i := 19) rfl))) (g := (mkF m 5 #[.val (.long u), .second, .val (.int (128 : Int32))] [(.long u)])) rfl (hb hby d3_5) t₀ k₀) ?_
  show GoOn p e below _ (s₁.setTop (mkF m 8 #[.val (.long u), .second, .val (.int (128 : Int32))] [(.long (-128 : Int64)), (.long u)]))
  refine GoOn.step (fun t₀ k₀ => XS.lcmp X0.here hx rfl (hb hby d3_8) rfl k₀) ?_
  show GoOn p e below _ (s₁.setTop (mkF m 9 #[.val (.long u), .second, .val (.int (128 : Int32))] [(.int (lcmpW u (-128 : Int64)))]))
  have hf11 : ¬ (u < (-128 : Int64)) := (by rw [Int64.lt_iff_toInt_lt, show (-128 : Int64).toInt = -128 from by decide]; omega)
  refine GoOn.step (fun t₀ k₀ => XS.ifNo X0.here hx rfl (hb hby d3_9) rfl ((if0 _ _).trans (flt (mt (lw_lt _ _).mp hf11)).1) k₀) ?_
  show GoOn p e below _ (s₁.setTop (mkF m 12 #[.val (.long u), .second, .val (.int (128 : Int32))] []))
  refine GoOn.step (fun t₀ k₀ => XS.lloadN X0.here hx rfl (hb hby d3_12) rfl k₀) ?_
  show GoOn p e below _ (s₁.setTop (mkF m 13 #[.val (.long u), .second, .val (.int (128 : Int32))] [(.long u)]))
  refine GoOn.step (fun t₀ k₀ => X0.ldc2Long hx hown (mvT hZ (hw _ (List.mem_of_getElem? (i := 20) rfl))) (g := (mkF m 13 #[.val (.long u), .second, .val (.int (128 : Int32))] [(.long u)])) rfl (hb hby d3_13) t₀ k₀) ?_
  show GoOn p e below _ (s₁.setTop (mkF m 16 #[.val (.long u), .second, .val (.int (128 : Int32))] [(.long (127 : Int64)), (.long u)]))
  refine GoOn.step (fun t₀ k₀ => XS.lcmp X0.here hx rfl (hb hby d3_16) rfl k₀) ?_
  show GoOn p e below _ (s₁.setTop (mkF m 17 #[.val (.long u), .second, .val (.int (128 : Int32))] [(.int (lcmpW u (127 : Int64)))]))
  by_cases hc : (127 : Int64) < u
  · refine GoOn.step (fun t₀ k₀ => XS.ifYes X0.here hx rfl (pc0 := 17) (pc' := 31) rfl (hb hby d3_17) rfl ((if0 _ _).trans (tlt ((lw_gt _ _).mpr hc)).2.2.1) (by decide) (by decide) k₀) ?_
    show GoOn p e below _ (s₁.setTop (mkF m 31 #[.val (.long u), .second, .val (.int (128 : Int32))] []))
    have K0 : Keep h0 h0 [] := Keep.refl _ _
    obtain ⟨T13, h13, X13, e13, E13, A13, D13, -, st13⟩ := newO X0 hx hZ hown (hw _ (List.mem_of_getElem? (i := 33) rfl)) (hw _ (List.mem_of_getElem? (i := 34) rfl)) (hw _ (List.mem_of_getElem? (i := 17) rfl)) e0 (g := (mkF m 31 #[.val (.long u), .second, .val (.int (128 : Int32))] [])) rfl (hb hby d3_31) (by decide) (by decide)
    obtain ⟨b, g13⟩ : ∃ z, z = h0.size := ⟨_, rfl⟩
    rw [← g13] at A13 D13 st13
    have lt_ca_b : ca < b := by rw [g13]; exact Jc.lt
    have ne_ca_b : ca ≠ b := Nat.ne_of_lt lt_ca_b
    have le_b : n0 ≤ b := by rw [g13]; exact Z0
    have sz_b : h0.size ≤ b := by rw [g13]; exact K0.1
    replace St := St.ext E13
    replace Jc := Jc.ext E13
    replace O := O.ext E13
    replace Z0 := Nat.le_trans Z0 E13.1
    replace K0 := K0.ext E13
    have Ex_b : Exa Z h13 b "java/lang/Long" := A13
    have F_value_b : Fld Z h13 b "java/lang/Long" "value" "J" (.long (0 : Int64)) := D13 (Or.inr (hw _ (List.mem_of_getElem? (i := 47) rfl))) (ty := .long) (by decide)
    refine GoOn.step st13 ?_
    show GoOn p e below _ (T13.setTop (mkF m 34 #[.val (.long u), .second, .val (.int (128 : Int32))] [(.ref b)]))
    refine GoOn.step (fun t₀ k₀ => XS.dup X13.here hx rfl (hb hby d3_34) rfl rfl k₀) ?_
    show GoOn p e below _ (T13.setTop (mkF m 35 #[.val (.long u), .second, .val (.int (128 : Int32))] [(.ref b), (.ref b)]))
    refine GoOn.step (fun t₀ k₀ => XS.lloadN X13.here hx rfl (hb hby d3_35) rfl k₀) ?_
    show GoOn p e below _ (T13.setTop (mkF m 36 #[.val (.long u), .second, .val (.int (128 : Int32))] [(.long u), (.ref b), (.ref b)]))
    obtain ⟨_, T14, L14, X14, hQ14, st14⟩ := kCallI X13 hx hZ (a := b) (argsL := [(.long u)]) (rest := [(.ref b)]) (c_lini l Z a0 hw b u h13 n0 Z0 Ex_b F_value_b le_b) rfl hown (hw _ (List.mem_of_getElem? (i := 35) rfl)) (hw _ (List.mem_of_getElem? (i := 36) rfl)) (hw _ (List.mem_of_getElem? (i := 17) rfl)) (hw _ (List.mem_of_getElem? (i := 38) rfl)) (by decide) e13 (g := (mkF m 36 #[.val (.long u), .second, .val (.int (128 : Int32))] [(.long u), (.ref b), (.ref b)])) rfl (by rw [hml]; rfl) (lenOf pd_1 rfl) rfl (W := 1) (by show 2 * 0 + _ ≤ _; exact Nat.le_of_eq rfl) (hb hby d3_36) (by decide) (by decide) (by decide) (by decide)
    obtain ⟨rfl, N14, K14⟩ := hQ14
    replace N0 := Fr.app N0 N14
    replace K0 := K0.trans K14 (allS (Or.inr sz_b) all0)
    clear St
    replace Jc := Jc.keep K14 (ninS ne_ca_b nin0)
    replace Ex_b := Ex_b.keep K14
    clear F_value_b
    replace O := O.keep K14 (allS le_b all0)
    replace Z0 := Nat.le_trans Z0 K14.1
    refine GoOn.step st14 ?_
    show GoOn p e below _ (T14.setTop (mkF m 39 #[.val (.long u), .second, .val (.int (128 : Int32))] [(.ref b)]))
    exact GoOn.retR X14 hx hrt rfl hlk rfl (hb hby d3_39) (by decide) (by decide) ⟨b, rfl, N0, K0, Ex_b⟩
  · refine GoOn.step (fun t₀ k₀ => XS.ifNo X0.here hx rfl (hb hby d3_17) rfl ((if0 _ _).trans (flt (mt (lw_gt _ _).mp hc)).2.2.1) k₀) ?_
    show GoOn p e below _ (s₁.setTop (mkF m 20 #[.val (.long u), .second, .val (.int (128 : Int32))] []))
    obtain ⟨T12, X12, e12, st12⟩ := getS2 X0 hx hZ hown (host := "") (Or.inl (hw _ (List.mem_of_getElem? (i := 21) rfl))) Via.refl e0 St (g := (mkF m 20 #[.val (.long u), .second, .val (.int (128 : Int32))] [])) rfl (hb hby d3_20)
    refine GoOn.step st12 ?_
    show GoOn p e below _ (T12.setTop (mkF m 23 #[.val (.long u), .second, .val (.int (128 : Int32))] [(.ref ca)]))
    refine GoOn.step (fun t₀ k₀ => XS.lloadN X12.here hx rfl (hb hby d3_23) rfl k₀) ?_
    show GoOn p e below _ (T12.setTop (mkF m 24 #[.val (.long u), .second, .val (.int (128 : Int32))] [(.long u), (.ref ca)]))
    refine GoOn.step (fun t₀ k₀ => XS.l2i X12.here hx rfl (hb hby d3_24) rfl k₀) ?_
    show GoOn p e below _ (T12.setTop (mkF m 25 #[.val (.long u), .second, .val (.int (128 : Int32))] [(.int (u.toInt32)), (.ref ca)]))
    refine GoOn.step (fun t₀ k₀ => XS.sipush X12.here hx rfl (hb hby d3_25) k₀) ?_
    show GoOn p e below _ (T12.setTop (mkF m 28 #[.val (.long u), .second, .val (.int (128 : Int32))] [(.int (128 : Int32)), (.int (u.toInt32)), (.ref ca)]))
    refine GoOn.step (fun t₀ k₀ => XS.iadd X12.here hx rfl (hb hby d3_28) rfl k₀) ?_
    show GoOn p e below _ (T12.setTop (mkF m 29 #[.val (.long u), .second, .val (.int (128 : Int32))] [(.int ((u.toInt32) + (128 : Int32))), (.ref ca)]))
    have i0 : u.toInt ≤ 127 := by rw [Int64.lt_iff_toInt_lt, show (127 : Int64).toInt = 127 from by decide] at hc; omega
    have i1 := c_l2i u
    have i2 := rng32 u.toInt32
    have i3 := c_iadd u.toInt32 128
    have i4 := rng32 (u.toInt32 + 128)
    have i5 : (128 : Int32).toInt = 128 := by decide
    have i6 : 0 ≤ (u.toInt32 + (128 : Int32)).toInt ∧ (u.toInt32 + (128 : Int32)).toInt < (256 : Nat) := by omega
    refine GoOn.step (fun t₀ k₀ => kLdA X12 hx hZ e12 Jc rfl (j := ((u.toInt32) + (128 : Int32))) (v := (.ref (bs (u.toInt32 + (128 : Int32)).toNatClampNeg))) i6 rfl (g := (mkF m 29 #[.val (.long u), .second, .val (.int (128 : Int32))] [(.int ((u.toInt32) + (128 : Int32))), (.ref ca)])) rfl rfl (hb hby d3_29) t₀ k₀) ?_
    show GoOn p e below _ (T12.setTop (mkF m 30 #[.val (.long u), .second, .val (.int (128 : Int32))] [(.ref (bs (u.toInt32 + (128 : Int32)).toNatClampNeg))]))
    exact GoOn.retR X12 hx hrt rfl hlk rfl (hb hby d3_30) (by decide) (by decide) (by first | exact ⟨_, rfl, N0, Keep.refl _ _, (Ec _ (natJ i6)).ext O.2⟩ | (rw [e12]; exact ⟨_, rfl, N0, Keep.refl _ _, (Ec _ (natJ i6)).ext O.2⟩))
theorem ef_c_eqs (m : MethodId) (x0 : Addr) (x1 : Addr) : entryFrame m #[(.ref x0), (.ref x1)] 3 = mkF m 0 #[.val (.ref x0), .val (.ref x1), .unset] [] := by first | (simp [entryFrame, mkF, argsToLocals, Value.category]; done) | rfl
set_option maxRecDepth 65536 in
set_option maxHeartbeats 40000000 in
theorem c_eqs (l : Launch) (Z : State) (a0 : Array Value) (hw : ∀ d ∈ tables_1, d.before a0 Z = true) (a b : Addr) (u v x y : Int64) (h0 : Heap) (Ea : Exa Z h0 a "com/example/tidewire/tidewire/session/KeepaliveStamp") (Fs : Fld Z h0 a "com/example/tidewire/tidewire/session/KeepaliveStamp" "seconds" "J" (.long u)) (Fn : Fld Z h0 a "com/example/tidewire/tidewire/session/KeepaliveStamp" "nanoseconds" "J" (.long v)) (Eb : Exa Z h0 b "com/example/tidewire/tidewire/session/KeepaliveStamp") (Gs : Fld Z h0 b "com/example/tidewire/tidewire/session/KeepaliveStamp" "seconds" "J" (.long x)) (Gn : Fld Z h0 b "com/example/tidewire/tidewire/session/KeepaliveStamp" "nanoseconds" "J" (.long y)) :
    Con l Z (⟨"com/example/tidewire/tidewire/session/KeepaliveStamp", "equals", "(Ljava/lang/Object;)Z"⟩ : MethodName) prog_66_method_7_code 3 (some .boolean) ({ frames := 0, cells := 0, slots := 0, locals := 0 } : Room) #[(.ref a), (.ref b)] h0 (PQ (some (.int (if x = u then (if y = v then (1 : Int32) else 0) else 0))) h0) := by
  refine Con.intro (plainFor_of_name pn_0) ?_
  intro p e s m below meth c s₁ hx hby hml hrt hlk hZ hown hnm X0 e0
  replace hown : s.vm.findClass "com/example/tidewire/tidewire/session/KeepaliveStamp" = some m.cls := hown
  refine GoOn.cast (ef_c_eqs m a b) ?_
  show GoOn p e below _ (s₁.setTop (mkF m 0 #[.val (.ref a), .val (.ref b), .unset] []))
  refine GoOn.step (fun t₀ k₀ => XS.aloadN X0.here hx rfl (hb hby d4_0) rfl rfl k₀) ?_
  show GoOn p e below _ (s₁.setTop (mkF m 1 #[.val (.ref a), .val (.ref b), .unset] [(.ref b)]))
  obtain ⟨T15, X15, e15, st15⟩ := instY X0 hx hZ hown (hw _ (List.mem_of_getElem? (i := 28) rfl)) e0 (Ins.self Eb) (g := (mkF m 1 #[.val (.ref a), .val (.ref b), .unset] [(.ref b)])) rfl rfl (hb hby d4_1)
  refine GoOn.step st15 ?_
  show GoOn p e below _ (T15.setTop (mkF m 4 #[.val (.ref a), .val (.ref b), .unset] [(.int (1 : Int32))]))
  have hf16 : ¬ ((1 : Int32) = (0 : Int32)) := (by decide)
  refine GoOn.step (fun t₀ k₀ => XS.ifNo X15.here hx rfl (hb hby d4_4) rfl ((if0 _ _).trans (feq hf16).1) k₀) ?_
  show GoOn p e below _ (T15.setTop (mkF m 7 #[.val (.ref a), .val (.ref b), .unset] []))
  refine GoOn.step (fun t₀ k₀ => XS.aloadN X15.here hx rfl (hb hby d4_7) rfl rfl k₀) ?_
  show GoOn p e below _ (T15.setTop (mkF m 8 #[.val (.ref a), .val (.ref b), .unset] [(.ref b)]))
  obtain ⟨T17, X17, e17, st17⟩ := castY X15 hx hZ hown (hw _ (List.mem_of_getElem? (i := 28) rfl)) e15 (Ins.self Eb) (g := (mkF m 8 #[.val (.ref a), .val (.ref b), .unset] [(.ref b)])) rfl rfl (hb hby d4_8)
  refine GoOn.step st17 ?_
  show GoOn p e below _ (T17.setTop (mkF m 11 #[.val (.ref a), .val (.ref b), .unset] [(.ref b)]))
  refine GoOn.step (fun t₀ k₀ => XS.astoreN X17.here hx rfl (hb hby d4_11) rfl rfl (l' := #[.val (.ref a), .val (.ref b), .val (.ref b)]) rfl k₀) ?_
  show GoOn p e below _ (T17.setTop (mkF m 12 #[.val (.ref a), .val (.ref b), .val (.ref b)] []))
  refine GoOn.step (fun t₀ k₀ => XS.aloadN X17.here hx rfl (hb hby d4_12) rfl rfl k₀) ?_
  show GoOn p e below _ (T17.setTop (mkF m 13 #[.val (.ref a), .val (.ref b), .val (.ref b)] [(.ref b)]))
  obtain ⟨T18, X18, e18, st18⟩ := getF X17 hx hZ hown (host := "") (Or.inl (hw _ (List.mem_of_getElem? (i := 11) rfl))) Via.refl e17 Gs (g := (mkF m 13 #[.val (.ref a), .val (.ref b), .val (.ref b)] [(.ref b)])) rfl rfl (hb hby d4_13)
  refine GoOn.step st18 ?_
  show GoOn p e below _ (T18.setTop (mkF m 16 #[.val (.ref a), .val (.ref b), .val (.ref b)] [(.long x)]))
  refine GoOn.step (fun t₀ k₀ => XS.aloadN X18.here hx rfl (hb hby d4_16) rfl rfl k₀) ?_
  show GoOn p e below _ (T18.setTop (mkF m 17 #[.val (.ref a), .val (.ref b), .val (.ref b)] [(.ref a), (.long x)]))
  obtain ⟨T19, X19, e19, st19⟩ := getF X18 hx hZ hown (host := "") (Or.inl (hw _ (List.mem_of_getElem? (i := 11) rfl))) Via.refl e18 Fs (g := (mkF m 17 #[.val (.ref a), .val (.ref b), .val (.ref b)] [(.ref a), (.long x)])) rfl rfl (hb hby d4_17)
  refine GoOn.step st19 ?_
  show GoOn p e below _ (T19.setTop (mkF m 20 #[.val (.ref a), .val (.ref b), .val (.ref b)] [(.long u), (.long x)]))
  refine GoOn.step (fun t₀ k₀ => XS.lcmp X19.here hx rfl (hb hby d4_20) rfl k₀) ?_
  show GoOn p e below _ (T19.setTop (mkF m 21 #[.val (.ref a), .val (.ref b), .val (.ref b)] [(.int (lcmpW x u))]))
  by_cases c0 : x = u
  · refine GoOn.step (fun t₀ k₀ => XS.ifNo X19.here hx rfl (hb hby d4_21) rfl ((if0 _ _).trans (teq ((lw_eq _ _).mpr c0)).2) k₀) ?_
    show GoOn p e below _ (T19.setTop (mkF m 24 #[.val (.ref a), .val (.ref b), .val (.ref b)] []))
    refine GoOn.step (fun t₀ k₀ => XS.aloadN X19.here hx rfl (hb hby d4_24) rfl rfl k₀) ?_
    show GoOn p e below _ (T19.setTop (mkF m 25 #[.val (.ref a), .val (.ref b), .val (.ref b)] [(.ref b)]))
    obtain ⟨T20, X20, e20, st20⟩ := getF X19 hx hZ hown (host := "") (Or.inl (hw _ (List.mem_of_getElem? (i := 13) rfl))) Via.refl e19 Gn (g := (mkF m 25 #[.val (.ref a), .val (.ref b), .val (.ref b)] [(.ref b)])) rfl rfl (hb hby d4_25)
    refine GoOn.step st20 ?_
    show GoOn p e below _ (T20.setTop (mkF m 28 #[.val (.ref a), .val (.ref b), .val (.ref b)] [(.long y)]))
    refine GoOn.step (fun t₀ k₀ => XS.aloadN X20.here hx rfl (hb hby d4_28) rfl rfl k₀) ?_
    show GoOn p e below _ (T20.setTop (mkF m 29 #[.val (.ref a), .val (.ref b), .val (.ref b)] [(.ref a), (.long y)]))
    obtain ⟨T21, X21, e21, st21⟩ := getF X20 hx hZ hown (host := "") (Or.inl (hw _ (List.mem_of_getElem? (i := 13) rfl))) Via.refl e20 Fn (g := (mkF m 29 #[.val (.ref a), .val (.ref b), .val (.ref b)] [(.ref a), (.long y)])) rfl rfl (hb hby d4_29)
    refine GoOn.step st21 ?_
    show GoOn p e below _ (T21.setTop (mkF m 32 #[.val (.ref a), .val (.ref b), .val (.ref b)] [(.long v), (.long y)]))
    refine GoOn.step (fun t₀ k₀ => XS.lcmp X21.here hx rfl (hb hby d4_32) rfl k₀) ?_
    show GoOn p e below _ (T21.setTop (mkF m 33 #[.val (.ref a), .val (.ref b), .val (.ref b)] [(.int (lcmpW y v))]))
    by_cases c1 : y = v
    · refine GoOn.step (fun t₀ k₀ => XS.ifNo X21.here hx rfl (hb hby d4_33) rfl ((if0 _ _).trans (teq ((lw_eq _ _).mpr c1)).2) k₀) ?_
      show GoOn p e below _ (T21.setTop (mkF m 36 #[.val (.ref a), .val (.ref b), .val (.ref b)] []))
      refine GoOn.step (fun t₀ k₀ => XS.iconst X21.here hx rfl (hb hby d4_36) k₀) ?_
      show GoOn p e below _ (T21.setTop (mkF m 37 #[.val (.ref a), .val (.ref b), .val (.ref b)] [(.int (1 : Int32))]))
      refine GoOn.step (fun t₀ k₀ => XS.goto X21.here hx rfl (pc0 := 37) (pc' := 41) rfl (hb hby d4_37) (by decide) (by decide) k₀) ?_
      show GoOn p e below _ (T21.setTop (mkF m 41 #[.val (.ref a), .val (.ref b), .val (.ref b)] [(.int (1 : Int32))]))
      exact GoOn.retN X21 hx hrt hlk (by simp) (hb hby d4_41) (by decide) (by decide) (by first | exact ⟨by rw [if_pos c0, if_pos c1]; rfl, rfl, rfl⟩ | (rw [e21]; exact ⟨by rw [if_pos c0, if_pos c1]; rfl, rfl, rfl⟩))
    · refine GoOn.step (fun t₀ k₀ => XS.ifYes X21.here hx rfl (pc0 := 33) (pc' := 40) rfl (hb hby d4_33) rfl ((if0 _ _).trans (feq (mt (lw_eq _ _).mp c1)).2) (by decide) (by decide) k₀) ?_
      show GoOn p e below _ (T21.setTop (mkF m 40 #[.val (.ref a), .val (.ref b), .val (.ref b)] []))
      refine GoOn.step (fun t₀ k₀ => XS.iconst X21.here hx rfl (hb hby d4_40) k₀) ?_
      show GoOn p e below _ (T21.setTop (mkF m 41 #[.val (.ref a), .val (.ref b), .val (.ref b)] [(.int (0 : Int32))]))
      exact GoOn.retN X21 hx hrt hlk (by simp) (hb hby d4_41) (by decide) (by decide) (by first | exact ⟨by rw [if_pos c0, if_neg c1]; rfl, rfl, rfl⟩ | (rw [e21]; exact ⟨by rw [if_pos c0, if_neg c1]; rfl, rfl, rfl⟩))
  · refine GoOn.step (fun t₀ k₀ => XS.ifYes X19.here hx rfl (pc0 := 21) (pc' := 40) rfl (hb hby d4_21) rfl ((if0 _ _).trans (feq (mt (lw_eq _ _).mp c0)).2) (by decide) (by decide) k₀) ?_
    show GoOn p e below _ (T19.setTop (mkF m 40 #[.val (.ref a), .val (.ref b), .val (.ref b)] []))
    refine GoOn.step (fun t₀ k₀ => XS.iconst X19.here hx rfl (hb hby d4_40) k₀) ?_
    show GoOn p e below _ (T19.setTop (mkF m 41 #[.val (.ref a), .val (.ref b), .val (.ref b)] [(.int (0 : Int32))]))
    exact GoOn.retN X19 hx hrt hlk (by simp) (hb hby d4_41) (by decide) (by decide) (by first | exact ⟨by rw [if_neg c0]; rfl, rfl, rfl⟩ | (rw [e19]; exact ⟨by rw [if_neg c0]; rfl, rfl, rfl⟩))
theorem ef_c_eqn (m : MethodId) (x0 : Addr) : entryFrame m #[(.ref x0), .null] 3 = mkF m 0 #[.val (.ref x0), .val .null, .unset] [] := by first | (simp [entryFrame, mkF, argsToLocals, Value.category]; done) | rfl
set_option maxRecDepth 65536 in
set_option maxHeartbeats 40000000 in
theorem c_eqn (l : Launch) (Z : State) (a0 : Array Value) (hw : ∀ d ∈ tables_1, d.before a0 Z = true) (a : Addr) (h0 : Heap)  :
    Con l Z (⟨"com/example/tidewire/tidewire/session/KeepaliveStamp", "equals", "(Ljava/lang/Object;)Z"⟩ : MethodName) prog_66_method_7_code 3 (some .boolean) ({ frames := 0, cells := 0, slots := 0, locals := 0 } : Room) #[(.ref a), .null] h0 (PQ (some (.int 0)) h0) := by
  refine Con.intro (plainFor_of_name pn_0) ?_
  intro p e s m below meth c s₁ hx hby hml hrt hlk hZ hown hnm X0 e0
  replace hown : s.vm.findClass "com/example/tidewire/tidewire/session/KeepaliveStamp" = some m.cls := hown
  refine GoOn.cast (ef_c_eqn m a) ?_
  show GoOn p e below _ (s₁.setTop (mkF m 0 #[.val (.ref a), .val .null, .unset] []))
  refine GoOn.step (fun t₀ k₀ => XS.aloadN X0.here hx rfl (hb hby d4_0) rfl rfl k₀) ?_
  show GoOn p e below _ (s₁.setTop (mkF m 1 #[.val (.ref a), .val .null, .unset] [.null]))
  refine GoOn.step (fun t₀ k₀ => X0.instanceofNull hx (g := (mkF m 1 #[.val (.ref a), .val .null, .unset] [.null])) rfl rfl (hb hby d4_1) t₀ k₀) ?_
  show GoOn p e below _ (s₁.setTop (mkF m 4 #[.val (.ref a), .val .null, .unset] [(.int (0 : Int32))]))
  have hf22 : (0 : Int32) = (0 : Int32) := rfl
  refine GoOn.step (fun t₀ k₀ => XS.ifYes X0.here hx rfl (pc0 := 4) (pc' := 40) rfl (hb hby d4_4) rfl ((if0 _ _).trans (teq hf22).1) (by decide) (by decide) k₀) ?_
  show GoOn p e below _ (s₁.setTop (mkF m 40 #[.val (.ref a), .val .null, .unset] []))
  refine GoOn.step (fun t₀ k₀ => XS.iconst X0.here hx rfl (hb hby d4_40) k₀) ?_
  show GoOn p e below _ (s₁.setTop (mkF m 41 #[.val (.ref a), .val .null, .unset] [(.int (0 : Int32))]))
  exact GoOn.retN X0 hx hrt hlk (by simp) (hb hby d4_41) (by decide) (by decide) (by first | exact ⟨rfl, rfl, rfl⟩ | (rw [e0]; exact ⟨rfl, rfl, rfl⟩))
theorem noLong {Z : State} {a0 : Array Value} (hw : ∀ d ∈ tables_1, d.before a0 Z = true) : ∃ c t, Z.vm.findClass "java/lang/Long" = some c ∧ Z.vm.findClass "com/example/tidewire/tidewire/session/KeepaliveStamp" = some t ∧ Z.vm.assignable c t = false := by
  have w1 : (Jvm.Cond.superclass "java/lang/Long" "java/lang/Number").before a0 Z = true := (hw _ (List.mem_of_getElem? (i := 30) rfl))
  have w2 : (Jvm.Cond.superclass "java/lang/Number" "java/lang/Object").before a0 Z = true := (hw _ (List.mem_of_getElem? (i := 31) rfl))
  have w3 : (Jvm.Cond.noSuperclass "java/lang/Object").before a0 Z = true := (hw _ (List.mem_of_getElem? (i := 32) rfl))
  have w4 := (hw _ (List.mem_of_getElem? (i := 2) rfl))
  obtain ⟨t, kt, g1, g2, g3, -⟩ := Cond.instantiable_spec w4
  have nf := notFace_of_selects (args := a0) (hw _ (List.mem_of_getElem? (i := 26) rfl))
  obtain ⟨mk, -, hm, -⟩ := Cond.instanceMethod_spec (hw _ (List.mem_of_getElem? (i := 25) rfl))
  obtain ⟨kr, r1, r2⟩ := nf mk hm
  cases (findClass_of_methodNamed hm).symm.trans g1
  cases r1.symm.trans g2
  have root : NS Z "java/lang/Object" "com/example/tidewire/tidewire/session/KeepaliveStamp" := by
    obtain ⟨c, k, h1, h2, h3, -, -⟩ := Cond.noSuperclass_spec w3
    have ne := ids_ne h1 g1 (by decide)
    refine ⟨c, _, h1, g1, fun fuel => ?_⟩
    cases fuel with
    | zero => rfl
    | succ f => simp [Vm.isSubclassAux, ne, h2, h3]
  obtain ⟨c, t, h0, g0, n3⟩ := NS.step w1 (NS.step w2 root (by decide)) (by decide)
  cases g0.symm.trans g1
  obtain ⟨p, k, kp, h1, h2, h3, h4, h5, -, h7⟩ := Cond.superclass_spec h0 w1
  have ne := ids_ne h0 g0 (by decide)
  refine ⟨c, _, h0, g0, ?_⟩
  show Z.vm.assignableAux (255 + 1) c _ = false
  simp [Vm.assignableAux, ne, h2, g2, h5, g3, r2, Vm.isSubclass, n3]
theorem ef_c_eql (m : MethodId) (x0 : Addr) (x1 : Addr) : entryFrame m #[(.ref x0), (.ref x1)] 3 = mkF m 0 #[.val (.ref x0), .val (.ref x1), .unset] [] := by first | (simp [entryFrame, mkF, argsToLocals, Value.category]; done) | rfl
set_option maxRecDepth 65536 in
set_option maxHeartbeats 40000000 in
theorem c_eql (l : Launch) (Z : State) (a0 : Array Value) (hw : ∀ d ∈ tables_1, d.before a0 Z = true) (a b : Addr) (h0 : Heap) (Eb : Exa Z h0 b "java/lang/Long") :
    Con l Z (⟨"com/example/tidewire/tidewire/session/KeepaliveStamp", "equals", "(Ljava/lang/Object;)Z"⟩ : MethodName) prog_66_method_7_code 3 (some .boolean) ({ frames := 0, cells := 0, slots := 0, locals := 0 } : Room) #[(.ref a), (.ref b)] h0 (PQ (some (.int 0)) h0) := by
  refine Con.intro (plainFor_of_name pn_0) ?_
  intro p e s m below meth c s₁ hx hby hml hrt hlk hZ hown hnm X0 e0
  replace hown : s.vm.findClass "com/example/tidewire/tidewire/session/KeepaliveStamp" = some m.cls := hown
  refine GoOn.cast (ef_c_eql m a b) ?_
  show GoOn p e below _ (s₁.setTop (mkF m 0 #[.val (.ref a), .val (.ref b), .unset] []))
  refine GoOn.step (fun t₀ k₀ => XS.aloadN X0.here hx rfl (hb hby d4_0) rfl rfl k₀) ?_
  show GoOn p e below _ (s₁.setTop (mkF m 1 #[.val (.ref a), .val (.ref b), .unset] [(.ref b)]))
  obtain ⟨T23, X23, e23, st23⟩ := instNo X0 hx hZ hown (hw _ (List.mem_of_getElem? (i := 28) rfl)) e0 Eb (noLong hw) (g := (mkF m 1 #[.val (.ref a), .val (.ref b), .unset] [(.ref b)])) rfl rfl (hb hby d4_1)
  refine GoOn.step st23 ?_
  show GoOn p e below _ (T23.setTop (mkF m 4 #[.val (.ref a), .val (.ref b), .unset] [(.int (0 : Int32))]))
  have hf24 : (0 : Int32) = (0 : Int32) := rfl
  refine GoOn.step (fun t₀ k₀ => XS.ifYes X23.here hx rfl (pc0 := 4) (pc' := 40) rfl (hb hby d4_4) rfl ((if0 _ _).trans (teq hf24).1) (by decide) (by decide) k₀) ?_
  show GoOn p e below _ (T23.setTop (mkF m 40 #[.val (.ref a), .val (.ref b), .unset] []))
  refine GoOn.step (fun t₀ k₀ => XS.iconst X23.here hx rfl (hb hby d4_40) k₀) ?_
  show GoOn p e below _ (T23.setTop (mkF m 41 #[.val (.ref a), .val (.ref b), .unset] [(.int (0 : Int32))]))
  exact GoOn.retN X23 hx hrt hlk (by simp) (hb hby d4_41) (by decide) (by decide) (by first | exact ⟨rfl, rfl, rfl⟩ | (rw [e23]; exact ⟨rfl, rfl, rfl⟩))
theorem ef_law_ok (m : MethodId) (x0 : Int64) (x1 : Int64) (x2 : Int64) (x3 : Int64) (x4 : Int32) : entryFrame m #[(.long x0), (.long x1), (.long x2), (.long x3), (.int x4)] maxLocals = mkF m 0 #[.val (.long x0), .second, .val (.long x1), .second, .val (.long x2), .second, .val (.long x3), .second, .val (.int x4), .unset, .unset, .unset, .unset, .unset, .unset, .unset, .unset, .unset, .unset, .unset, .unset, .unset, .unset] [] := by first | (simp [entryFrame, mkF, argsToLocals, Value.category, maxLocals]; done) | rfl
set_option maxRecDepth 65536 in
set_option maxHeartbeats 40000000 in
theorem law_ok (l : Launch) (Z : State) (a0 : Array Value) (hw : ∀ d ∈ tables_1, d.before a0 Z = true) (q0 q1 q2 q3 : Int64) (q4 : Int32) (h0 : Heap) (n0 : Nat) (Z0 : n0 ≤ h0.size) (O : Old Z n0 h0) (CL : CaL Z) :
    Con l Z x code maxLocals ret room_1 #[(.long q0), (.long q1), (.long q2), (.long q3), (.int q4)] h0 (LQ n0) := by
  refine Con.intro (plainFor_of_name pn_3) ?_
  intro p e s m below meth c s₁ hx hby hml hrt hlk hZ hown hnm X0 e0
  replace hown : s.vm.findClass "com/example/tidewire/tidewire/session/KeepaliveStampEqualsPinLaw" = some m.cls := hown
  have N0 := Fr.nil n0
  refine GoOn.cast (ef_law_ok m q0 q1 q2 q3 q4) ?_
  show GoOn p e below _ (s₁.setTop (mkF m 0 #[.val (.long q0), .second, .val (.long q1), .second, .val (.long q2), .second, .val (.long q3), .second, .val (.int q4), .unset, .unset, .unset, .unset, .unset, .unset, .unset, .unset, .unset, .unset, .unset, .unset, .unset, .unset] []))
  refine GoOn.step (fun t₀ k₀ => X0.ldc2Long hx hown (mvT hZ (hw _ (List.mem_of_getElem? (i := 0) rfl))) (g := (mkF m 0 #[.val (.long q0), .second, .val (.long q1), .second, .val (.long q2), .second, .val (.long q3), .second, .val (.int q4), .unset, .unset, .unset, .unset, .unset, .unset, .unset, .unset, .unset, .unset, .unset, .unset, .unset, .unset] [])) rfl (hb hby at_0) t₀ k₀) ?_
  show GoOn p e below _ (s₁.setTop (mkF m 3 #[.val (.long q0), .second, .val (.long q1), .second, .val (.long q2), .second, .val (.long q3), .second, .val (.int q4), .unset, .unset, .unset, .unset, .unset, .unset, .unset, .unset, .unset, .unset, .unset, .unset, .unset, .unset] [(.long (4294967295 : Int64))]))
  refine GoOn.step (fun t₀ k₀ => XS.lstore X0.here hx rfl (hb hby at_3) rfl (l' := #[.val (.long q0), .second, .val (.long q1), .second, .val (.long q2), .second, .val (.long q3), .second, .val (.int q4), .val (.long (4294967295 : Int64)), .second, .unset, .unset, .unset, .unset, .unset, .unset, .unset, .unset, .unset, .unset, .unset, .unset]) rfl k₀) ?_
  show GoOn p e below _ (s₁.setTop (mkF m 5 #[.val (.long q0), .second, .val (.long q1), .second, .val (.long q2), .second, .val (.long q3), .second, .val (.int q4), .val (.long (4294967295 : Int64)), .second, .unset, .unset, .unset, .unset, .unset, .unset, .unset, .unset, .unset, .unset, .unset, .unset] []))
  refine GoOn.step (fun t₀ k₀ => XS.lloadN X0.here hx rfl (hb hby at_5) rfl k₀) ?_
  show GoOn p e below _ (s₁.setTop (mkF m 6 #[.val (.long q0), .second, .val (.long q1), .second, .val (.long q2), .second, .val (.long q3), .second, .val (.int q4), .val (.long (4294967295 : Int64)), .second, .unset, .unset, .unset, .unset, .unset, .unset, .unset, .unset, .unset, .unset, .unset, .unset] [(.long q0)]))
  refine GoOn.step (fun t₀ k₀ => XS.lload X0.here hx rfl (hb hby at_6) rfl k₀) ?_
  show GoOn p e below _ (s₁.setTop (mkF m 8 #[.val (.long q0), .second, .val (.long q1), .second, .val (.long q2), .second, .val (.long q3), .second, .val (.int q4), .val (.long (4294967295 : Int64)), .second, .unset, .unset, .unset, .unset, .unset, .unset, .unset, .unset, .unset, .unset, .unset, .unset] [(.long (4294967295 : Int64)), (.long q0)]))
  refine GoOn.step (fun t₀ k₀ => XS.land X0.here hx rfl (hb hby at_8) rfl k₀) ?_
  show GoOn p e below _ (s₁.setTop (mkF m 9 #[.val (.long q0), .second, .val (.long q1), .second, .val (.long q2), .second, .val (.long q3), .second, .val (.int q4), .val (.long (4294967295 : Int64)), .second, .unset, .unset, .unset, .unset, .unset, .unset, .unset, .unset, .unset, .unset, .unset, .unset] [(.long (q0 &&& (4294967295 : Int64)))]))
  generalize h_u : (q0 &&& (4294967295 : Int64)) = u
  have h_uI := congrArg Int64.toInt h_u
  have ru : ¬ u < 0 ∧ ¬ (4294967295 : Int64) < u ∧ 0 ≤ u.toInt := by
    have hm : (q0 &&& (4294967295 : Int64)).toInt = q0.toInt % 4294967296 := c_maskL q0 4294967295 32 (by decide) (by decide)
    rw [h_u] at hm
    simp only [Int64.lt_iff_toInt_lt, Int64.reduceToInt]; omega
  refine GoOn.step (fun t₀ k₀ => XS.lstore X0.here hx rfl (hb hby at_9) rfl (l' := #[.val (.long q0), .second, .val (.long q1), .second, .val (.long q2), .second, .val (.long q3), .second, .val (.int q4), .val (.long (4294967295 : Int64)), .second, .val (.long u), .second, .unset, .unset, .unset, .unset, .unset, .unset, .unset, .unset, .unset, .unset]) rfl k₀) ?_
  show GoOn p e below _ (s₁.setTop (mkF m 11 #[.val (.long q0), .second, .val (.long q1), .second, .val (.long q2), .second, .val (.long q3), .second, .val (.int q4), .val (.long (4294967295 : Int64)), .second, .val (.long u), .second, .unset, .unset, .unset, .unset, .unset, .unset, .unset, .unset, .unset, .unset] []))
  refine GoOn.step (fun t₀ k₀ => XS.lloadN X0.here hx rfl (hb hby at_11) rfl k₀) ?_
  show GoOn p e below _ (s₁.setTop (mkF m 12 #[.val (.long q0), .second, .val (.long q1), .second, .val (.long q2), .second, .val (.long q3), .second, .val (.int q4), .val (.long (4294967295 : Int64)), .second, .val (.long u), .second, .unset, .unset, .unset, .unset, .unset, .unset, .unset, .unset, .unset, .unset] [(.long q1)]))
  refine GoOn.step (fun t₀ k₀ => XS.lload X0.here hx rfl (hb hby at_12) rfl k₀) ?_
  show GoOn p e below _ (s₁.setTop (mkF m 14 #[.val (.long q0), .second, .val (.long q1), .second, .val (.long q2), .second, .val (.long q3), .second, .val (.int q4), .val (.long (4294967295 : Int64)), .second, .val (.long u), .second, .unset, .unset, .unset, .unset, .unset, .unset, .unset, .unset, .unset, .unset] [(.long (4294967295 : Int64)), (.long q1)]))
  refine GoOn.step (fun t₀ k₀ => XS.land X0.here hx rfl (hb hby at_14) rfl k₀) ?_
  show GoOn p e below _ (s₁.setTop (mkF m 15 #[.val (.long q0), .second, .val (.long q1), .second, .val (.long q2), .second, .val (.long q3), .second, .val (.int q4), .val (.long (4294967295 : Int64)), .second, .val (.long u), .second, .unset, .unset, .unset, .unset, .unset, .unset, .unset, .unset, .unset, .unset] [(.long (q1 &&& (4294967295 : Int64)))]))
  generalize h_v : (q1 &&& (4294967295 : Int64)) = v
  have h_vI := congrArg Int64.toInt h_v
  have rv : ¬ v < 0 ∧ ¬ (4294967295 : Int64) < v ∧ 0 ≤ v.toInt := by
    have hm : (q1 &&& (4294967295 : Int64)).toInt = q1.toInt % 4294967296 := c_maskL q1 4294967295 32 (by decide) (by decide)
    rw [h_v] at hm
    simp only [Int64.lt_iff_toInt_lt, Int64.reduceToInt]; omega
  refine GoOn.step (fun t₀ k₀ => XS.lstore X0.here hx rfl (hb hby at_15) rfl (l' := #[.val (.long q0), .second, .val (.long q1), .second, .val (.long q2), .second, .val (.long q3), .second, .val (.int q4), .val (.long (4294967295 : Int64)), .second, .val (.long u), .second, .val (.long v), .second, .unset, .unset, .unset, .unset, .unset, .unset, .unset, .unset]) rfl k₀) ?_
  show GoOn p e below _ (s₁.setTop (mkF m 17 #[.val (.long q0), .second, .val (.long q1), .second, .val (.long q2), .second, .val (.long q3), .second, .val (.int q4), .val (.long (4294967295 : Int64)), .second, .val (.long u), .second, .val (.long v), .second, .unset, .unset, .unset, .unset, .unset, .unset, .unset, .unset] []))
  refine GoOn.step (fun t₀ k₀ => XS.iload X0.here hx rfl (hb hby at_17) rfl k₀) ?_
  show GoOn p e below _ (s₁.setTop (mkF m 19 #[.val (.long q0), .second, .val (.long q1), .second, .val (.long q2), .second, .val (.long q3), .second, .val (.int q4), .val (.long (4294967295 : Int64)), .second, .val (.long u), .second, .val (.long v), .second, .unset, .unset, .unset, .unset, .unset, .unset, .unset, .unset] [(.int q4)]))
  refine GoOn.step (fun t₀ k₀ => XS.iconst X0.here hx rfl (hb hby at_19) k₀) ?_
  show GoOn p e below _ (s₁.setTop (mkF m 20 #[.val (.long q0), .second, .val (.long q1), .second, .val (.long q2), .second, .val (.long q3), .second, .val (.int q4), .val (.long (4294967295 : Int64)), .second, .val (.long u), .second, .val (.long v), .second, .unset, .unset, .unset, .unset, .unset, .unset, .unset, .unset] [(.int (1 : Int32)), (.int q4)]))
  refine GoOn.step (fun t₀ k₀ => XS.iand X0.here hx rfl (hb hby at_20) rfl k₀) ?_
  show GoOn p e below _ (s₁.setTop (mkF m 21 #[.val (.long q0), .second, .val (.long q1), .second, .val (.long q2), .second, .val (.long q3), .second, .val (.int q4), .val (.long (4294967295 : Int64)), .second, .val (.long u), .second, .val (.long v), .second, .unset, .unset, .unset, .unset, .unset, .unset, .unset, .unset] [(.int (q4 &&& (1 : Int32)))]))
  have J1 : ∀ (x : Int64) (_ : ¬ x < 0 ∧ ¬ (4294967295 : Int64) < x ∧ 0 ≤ x.toInt), GoOn p e below (EndQ s room_1 (LQ n0)) (s₁.setTop (mkF m 34 #[.val (.long q0), .second, .val (.long q1), .second, .val (.long q2), .second, .val (.long q3), .second, .val (.int q4), .val (.long (4294967295 : Int64)), .second, .val (.long u), .second, .val (.long v), .second, .unset, .unset, .unset, .unset, .unset, .unset, .unset, .unset] [(.long x)])) := by
    intro x rx
    refine GoOn.step (fun t₀ k₀ => XS.lstore X0.here hx rfl (hb hby at_34) rfl (l' := #[.val (.long q0), .second, .val (.long q1), .second, .val (.long q2), .second, .val (.long q3), .second, .val (.int q4), .val (.long (4294967295 : Int64)), .second, .val (.long u), .second, .val (.long v), .second, .val (.long x), .second, .unset, .unset, .unset, .unset, .unset, .unset]) rfl k₀) ?_
    show GoOn p e below _ (s₁.setTop (mkF m 36 #[.val (.long q0), .second, .val (.long q1), .second, .val (.long q2), .second, .val (.long q3), .second, .val (.int q4), .val (.long (4294967295 : Int64)), .second, .val (.long u), .second, .val (.long v), .second, .val (.long x), .second, .unset, .unset, .unset, .unset, .unset, .unset] []))
    refine GoOn.step (fun t₀ k₀ => XS.iload X0.here hx rfl (hb hby at_36) rfl k₀) ?_
    show GoOn p e below _ (s₁.setTop (mkF m 38 #[.val (.long q0), .second, .val (.long q1), .second, .val (.long q2), .second, .val (.long q3), .second, .val (.int q4), .val (.long (4294967295 : Int64)), .second, .val (.long u), .second, .val (.long v), .second, .val (.long x), .second, .unset, .unset, .unset, .unset, .unset, .unset] [(.int q4)]))
    refine GoOn.step (fun t₀ k₀ => XS.iconst X0.here hx rfl (hb hby at_38) k₀) ?_
    show GoOn p e below _ (s₁.setTop (mkF m 39 #[.val (.long q0), .second, .val (.long q1), .second, .val (.long q2), .second, .val (.long q3), .second, .val (.int q4), .val (.long (4294967295 : Int64)), .second, .val (.long u), .second, .val (.long v), .second, .val (.long x), .second, .unset, .unset, .unset, .unset, .unset, .unset] [(.int (2 : Int32)), (.int q4)]))
    refine GoOn.step (fun t₀ k₀ => XS.iand X0.here hx rfl (hb hby at_39) rfl k₀) ?_
    show GoOn p e below _ (s₁.setTop (mkF m 40 #[.val (.long q0), .second, .val (.long q1), .second, .val (.long q2), .second, .val (.long q3), .second, .val (.int q4), .val (.long (4294967295 : Int64)), .second, .val (.long u), .second, .val (.long v), .second, .val (.long x), .second, .unset, .unset, .unset, .unset, .unset, .unset] [(.int (q4 &&& (2 : Int32)))]))
    have J2 : ∀ (y : Int64) (_ : ¬ y < 0 ∧ ¬ (4294967295 : Int64) < y ∧ 0 ≤ y.toInt), GoOn p e below (EndQ s room_1 (LQ n0)) (s₁.setTop (mkF m 53 #[.val (.long q0), .second, .val (.long q1), .second, .val (.long q2), .second, .val (.long q3), .second, .val (.int q4), .val (.long (4294967295 : Int64)), .second, .val (.long u), .second, .val (.long v), .second, .val (.long x), .second, .unset, .unset, .unset, .unset, .unset, .unset] [(.long y)])) := by
      intro y ry
      refine GoOn.step (fun t₀ k₀ => XS.lstore X0.here hx rfl (hb hby at_53) rfl (l' := #[.val (.long q0), .second, .val (.long q1), .second, .val (.long q2), .second, .val (.long q3), .second, .val (.int q4), .val (.long (4294967295 : Int64)), .second, .val (.long u), .second, .val (.long v), .second, .val (.long x), .second, .val (.long y), .second, .unset, .unset, .unset, .unset]) rfl k₀) ?_
      show GoOn p e below _ (s₁.setTop (mkF m 55 #[.val (.long q0), .second, .val (.long q1), .second, .val (.long q2), .second, .val (.long q3), .second, .val (.int q4), .val (.long (4294967295 : Int64)), .second, .val (.long u), .second, .val (.long v), .second, .val (.long x), .second, .val (.long y), .second, .unset, .unset, .unset, .unset] []))
      obtain ⟨T25, h25, X25, e25, E25, A25, D25, -, st25⟩ := newO X0 hx hZ hown (hw _ (List.mem_of_getElem? (i := 1) rfl)) (hw _ (List.mem_of_getElem? (i := 2) rfl)) (hw _ (List.mem_of_getElem? (i := 3) rfl)) e0 (g := (mkF m 55 #[.val (.long q0), .second, .val (.long q1), .second, .val (.long q2), .second, .val (.long q3), .second, .val (.int q4), .val (.long (4294967295 : Int64)), .second, .val (.long u), .second, .val (.long v), .second, .val (.long x), .second, .val (.long y), .second, .unset, .unset, .unset, .unset] [])) rfl (hb hby at_55) (by decide) (by decide)
      obtain ⟨a, g25⟩ : ∃ z, z = h0.size := ⟨_, rfl⟩
      rw [← g25] at A25 D25 st25
      have le_a : n0 ≤ a := by rw [g25]; exact Z0
      replace O := O.ext E25
      replace Z0 := Nat.le_trans Z0 E25.1
      have Ex_a : Exa Z h25 a "com/example/tidewire/tidewire/session/KeepaliveStamp" := A25
      have F_seconds_a : Fld Z h25 a "com/example/tidewire/tidewire/session/KeepaliveStamp" "seconds" "J" (.long (0 : Int64)) := D25 (Or.inr (hw _ (List.mem_of_getElem? (i := 12) rfl))) (ty := .long) (by decide)
      have F_nanoseconds_a : Fld Z h25 a "com/example/tidewire/tidewire/session/KeepaliveStamp" "nanoseconds" "J" (.long (0 : Int64)) := D25 (Or.inr (hw _ (List.mem_of_getElem? (i := 14) rfl))) (ty := .long) (by decide)
      refine GoOn.step st25 ?_
      show GoOn p e below _ (T25.setTop (mkF m 58 #[.val (.long q0), .second, .val (.long q1), .second, .val (.long q2), .second, .val (.long q3), .second, .val (.int q4), .val (.long (4294967295 : Int64)), .second, .val (.long u), .second, .val (.long v), .second, .val (.long x), .second, .val (.long y), .second, .unset, .unset, .unset, .unset] [(.ref a)]))
      refine GoOn.step (fun t₀ k₀ => XS.dup X25.here hx rfl (hb hby at_58) rfl rfl k₀) ?_
      show GoOn p e below _ (T25.setTop (mkF m 59 #[.val (.long q0), .second, .val (.long q1), .second, .val (.long q2), .second, .val (.long q3), .second, .val (.int q4), .val (.long (4294967295 : Int64)), .second, .val (.long u), .second, .val (.long v), .second, .val (.long x), .second, .val (.long y), .second, .unset, .unset, .unset, .unset] [(.ref a), (.ref a)]))
      refine GoOn.step (fun t₀ k₀ => XS.lload X25.here hx rfl (hb hby at_59) rfl k₀) ?_
      show GoOn p e below _ (T25.setTop (mkF m 61 #[.val (.long q0), .second, .val (.long q1), .second, .val (.long q2), .second, .val (.long q3), .second, .val (.int q4), .val (.long (4294967295 : Int64)), .second, .val (.long u), .second, .val (.long v), .second, .val (.long x), .second, .val (.long y), .second, .unset, .unset, .unset, .unset] [(.long u), (.ref a), (.ref a)]))
      refine GoOn.step (fun t₀ k₀ => XS.lload X25.here hx rfl (hb hby at_61) rfl k₀) ?_
      show GoOn p e below _ (T25.setTop (mkF m 63 #[.val (.long q0), .second, .val (.long q1), .second, .val (.long q2), .second, .val (.long q3), .second, .val (.int q4), .val (.long (4294967295 : Int64)), .second, .val (.long u), .second, .val (.long v), .second, .val (.long x), .second, .val (.long y), .second, .unset, .unset, .unset, .unset] [(.long v), (.long u), (.ref a), (.ref a)]))
      obtain ⟨_, T26, L26, X26, hQ26, st26⟩ := kCallI X25 hx hZ (a := a) (argsL := [(.long u), (.long v)]) (rest := [(.ref a)]) (c_ini l Z a0 hw a u v h25 n0 Z0 Ex_a F_seconds_a F_nanoseconds_a le_a ru.1 ru.2.1 rv.1 rv.2.1) rfl hown (hw _ (List.mem_of_getElem? (i := 4) rfl)) (hw _ (List.mem_of_getElem? (i := 5) rfl)) (hw _ (List.mem_of_getElem? (i := 3) rfl)) (hw _ (List.mem_of_getElem? (i := 6) rfl)) (by decide) e25 (g := (mkF m 63 #[.val (.long q0), .second, .val (.long q1), .second, .val (.long q2), .second, .val (.long q3), .second, .val (.int q4), .val (.long (4294967295 : Int64)), .second, .val (.long u), .second, .val (.long v), .second, .val (.long x), .second, .val (.long y), .second, .unset, .unset, .unset, .unset] [(.long v), (.long u), (.ref a), (.ref a)])) rfl (by rw [hml]; rfl) (lenOf pd_2 rfl) rfl (W := 1) (by show 2 * 0 + _ ≤ _; exact Nat.le_of_eq rfl) (hb hby at_63) (by decide) (by decide) (by decide) (by decide)
      obtain ⟨rfl, N26, K26, Fs_a, Fn_a⟩ := hQ26
      replace N0 := Fr.app N0 N26
      replace Ex_a := Ex_a.keep K26
      clear F_seconds_a
      clear F_nanoseconds_a
      replace O := O.keep K26 (allS le_a all0)
      replace Z0 := Nat.le_trans Z0 K26.1
      refine GoOn.step st26 ?_
      show GoOn p e below _ (T26.setTop (mkF m 66 #[.val (.long q0), .second, .val (.long q1), .second, .val (.long q2), .second, .val (.long q3), .second, .val (.int q4), .val (.long (4294967295 : Int64)), .second, .val (.long u), .second, .val (.long v), .second, .val (.long x), .second, .val (.long y), .second, .unset, .unset, .unset, .unset] [(.ref a)]))
      refine GoOn.step (fun t₀ k₀ => XS.astore X26.here hx rfl (hb hby at_66) rfl rfl (l' := #[.val (.long q0), .second, .val (.long q1), .second, .val (.long q2), .second, .val (.long q3), .second, .val (.int q4), .val (.long (4294967295 : Int64)), .second, .val (.long u), .second, .val (.long v), .second, .val (.long x), .second, .val (.long y), .second, .val (.ref a), .unset, .unset, .unset]) rfl k₀) ?_
      show GoOn p e below _ (T26.setTop (mkF m 68 #[.val (.long q0), .second, .val (.long q1), .second, .val (.long q2), .second, .val (.long q3), .second, .val (.int q4), .val (.long (4294967295 : Int64)), .second, .val (.long u), .second, .val (.long v), .second, .val (.long x), .second, .val (.long y), .second, .val (.ref a), .unset, .unset, .unset] []))
      obtain ⟨T27, h27, X27, e27, E27, A27, D27, -, st27⟩ := newO X26 hx hZ hown (hw _ (List.mem_of_getElem? (i := 1) rfl)) (hw _ (List.mem_of_getElem? (i := 2) rfl)) (hw _ (List.mem_of_getElem? (i := 3) rfl)) rfl (g := (mkF m 68 #[.val (.long q0), .second, .val (.long q1), .second, .val (.long q2), .second, .val (.long q3), .second, .val (.int q4), .val (.long (4294967295 : Int64)), .second, .val (.long u), .second, .val (.long v), .second, .val (.long x), .second, .val (.long y), .second, .val (.ref a), .unset, .unset, .unset] [])) rfl (hb hby at_68) (by decide) (by decide)
      obtain ⟨b, g27⟩ : ∃ z, z = T26.heap.size := ⟨_, rfl⟩
      rw [← g27] at A27 D27 st27
      have lt_a_b : a < b := by rw [g27]; exact Ex_a.lt
      have ne_a_b : a ≠ b := Nat.ne_of_lt lt_a_b
      have le_b : n0 ≤ b := by rw [g27]; exact Z0
      replace Ex_a := Ex_a.ext E27
      replace Fs_a := Fs_a.ext E27
      replace Fn_a := Fn_a.ext E27
      replace O := O.ext E27
      replace Z0 := Nat.le_trans Z0 E27.1
      have Ex_b : Exa Z h27 b "com/example/tidewire/tidewire/session/KeepaliveStamp" := A27
      have F_seconds_b : Fld Z h27 b "com/example/tidewire/tidewire/session/KeepaliveStamp" "seconds" "J" (.long (0 : Int64)) := D27 (Or.inr (hw _ (List.mem_of_getElem? (i := 12) rfl))) (ty := .long) (by decide)
      have F_nanoseconds_b : Fld Z h27 b "com/example/tidewire/tidewire/session/KeepaliveStamp" "nanoseconds" "J" (.long (0 : Int64)) := D27 (Or.inr (hw _ (List.mem_of_getElem? (i := 14) rfl))) (ty := .long) (by decide)
      refine GoOn.step st27 ?_
      show GoOn p e below _ (T27.setTop (mkF m 71 #[.val (.long q0), .second, .val (.long q1), .second, .val (.long q2), .second, .val (.long q3), .second, .val (.int q4), .val (.long (4294967295 : Int64)), .second, .val (.long u), .second, .val (.long v), .second, .val (.long x), .second, .val (.long y), .second, .val (.ref a), .unset, .unset, .unset] [(.ref b)]))
      refine GoOn.step (fun t₀ k₀ => XS.dup X27.here hx rfl (hb hby at_71) rfl rfl k₀) ?_
      show GoOn p e below _ (T27.setTop (mkF m 72 #[.val (.long q0), .second, .val (.long q1), .second, .val (.long q2), .second, .val (.long q3), .second, .val (.int q4), .val (.long (4294967295 : Int64)), .second, .val (.long u), .second, .val (.long v), .second, .val (.long x), .second, .val (.long y), .second, .val (.ref a), .unset, .unset, .unset] [(.ref b), (.ref b)]))
      refine GoOn.step (fun t₀ k₀ => XS.lload X27.here hx rfl (hb hby at_72) rfl k₀) ?_
      show GoOn p e below _ (T27.setTop (mkF m 74 #[.val (.long q0), .second, .val (.long q1), .second, .val (.long q2), .second, .val (.long q3), .second, .val (.int q4), .val (.long (4294967295 : Int64)), .second, .val (.long u), .second, .val (.long v), .second, .val (.long x), .second, .val (.long y), .second, .val (.ref a), .unset, .unset, .unset] [(.long x), (.ref b), (.ref b)]))
      refine GoOn.step (fun t₀ k₀ => XS.lload X27.here hx rfl (hb hby at_74) rfl k₀) ?_
      show GoOn p e below _ (T27.setTop (mkF m 76 #[.val (.long q0), .second, .val (.long q1), .second, .val (.long q2), .second, .val (.long q3), .second, .val (.int q4), .val (.long (4294967295 : Int64)), .second, .val (.long u), .second, .val (.long v), .second, .val (.long x), .second, .val (.long y), .second, .val (.ref a), .unset, .unset, .unset] [(.long y), (.long x), (.ref b), (.ref b)]))
      obtain ⟨_, T28, L28, X28, hQ28, st28⟩ := kCallI X27 hx hZ (a := b) (argsL := [(.long x), (.long y)]) (rest := [(.ref b)]) (c_ini l Z a0 hw b x y h27 n0 Z0 Ex_b F_seconds_b F_nanoseconds_b le_b rx.1 rx.2.1 ry.1 ry.2.1) rfl hown (hw _ (List.mem_of_getElem? (i := 4) rfl)) (hw _ (List.mem_of_getElem? (i := 5) rfl)) (hw _ (List.mem_of_getElem? (i := 3) rfl)) (hw _ (List.mem_of_getElem? (i := 6) rfl)) (by decide) e27 (g := (mkF m 76 #[.val (.long q0), .second, .val (.long q1), .second, .val (.long q2), .second, .val (.long q3), .second, .val (.int q4), .val (.long (4294967295 : Int64)), .second, .val (.long u), .second, .val (.long v), .second, .val (.long x), .second, .val (.long y), .second, .val (.ref a), .unset, .unset, .unset] [(.long y), (.long x), (.ref b), (.ref b)])) rfl (by rw [hml]; rfl) (lenOf pd_2 rfl) rfl (W := 1) (by show 2 * 0 + _ ≤ _; exact Nat.le_of_eq rfl) (hb hby at_76) (by decide) (by decide) (by decide) (by decide)
      obtain ⟨rfl, N28, K28, Fs_b, Fn_b⟩ := hQ28
      replace N0 := Fr.app N0 N28
      replace Ex_a := Ex_a.keep K28
      replace Fs_a := Fs_a.keep K28 (ninS ne_a_b nin0)
      replace Fn_a := Fn_a.keep K28 (ninS ne_a_b nin0)
      replace Ex_b := Ex_b.keep K28
      clear F_seconds_b
      clear F_nanoseconds_b
      replace O := O.keep K28 (allS le_b all0)
      replace Z0 := Nat.le_trans Z0 K28.1
      refine GoOn.step st28 ?_
      show GoOn p e below _ (T28.setTop (mkF m 79 #[.val (.long q0), .second, .val (.long q1), .second, .val (.long q2), .second, .val (.long q3), .second, .val (.int q4), .val (.long (4294967295 : Int64)), .second, .val (.long u), .second, .val (.long v), .second, .val (.long x), .second, .val (.long y), .second, .val (.ref a), .unset, .unset, .unset] [(.ref b)]))
      refine GoOn.step (fun t₀ k₀ => XS.astore X28.here hx rfl (hb hby at_79) rfl rfl (l' := #[.val (.long q0), .second, .val (.long q1), .second, .val (.long q2), .second, .val (.long q3), .second, .val (.int q4), .val (.long (4294967295 : Int64)), .second, .val (.long u), .second, .val (.long v), .second, .val (.long x), .second, .val (.long y), .second, .val (.ref a), .val (.ref b), .unset, .unset]) rfl k₀) ?_
      show GoOn p e below _ (T28.setTop (mkF m 81 #[.val (.long q0), .second, .val (.long q1), .second, .val (.long q2), .second, .val (.long q3), .second, .val (.int q4), .val (.long (4294967295 : Int64)), .second, .val (.long u), .second, .val (.long v), .second, .val (.long x), .second, .val (.long y), .second, .val (.ref a), .val (.ref b), .unset, .unset] []))
      refine GoOn.step (fun t₀ k₀ => XS.lload X28.here hx rfl (hb hby at_81) rfl k₀) ?_
      show GoOn p e below _ (T28.setTop (mkF m 83 #[.val (.long q0), .second, .val (.long q1), .second, .val (.long q2), .second, .val (.long q3), .second, .val (.int q4), .val (.long (4294967295 : Int64)), .second, .val (.long u), .second, .val (.long v), .second, .val (.long x), .second, .val (.long y), .second, .val (.ref a), .val (.ref b), .unset, .unset] [(.long u)]))
      refine GoOn.step (fun t₀ k₀ => XS.lload X28.here hx rfl (hb hby at_83) rfl k₀) ?_
      show GoOn p e below _ (T28.setTop (mkF m 85 #[.val (.long q0), .second, .val (.long q1), .second, .val (.long q2), .second, .val (.long q3), .second, .val (.int q4), .val (.long (4294967295 : Int64)), .second, .val (.long u), .second, .val (.long v), .second, .val (.long x), .second, .val (.long y), .second, .val (.ref a), .val (.ref b), .unset, .unset] [(.long x), (.long u)]))
      refine GoOn.step (fun t₀ k₀ => XS.lcmp X28.here hx rfl (hb hby at_85) rfl k₀) ?_
      show GoOn p e below _ (T28.setTop (mkF m 86 #[.val (.long q0), .second, .val (.long q1), .second, .val (.long q2), .second, .val (.long q3), .second, .val (.int q4), .val (.long (4294967295 : Int64)), .second, .val (.long u), .second, .val (.long v), .second, .val (.long x), .second, .val (.long y), .second, .val (.ref a), .val (.ref b), .unset, .unset] [(.int (lcmpW u x))]))
      have J3 : ∀ (ee : Int32) (_ : ee = (if u = x then (if v = y then (1 : Int32) else 0) else 0)), GoOn p e below (EndQ s room_1 (LQ n0)) (T28.setTop (mkF m 102 #[.val (.long q0), .second, .val (.long q1), .second, .val (.long q2), .second, .val (.long q3), .second, .val (.int q4), .val (.long (4294967295 : Int64)), .second, .val (.long u), .second, .val (.long v), .second, .val (.long x), .second, .val (.long y), .second, .val (.ref a), .val (.ref b), .unset, .unset] [(.int ee)])) := by
        intro ee he
        refine GoOn.step (fun t₀ k₀ => XS.istore X28.here hx rfl (hb hby at_102) rfl (l' := #[.val (.long q0), .second, .val (.long q1), .second, .val (.long q2), .second, .val (.long q3), .second, .val (.int q4), .val (.long (4294967295 : Int64)), .second, .val (.long u), .second, .val (.long v), .second, .val (.long x), .second, .val (.long y), .second, .val (.ref a), .val (.ref b), .val (.int ee), .unset]) rfl k₀) ?_
        show GoOn p e below _ (T28.setTop (mkF m 104 #[.val (.long q0), .second, .val (.long q1), .second, .val (.long q2), .second, .val (.long q3), .second, .val (.int q4), .val (.long (4294967295 : Int64)), .second, .val (.long u), .second, .val (.long v), .second, .val (.long x), .second, .val (.long y), .second, .val (.ref a), .val (.ref b), .val (.int ee), .unset] []))
        refine GoOn.step (fun t₀ k₀ => XS.lload X28.here hx rfl (hb hby at_104) rfl k₀) ?_
        show GoOn p e below _ (T28.setTop (mkF m 106 #[.val (.long q0), .second, .val (.long q1), .second, .val (.long q2), .second, .val (.long q3), .second, .val (.int q4), .val (.long (4294967295 : Int64)), .second, .val (.long u), .second, .val (.long v), .second, .val (.long x), .second, .val (.long y), .second, .val (.ref a), .val (.ref b), .val (.int ee), .unset] [(.long u)]))
        obtain ⟨_, T29, L29, X29, hQ29, st29⟩ := kCallS X28 hx hZ (argsL := [(.long u)]) (rest := []) (c_vo l Z a0 hw u T28.heap n0 Z0 O CL ru.2.2) hown (hw _ (List.mem_of_getElem? (i := 15) rfl)) (hw _ (List.mem_of_getElem? (i := 16) rfl)) (hw _ (List.mem_of_getElem? (i := 17) rfl)) (hw _ (List.mem_of_getElem? (i := 18) rfl)) (by decide) rfl (g := (mkF m 106 #[.val (.long q0), .second, .val (.long q1), .second, .val (.long q2), .second, .val (.long q3), .second, .val (.int q4), .val (.long (4294967295 : Int64)), .second, .val (.long u), .second, .val (.long v), .second, .val (.long x), .second, .val (.long y), .second, .val (.ref a), .val (.ref b), .val (.int ee), .unset] [(.long u)])) rfl (by rw [hml]; rfl) (lenOf pd_3 rfl) rfl (W := 0) (by show 2 * 0 + _ ≤ _; exact Nat.le_of_eq rfl) (hb hby at_106) (by decide) (by decide) (by decide) (by decide)
        obtain ⟨f, rfl, N29, K29, Ef⟩ := hQ29
        replace N0 := Fr.app N0 N29
        replace Ex_a := Ex_a.keep K29
        replace Fs_a := Fs_a.keep K29 nin0
        replace Fn_a := Fn_a.keep K29 nin0
        replace Ex_b := Ex_b.keep K29
        replace Fs_b := Fs_b.keep K29 nin0
        replace Fn_b := Fn_b.keep K29 nin0
        replace O := O.keep K29 all0
        replace Z0 := Nat.le_trans Z0 K29.1
        refine GoOn.step st29 ?_
        show GoOn p e below _ (T29.setTop (mkF m 109 #[.val (.long q0), .second, .val (.long q1), .second, .val (.long q2), .second, .val (.long q3), .second, .val (.int q4), .val (.long (4294967295 : Int64)), .second, .val (.long u), .second, .val (.long v), .second, .val (.long x), .second, .val (.long y), .second, .val (.ref a), .val (.ref b), .val (.int ee), .unset] [(.ref f)]))
        refine GoOn.step (fun t₀ k₀ => XS.astore X29.here hx rfl (hb hby at_109) rfl rfl (l' := #[.val (.long q0), .second, .val (.long q1), .second, .val (.long q2), .second, .val (.long q3), .second, .val (.int q4), .val (.long (4294967295 : Int64)), .second, .val (.long u), .second, .val (.long v), .second, .val (.long x), .second, .val (.long y), .second, .val (.ref a), .val (.ref b), .val (.int ee), .val (.ref f)]) rfl k₀) ?_
        show GoOn p e below _ (T29.setTop (mkF m 111 #[.val (.long q0), .second, .val (.long q1), .second, .val (.long q2), .second, .val (.long q3), .second, .val (.int q4), .val (.long (4294967295 : Int64)), .second, .val (.long u), .second, .val (.long v), .second, .val (.long x), .second, .val (.long y), .second, .val (.ref a), .val (.ref b), .val (.int ee), .val (.ref f)] []))
        refine GoOn.step (fun t₀ k₀ => XS.aload X29.here hx rfl (hb hby at_111) rfl rfl k₀) ?_
        show GoOn p e below _ (T29.setTop (mkF m 113 #[.val (.long q0), .second, .val (.long q1), .second, .val (.long q2), .second, .val (.long q3), .second, .val (.int q4), .val (.long (4294967295 : Int64)), .second, .val (.long u), .second, .val (.long v), .second, .val (.long x), .second, .val (.long y), .second, .val (.ref a), .val (.ref b), .val (.int ee), .val (.ref f)] [(.ref a)]))
        refine GoOn.step (fun t₀ k₀ => XS.aload X29.here hx rfl (hb hby at_113) rfl rfl k₀) ?_
        show GoOn p e below _ (T29.setTop (mkF m 115 #[.val (.long q0), .second, .val (.long q1), .second, .val (.long q2), .second, .val (.long q3), .second, .val (.int q4), .val (.long (4294967295 : Int64)), .second, .val (.long u), .second, .val (.long v), .second, .val (.long x), .second, .val (.long y), .second, .val (.ref a), .val (.ref b), .val (.int ee), .val (.ref f)] [(.ref b), (.ref a)]))
        obtain ⟨_, T30, L30, X30, hQ30, st30⟩ := kCallV X29 hx hZ (a := a) (argsL := [(.ref b)]) (rest := []) (c_eqs l Z a0 hw a b u v x y _ Ex_a Fs_a Fn_a Ex_b Fs_b Fn_b) hown (hw _ (List.mem_of_getElem? (i := 23) rfl)) (hw _ (List.mem_of_getElem? (i := 24) rfl)) (notFace_of_selects (args := #[]) (mvT hZ (hw _ (List.mem_of_getElem? (i := 26) rfl)))) (hw _ (List.mem_of_getElem? (i := 26) rfl)) (hw _ (List.mem_of_getElem? (i := 25) rfl)) (hw _ (List.mem_of_getElem? (i := 3) rfl)) (hw _ (List.mem_of_getElem? (i := 27) rfl)) (by decide) rfl Ex_a (g := (mkF m 115 #[.val (.long q0), .second, .val (.long q1), .second, .val (.long q2), .second, .val (.long q3), .second, .val (.int q4), .val (.long (4294967295 : Int64)), .second, .val (.long u), .second, .val (.long v), .second, .val (.long x), .second, .val (.long y), .second, .val (.ref a), .val (.ref b), .val (.int ee), .val (.ref f)] [(.ref b), (.ref a)])) rfl (by rw [hml]; rfl) (lenOf pd_4 rfl) rfl (W := 0) (by show 2 * 0 + _ ≤ _; exact Nat.le_of_eq rfl) (hb hby at_115) (by decide) (by decide) (by decide) (by decide)
        obtain ⟨rfl, rfl, e30⟩ := hQ30
        rw [List.append_nil] at X30
        refine GoOn.step st30 ?_
        show GoOn p e below _ (T30.setTop (mkF m 118 #[.val (.long q0), .second, .val (.long q1), .second, .val (.long q2), .second, .val (.long q3), .second, .val (.int q4), .val (.long (4294967295 : Int64)), .second, .val (.long u), .second, .val (.long v), .second, .val (.long x), .second, .val (.long y), .second, .val (.ref a), .val (.ref b), .val (.int ee), .val (.ref f)] [(.int (if x = u then (if y = v then (1 : Int32) else 0) else 0))]))
        refine GoOn.step (fun t₀ k₀ => XS.iload X30.here hx rfl (hb hby at_118) rfl k₀) ?_
        show GoOn p e below _ (T30.setTop (mkF m 120 #[.val (.long q0), .second, .val (.long q1), .second, .val (.long q2), .second, .val (.long q3), .second, .val (.int q4), .val (.long (4294967295 : Int64)), .second, .val (.long u), .second, .val (.long v), .second, .val (.long x), .second, .val (.long y), .second, .val (.ref a), .val (.ref b), .val (.int ee), .val (.ref f)] [(.int ee), (.int (if x = u then (if y = v then (1 : Int32) else 0) else 0))]))
        have hf31 : (if x = u then (if y = v then (1 : Int32) else 0) else 0) = ee := (by rw [he]; simp only [eq_comm (a := x) (b := u), eq_comm (a := y) (b := v)])
        refine GoOn.step (fun t₀ k₀ => XS.icmpNo X30.here hx rfl (hb hby at_120) rfl (teq hf31).2 k₀) ?_
        show GoOn p e below _ (T30.setTop (mkF m 123 #[.val (.long q0), .second, .val (.long q1), .second, .val (.long q2), .second, .val (.long q3), .second, .val (.int q4), .val (.long (4294967295 : Int64)), .second, .val (.long u), .second, .val (.long v), .second, .val (.long x), .second, .val (.long y), .second, .val (.ref a), .val (.ref b), .val (.int ee), .val (.ref f)] []))
        refine GoOn.step (fun t₀ k₀ => XS.aload X30.here hx rfl (hb hby at_123) rfl rfl k₀) ?_
        show GoOn p e below _ (T30.setTop (mkF m 125 #[.val (.long q0), .second, .val (.long q1), .second, .val (.long q2), .second, .val (.long q3), .second, .val (.int q4), .val (.long (4294967295 : Int64)), .second, .val (.long u), .second, .val (.long v), .second, .val (.long x), .second, .val (.long y), .second, .val (.ref a), .val (.ref b), .val (.int ee), .val (.ref f)] [(.ref b)]))
        refine GoOn.step (fun t₀ k₀ => XS.aload X30.here hx rfl (hb hby at_125) rfl rfl k₀) ?_
        show GoOn p e below _ (T30.setTop (mkF m 127 #[.val (.long q0), .second, .val (.long q1), .second, .val (.long q2), .second, .val (.long q3), .second, .val (.int q4), .val (.long (4294967295 : Int64)), .second, .val (.long u), .second, .val (.long v), .second, .val (.long x), .second, .val (.long y), .second, .val (.ref a), .val (.ref b), .val (.int ee), .val (.ref f)] [(.ref a), (.ref b)]))
        obtain ⟨_, T32, L32, X32, hQ32, st32⟩ := kCallV X30 hx hZ (a := b) (argsL := [(.ref a)]) (rest := []) (c_eqs l Z a0 hw b a x y u v _ Ex_b Fs_b Fn_b Ex_a Fs_a Fn_a) hown (hw _ (List.mem_of_getElem? (i := 23) rfl)) (hw _ (List.mem_of_getElem? (i := 24) rfl)) (notFace_of_selects (args := #[]) (mvT hZ (hw _ (List.mem_of_getElem? (i := 26) rfl)))) (hw _ (List.mem_of_getElem? (i := 26) rfl)) (hw _ (List.mem_of_getElem? (i := 25) rfl)) (hw _ (List.mem_of_getElem? (i := 3) rfl)) (hw _ (List.mem_of_getElem? (i := 27) rfl)) (by decide) e30 Ex_b (g := (mkF m 127 #[.val (.long q0), .second, .val (.long q1), .second, .val (.long q2), .second, .val (.long q3), .second, .val (.int q4), .val (.long (4294967295 : Int64)), .second, .val (.long u), .second, .val (.long v), .second, .val (.long x), .second, .val (.long y), .second, .val (.ref a), .val (.ref b), .val (.int ee), .val (.ref f)] [(.ref a), (.ref b)])) rfl (by rw [hml]; rfl) (lenOf pd_4 rfl) rfl (W := 0) (by show 2 * 0 + _ ≤ _; exact Nat.le_of_eq rfl) (hb hby at_127) (by decide) (by decide) (by decide) (by decide)
        obtain ⟨rfl, rfl, e32⟩ := hQ32
        rw [List.append_nil] at X32
        refine GoOn.step st32 ?_
        show GoOn p e below _ (T32.setTop (mkF m 130 #[.val (.long q0), .second, .val (.long q1), .second, .val (.long q2), .second, .val (.long q3), .second, .val (.int q4), .val (.long (4294967295 : Int64)), .second, .val (.long u), .second, .val (.long v), .second, .val (.long x), .second, .val (.long y), .second, .val (.ref a), .val (.ref b), .val (.int ee), .val (.ref f)] [(.int (if u = x then (if v = y then (1 : Int32) else 0) else 0))]))
        refine GoOn.step (fun t₀ k₀ => XS.iload X32.here hx rfl (hb hby at_130) rfl k₀) ?_
        show GoOn p e below _ (T32.setTop (mkF m 132 #[.val (.long q0), .second, .val (.long q1), .second, .val (.long q2), .second, .val (.long q3), .second, .val (.int q4), .val (.long (4294967295 : Int64)), .second, .val (.long u), .second, .val (.long v), .second, .val (.long x), .second, .val (.long y), .second, .val (.ref a), .val (.ref b), .val (.int ee), .val (.ref f)] [(.int ee), (.int (if u = x then (if v = y then (1 : Int32) else 0) else 0))]))
        have hf33 : (if u = x then (if v = y then (1 : Int32) else 0) else 0) = ee := he.symm
        refine GoOn.step (fun t₀ k₀ => XS.icmpNo X32.here hx rfl (hb hby at_132) rfl (teq hf33).2 k₀) ?_
        show GoOn p e below _ (T32.setTop (mkF m 135 #[.val (.long q0), .second, .val (.long q1), .second, .val (.long q2), .second, .val (.long q3), .second, .val (.int q4), .val (.long (4294967295 : Int64)), .second, .val (.long u), .second, .val (.long v), .second, .val (.long x), .second, .val (.long y), .second, .val (.ref a), .val (.ref b), .val (.int ee), .val (.ref f)] []))
        refine GoOn.step (fun t₀ k₀ => XS.aload X32.here hx rfl (hb hby at_135) rfl rfl k₀) ?_
        show GoOn p e below _ (T32.setTop (mkF m 137 #[.val (.long q0), .second, .val (.long q1), .second, .val (.long q2), .second, .val (.long q3), .second, .val (.int q4), .val (.long (4294967295 : Int64)), .second, .val (.long u), .second, .val (.long v), .second, .val (.long x), .second, .val (.long y), .second, .val (.ref a), .val (.ref b), .val (.int ee), .val (.ref f)] [(.ref a)]))
        refine GoOn.step (fun t₀ k₀ => XS.aload X32.here hx rfl (hb hby at_137) rfl rfl k₀) ?_
        show GoOn p e below _ (T32.setTop (mkF m 139 #[.val (.long q0), .second, .val (.long q1), .second, .val (.long q2), .second, .val (.long q3), .second, .val (.int q4), .val (.long (4294967295 : Int64)), .second, .val (.long u), .second, .val (.long v), .second, .val (.long x), .second, .val (.long y), .second, .val (.ref a), .val (.ref b), .val (.int ee), .val (.ref f)] [(.ref a), (.ref a)]))
        obtain ⟨_, T34, L34, X34, hQ34, st34⟩ := kCallV X32 hx hZ (a := a) (argsL := [(.ref a)]) (rest := []) (c_eqs l Z a0 hw a a u v u v _ Ex_a Fs_a Fn_a Ex_a Fs_a Fn_a) hown (hw _ (List.mem_of_getElem? (i := 23) rfl)) (hw _ (List.mem_of_getElem? (i := 24) rfl)) (notFace_of_selects (args := #[]) (mvT hZ (hw _ (List.mem_of_getElem? (i := 26) rfl)))) (hw _ (List.mem_of_getElem? (i := 26) rfl)) (hw _ (List.mem_of_getElem? (i := 25) rfl)) (hw _ (List.mem_of_getElem? (i := 3) rfl)) (hw _ (List.mem_of_getElem? (i := 27) rfl)) (by decide) e32 Ex_a (g := (mkF m 139 #[.val (.long q0), .second, .val (.long q1), .second, .val (.long q2), .second, .val (.long q3), .second, .val (.int q4), .val (.long (4294967295 : Int64)), .second, .val (.long u), .second, .val (.long v), .second, .val (.long x), .second, .val (.long y), .second, .val (.ref a), .val (.ref b), .val (.int ee), .val (.ref f)] [(.ref a), (.ref a)])) rfl (by rw [hml]; rfl) (lenOf pd_4 rfl) rfl (W := 0) (by show 2 * 0 + _ ≤ _; exact Nat.le_of_eq rfl) (hb hby at_139) (by decide) (by decide) (by decide) (by decide)
        obtain ⟨rfl, rfl, e34⟩ := hQ34
        rw [List.append_nil] at X34
        refine GoOn.step st34 ?_
        show GoOn p e below _ (T34.setTop (mkF m 142 #[.val (.long q0), .second, .val (.long q1), .second, .val (.long q2), .second, .val (.long q3), .second, .val (.int q4), .val (.long (4294967295 : Int64)), .second, .val (.long u), .second, .val (.long v), .second, .val (.long x), .second, .val (.long y), .second, .val (.ref a), .val (.ref b), .val (.int ee), .val (.ref f)] [(.int (if u = u then (if v = v then (1 : Int32) else 0) else 0))]))
        have hf35 : ¬ ((if u = u then (if v = v then (1 : Int32) else 0) else 0) = (0 : Int32)) := (by rw [if_pos rfl, if_pos rfl]; decide)
        refine GoOn.step (fun t₀ k₀ => XS.ifNo X34.here hx rfl (hb hby at_142) rfl ((if0 _ _).trans (feq hf35).1) k₀) ?_
        show GoOn p e below _ (T34.setTop (mkF m 145 #[.val (.long q0), .second, .val (.long q1), .second, .val (.long q2), .second, .val (.long q3), .second, .val (.int q4), .val (.long (4294967295 : Int64)), .second, .val (.long u), .second, .val (.long v), .second, .val (.long x), .second, .val (.long y), .second, .val (.ref a), .val (.ref b), .val (.int ee), .val (.ref f)] []))
        refine GoOn.step (fun t₀ k₀ => XS.aload X34.here hx rfl (hb hby at_145) rfl rfl k₀) ?_
        show GoOn p e below _ (T34.setTop (mkF m 147 #[.val (.long q0), .second, .val (.long q1), .second, .val (.long q2), .second, .val (.long q3), .second, .val (.int q4), .val (.long (4294967295 : Int64)), .second, .val (.long u), .second, .val (.long v), .second, .val (.long x), .second, .val (.long y), .second, .val (.ref a), .val (.ref b), .val (.int ee), .val (.ref f)] [(.ref a)]))
        refine GoOn.step (fun t₀ k₀ => XS.aconstNull X34.here hx rfl (hb hby at_147) k₀) ?_
        show GoOn p e below _ (T34.setTop (mkF m 148 #[.val (.long q0), .second, .val (.long q1), .second, .val (.long q2), .second, .val (.long q3), .second, .val (.int q4), .val (.long (4294967295 : Int64)), .second, .val (.long u), .second, .val (.long v), .second, .val (.long x), .second, .val (.long y), .second, .val (.ref a), .val (.ref b), .val (.int ee), .val (.ref f)] [.null, (.ref a)]))
        obtain ⟨_, T36, L36, X36, hQ36, st36⟩ := kCallV X34 hx hZ (a := a) (argsL := [.null]) (rest := []) (c_eqn l Z a0 hw a _) hown (hw _ (List.mem_of_getElem? (i := 23) rfl)) (hw _ (List.mem_of_getElem? (i := 24) rfl)) (notFace_of_selects (args := #[]) (mvT hZ (hw _ (List.mem_of_getElem? (i := 26) rfl)))) (hw _ (List.mem_of_getElem? (i := 26) rfl)) (hw _ (List.mem_of_getElem? (i := 25) rfl)) (hw _ (List.mem_of_getElem? (i := 3) rfl)) (hw _ (List.mem_of_getElem? (i := 27) rfl)) (by decide) e34 Ex_a (g := (mkF m 148 #[.val (.long q0), .second, .val (.long q1), .second, .val (.long q2), .second, .val (.long q3), .second, .val (.int q4), .val (.long (4294967295 : Int64)), .second, .val (.long u), .second, .val (.long v), .second, .val (.long x), .second, .val (.long y), .second, .val (.ref a), .val (.ref b), .val (.int ee), .val (.ref f)] [.null, (.ref a)])) rfl (by rw [hml]; rfl) (lenOf pd_4 rfl) rfl (W := 0) (by show 2 * 0 + _ ≤ _; exact Nat.le_of_eq rfl) (hb hby at_148) (by decide) (by decide) (by decide) (by decide)
        obtain ⟨rfl, rfl, e36⟩ := hQ36
        rw [List.append_nil] at X36
        refine GoOn.step st36 ?_
        show GoOn p e below _ (T36.setTop (mkF m 151 #[.val (.long q0), .second, .val (.long q1), .second, .val (.long q2), .second, .val (.long q3), .second, .val (.int q4), .val (.long (4294967295 : Int64)), .second, .val (.long u), .second, .val (.long v), .second, .val (.long x), .second, .val (.long y), .second, .val (.ref a), .val (.ref b), .val (.int ee), .val (.ref f)] [(.int (0 : Int32))]))
        have hf37 : (0 : Int32) = (0 : Int32) := rfl
        refine GoOn.step (fun t₀ k₀ => XS.ifNo X36.here hx rfl (hb hby at_151) rfl ((if0 _ _).trans (teq hf37).2) k₀) ?_
        show GoOn p e below _ (T36.setTop (mkF m 154 #[.val (.long q0), .second, .val (.long q1), .second, .val (.long q2), .second, .val (.long q3), .second, .val (.int q4), .val (.long (4294967295 : Int64)), .second, .val (.long u), .second, .val (.long v), .second, .val (.long x), .second, .val (.long y), .second, .val (.ref a), .val (.ref b), .val (.int ee), .val (.ref f)] []))
        refine GoOn.step (fun t₀ k₀ => XS.aload X36.here hx rfl (hb hby at_154) rfl rfl k₀) ?_
        show GoOn p e below _ (T36.setTop (mkF m 156 #[.val (.long q0), .second, .val (.long q1), .second, .val (.long q2), .second, .val (.long q3), .second, .val (.int q4), .val (.long (4294967295 : Int64)), .second, .val (.long u), .second, .val (.long v), .second, .val (.long x), .second, .val (.long y), .second, .val (.ref a), .val (.ref b), .val (.int ee), .val (.ref f)] [(.ref a)]))
        refine GoOn.step (fun t₀ k₀ => XS.aload X36.here hx rfl (hb hby at_156) rfl rfl k₀) ?_
        show GoOn p e below _ (T36.setTop (mkF m 158 #[.val (.long q0), .second, .val (.long q1), .second, .val (.long q2), .second, .val (.long q3), .second, .val (.int q4), .val (.long (4294967295 : Int64)), .second, .val (.long u), .second, .val (.long v), .second, .val (.long x), .second, .val (.long y), .second, .val (.ref a), .val (.ref b), .val (.int ee), .val (.ref f)] [(.ref f), (.ref a)]))
        obtain ⟨_, T38, L38, X38, hQ38, st38⟩ := kCallV X36 hx hZ (a := a) (argsL := [(.ref f)]) (rest := []) (c_eql l Z a0 hw a f _ Ef) hown (hw _ (List.mem_of_getElem? (i := 23) rfl)) (hw _ (List.mem_of_getElem? (i := 24) rfl)) (notFace_of_selects (args := #[]) (mvT hZ (hw _ (List.mem_of_getElem? (i := 26) rfl)))) (hw _ (List.mem_of_getElem? (i := 26) rfl)) (hw _ (List.mem_of_getElem? (i := 25) rfl)) (hw _ (List.mem_of_getElem? (i := 3) rfl)) (hw _ (List.mem_of_getElem? (i := 27) rfl)) (by decide) e36 Ex_a (g := (mkF m 158 #[.val (.long q0), .second, .val (.long q1), .second, .val (.long q2), .second, .val (.long q3), .second, .val (.int q4), .val (.long (4294967295 : Int64)), .second, .val (.long u), .second, .val (.long v), .second, .val (.long x), .second, .val (.long y), .second, .val (.ref a), .val (.ref b), .val (.int ee), .val (.ref f)] [(.ref f), (.ref a)])) rfl (by rw [hml]; rfl) (lenOf pd_4 rfl) rfl (W := 0) (by show 2 * 0 + _ ≤ _; exact Nat.le_of_eq rfl) (hb hby at_158) (by decide) (by decide) (by decide) (by decide)
        obtain ⟨rfl, rfl, e38⟩ := hQ38
        rw [List.append_nil] at X38
        refine GoOn.step st38 ?_
        show GoOn p e below _ (T38.setTop (mkF m 161 #[.val (.long q0), .second, .val (.long q1), .second, .val (.long q2), .second, .val (.long q3), .second, .val (.int q4), .val (.long (4294967295 : Int64)), .second, .val (.long u), .second, .val (.long v), .second, .val (.long x), .second, .val (.long y), .second, .val (.ref a), .val (.ref b), .val (.int ee), .val (.ref f)] [(.int (0 : Int32))]))
        have hf39 : (0 : Int32) = (0 : Int32) := rfl
        refine GoOn.step (fun t₀ k₀ => XS.ifNo X38.here hx rfl (hb hby at_161) rfl ((if0 _ _).trans (teq hf39).2) k₀) ?_
        show GoOn p e below _ (T38.setTop (mkF m 164 #[.val (.long q0), .second, .val (.long q1), .second, .val (.long q2), .second, .val (.long q3), .second, .val (.int q4), .val (.long (4294967295 : Int64)), .second, .val (.long u), .second, .val (.long v), .second, .val (.long x), .second, .val (.long y), .second, .val (.ref a), .val (.ref b), .val (.int ee), .val (.ref f)] []))
        refine GoOn.step (fun t₀ k₀ => XS.iconst X38.here hx rfl (hb hby at_164) k₀) ?_
        show GoOn p e below _ (T38.setTop (mkF m 165 #[.val (.long q0), .second, .val (.long q1), .second, .val (.long q2), .second, .val (.long q3), .second, .val (.int q4), .val (.long (4294967295 : Int64)), .second, .val (.long u), .second, .val (.long v), .second, .val (.long x), .second, .val (.long y), .second, .val (.ref a), .val (.ref b), .val (.int ee), .val (.ref f)] [(.int (1 : Int32))]))
        refine GoOn.step (fun t₀ k₀ => XS.goto X38.here hx rfl (pc0 := 165) (pc' := 169) rfl (hb hby at_165) (by decide) (by decide) k₀) ?_
        show GoOn p e below _ (T38.setTop (mkF m 169 #[.val (.long q0), .second, .val (.long q1), .second, .val (.long q2), .second, .val (.long q3), .second, .val (.int q4), .val (.long (4294967295 : Int64)), .second, .val (.long u), .second, .val (.long v), .second, .val (.long x), .second, .val (.long y), .second, .val (.ref a), .val (.ref b), .val (.int ee), .val (.ref f)] [(.int (1 : Int32))]))
        exact GoOn.retN X38 hx hrt hlk (by simp) (hb hby at_169) (by decide) (by decide) (by first | exact ⟨rfl, N0⟩ | (rw [e38]; exact ⟨rfl, N0⟩))
      by_cases c0 : u = x
      · refine GoOn.step (fun t₀ k₀ => XS.ifNo X28.here hx rfl (hb hby at_86) rfl ((if0 _ _).trans (teq ((lw_eq _ _).mpr c0)).2) k₀) ?_
        show GoOn p e below _ (T28.setTop (mkF m 89 #[.val (.long q0), .second, .val (.long q1), .second, .val (.long q2), .second, .val (.long q3), .second, .val (.int q4), .val (.long (4294967295 : Int64)), .second, .val (.long u), .second, .val (.long v), .second, .val (.long x), .second, .val (.long y), .second, .val (.ref a), .val (.ref b), .unset, .unset] []))
        refine GoOn.step (fun t₀ k₀ => XS.lload X28.here hx rfl (hb hby at_89) rfl k₀) ?_
        show GoOn p e below _ (T28.setTop (mkF m 91 #[.val (.long q0), .second, .val (.long q1), .second, .val (.long q2), .second, .val (.long q3), .second, .val (.int q4), .val (.long (4294967295 : Int64)), .second, .val (.long u), .second, .val (.long v), .second, .val (.long x), .second, .val (.long y), .second, .val (.ref a), .val (.ref b), .unset, .unset] [(.long v)]))
        refine GoOn.step (fun t₀ k₀ => XS.lload X28.here hx rfl (hb hby at_91) rfl k₀) ?_
        show GoOn p e below _ (T28.setTop (mkF m 93 #[.val (.long q0), .second, .val (.long q1), .second, .val (.long q2), .second, .val (.long q3), .second, .val (.int q4), .val (.long (4294967295 : Int64)), .second, .val (.long u), .second, .val (.long v), .second, .val (.long x), .second, .val (.long y), .second, .val (.ref a), .val (.ref b), .unset, .unset] [(.long y), (.long v)]))
        refine GoOn.step (fun t₀ k₀ => XS.lcmp X28.here hx rfl (hb hby at_93) rfl k₀) ?_
        show GoOn p e below _ (T28.setTop (mkF m 94 #[.val (.long q0), .second, .val (.long q1), .second, .val (.long q2), .second, .val (.long q3), .second, .val (.int q4), .val (.long (4294967295 : Int64)), .second, .val (.long u), .second, .val (.long v), .second, .val (.long x), .second, .val (.long y), .second, .val (.ref a), .val (.ref b), .unset, .unset] [(.int (lcmpW v y))]))
        by_cases c1 : v = y
        · refine GoOn.step (fun t₀ k₀ => XS.ifNo X28.here hx rfl (hb hby at_94) rfl ((if0 _ _).trans (teq ((lw_eq _ _).mpr c1)).2) k₀) ?_
          show GoOn p e below _ (T28.setTop (mkF m 97 #[.val (.long q0), .second, .val (.long q1), .second, .val (.long q2), .second, .val (.long q3), .second, .val (.int q4), .val (.long (4294967295 : Int64)), .second, .val (.long u), .second, .val (.long v), .second, .val (.long x), .second, .val (.long y), .second, .val (.ref a), .val (.ref b), .unset, .unset] []))
          refine GoOn.step (fun t₀ k₀ => XS.iconst X28.here hx rfl (hb hby at_97) k₀) ?_
          show GoOn p e below _ (T28.setTop (mkF m 98 #[.val (.long q0), .second, .val (.long q1), .second, .val (.long q2), .second, .val (.long q3), .second, .val (.int q4), .val (.long (4294967295 : Int64)), .second, .val (.long u), .second, .val (.long v), .second, .val (.long x), .second, .val (.long y), .second, .val (.ref a), .val (.ref b), .unset, .unset] [(.int (1 : Int32))]))
          refine GoOn.step (fun t₀ k₀ => XS.goto X28.here hx rfl (pc0 := 98) (pc' := 102) rfl (hb hby at_98) (by decide) (by decide) k₀) ?_
          show GoOn p e below _ (T28.setTop (mkF m 102 #[.val (.long q0), .second, .val (.long q1), .second, .val (.long q2), .second, .val (.long q3), .second, .val (.int q4), .val (.long (4294967295 : Int64)), .second, .val (.long u), .second, .val (.long v), .second, .val (.long x), .second, .val (.long y), .second, .val (.ref a), .val (.ref b), .unset, .unset] [(.int (1 : Int32))]))
          exact J3 _ (by rw [if_pos c0, if_pos c1])
        · refine GoOn.step (fun t₀ k₀ => XS.ifYes X28.here hx rfl (pc0 := 94) (pc' := 101) rfl (hb hby at_94) rfl ((if0 _ _).trans (feq (mt (lw_eq _ _).mp c1)).2) (by decide) (by decide) k₀) ?_
          show GoOn p e below _ (T28.setTop (mkF m 101 #[.val (.long q0), .second, .val (.long q1), .second, .val (.long q2), .second, .val (.long q3), .second, .val (.int q4), .val (.long (4294967295 : Int64)), .second, .val (.long u), .second, .val (.long v), .second, .val (.long x), .second, .val (.long y), .second, .val (.ref a), .val (.ref b), .unset, .unset] []))
          refine GoOn.step (fun t₀ k₀ => XS.iconst X28.here hx rfl (hb hby at_101) k₀) ?_
          show GoOn p e below _ (T28.setTop (mkF m 102 #[.val (.long q0), .second, .val (.long q1), .second, .val (.long q2), .second, .val (.long q3), .second, .val (.int q4), .val (.long (4294967295 : Int64)), .second, .val (.long u), .second, .val (.long v), .second, .val (.long x), .second, .val (.long y), .second, .val (.ref a), .val (.ref b), .unset, .unset] [(.int (0 : Int32))]))
          exact J3 _ (by rw [if_pos c0, if_neg c1])
      · refine GoOn.step (fun t₀ k₀ => XS.ifYes X28.here hx rfl (pc0 := 86) (pc' := 101) rfl (hb hby at_86) rfl ((if0 _ _).trans (feq (mt (lw_eq _ _).mp c0)).2) (by decide) (by decide) k₀) ?_
        show GoOn p e below _ (T28.setTop (mkF m 101 #[.val (.long q0), .second, .val (.long q1), .second, .val (.long q2), .second, .val (.long q3), .second, .val (.int q4), .val (.long (4294967295 : Int64)), .second, .val (.long u), .second, .val (.long v), .second, .val (.long x), .second, .val (.long y), .second, .val (.ref a), .val (.ref b), .unset, .unset] []))
        refine GoOn.step (fun t₀ k₀ => XS.iconst X28.here hx rfl (hb hby at_101) k₀) ?_
        show GoOn p e below _ (T28.setTop (mkF m 102 #[.val (.long q0), .second, .val (.long q1), .second, .val (.long q2), .second, .val (.long q3), .second, .val (.int q4), .val (.long (4294967295 : Int64)), .second, .val (.long u), .second, .val (.long v), .second, .val (.long x), .second, .val (.long y), .second, .val (.ref a), .val (.ref b), .unset, .unset] [(.int (0 : Int32))]))
        exact J3 _ (by rw [if_neg c0])
    by_cases p1 : (q4 &&& (2 : Int32)) = (0 : Int32)
    · refine GoOn.step (fun t₀ k₀ => XS.ifYes X0.here hx rfl (pc0 := 40) (pc' := 48) rfl (hb hby at_40) rfl ((if0 _ _).trans (teq p1).1) (by decide) (by decide) k₀) ?_
      show GoOn p e below _ (s₁.setTop (mkF m 48 #[.val (.long q0), .second, .val (.long q1), .second, .val (.long q2), .second, .val (.long q3), .second, .val (.int q4), .val (.long (4294967295 : Int64)), .second, .val (.long u), .second, .val (.long v), .second, .val (.long x), .second, .unset, .unset, .unset, .unset, .unset, .unset] []))
      refine GoOn.step (fun t₀ k₀ => XS.lload X0.here hx rfl (hb hby at_48) rfl k₀) ?_
      show GoOn p e below _ (s₁.setTop (mkF m 50 #[.val (.long q0), .second, .val (.long q1), .second, .val (.long q2), .second, .val (.long q3), .second, .val (.int q4), .val (.long (4294967295 : Int64)), .second, .val (.long u), .second, .val (.long v), .second, .val (.long x), .second, .unset, .unset, .unset, .unset, .unset, .unset] [(.long q3)]))
      refine GoOn.step (fun t₀ k₀ => XS.lload X0.here hx rfl (hb hby at_50) rfl k₀) ?_
      show GoOn p e below _ (s₁.setTop (mkF m 52 #[.val (.long q0), .second, .val (.long q1), .second, .val (.long q2), .second, .val (.long q3), .second, .val (.int q4), .val (.long (4294967295 : Int64)), .second, .val (.long u), .second, .val (.long v), .second, .val (.long x), .second, .unset, .unset, .unset, .unset, .unset, .unset] [(.long (4294967295 : Int64)), (.long q3)]))
      refine GoOn.step (fun t₀ k₀ => XS.land X0.here hx rfl (hb hby at_52) rfl k₀) ?_
      show GoOn p e below _ (s₁.setTop (mkF m 53 #[.val (.long q0), .second, .val (.long q1), .second, .val (.long q2), .second, .val (.long q3), .second, .val (.int q4), .val (.long (4294967295 : Int64)), .second, .val (.long u), .second, .val (.long v), .second, .val (.long x), .second, .unset, .unset, .unset, .unset, .unset, .unset] [(.long (q3 &&& (4294967295 : Int64)))]))
      generalize h_s2 : (q3 &&& (4294967295 : Int64)) = s2
      have h_s2I := congrArg Int64.toInt h_s2
      have r2 : ¬ s2 < 0 ∧ ¬ (4294967295 : Int64) < s2 ∧ 0 ≤ s2.toInt := by
        have hm : (q3 &&& (4294967295 : Int64)).toInt = q3.toInt % 4294967296 := c_maskL q3 4294967295 32 (by decide) (by decide)
        rw [h_s2] at hm
        simp only [Int64.lt_iff_toInt_lt, Int64.reduceToInt]; omega
      exact J2 _ r2
    · refine GoOn.step (fun t₀ k₀ => XS.ifNo X0.here hx rfl (hb hby at_40) rfl ((if0 _ _).trans (feq p1).1) k₀) ?_
      show GoOn p e below _ (s₁.setTop (mkF m 43 #[.val (.long q0), .second, .val (.long q1), .second, .val (.long q2), .second, .val (.long q3), .second, .val (.int q4), .val (.long (4294967295 : Int64)), .second, .val (.long u), .second, .val (.long v), .second, .val (.long x), .second, .unset, .unset, .unset, .unset, .unset, .unset] []))
      refine GoOn.step (fun t₀ k₀ => XS.lload X0.here hx rfl (hb hby at_43) rfl k₀) ?_
      show GoOn p e below _ (s₁.setTop (mkF m 45 #[.val (.long q0), .second, .val (.long q1), .second, .val (.long q2), .second, .val (.long q3), .second, .val (.int q4), .val (.long (4294967295 : Int64)), .second, .val (.long u), .second, .val (.long v), .second, .val (.long x), .second, .unset, .unset, .unset, .unset, .unset, .unset] [(.long v)]))
      refine GoOn.step (fun t₀ k₀ => XS.goto X0.here hx rfl (pc0 := 45) (pc' := 53) rfl (hb hby at_45) (by decide) (by decide) k₀) ?_
      show GoOn p e below _ (s₁.setTop (mkF m 53 #[.val (.long q0), .second, .val (.long q1), .second, .val (.long q2), .second, .val (.long q3), .second, .val (.int q4), .val (.long (4294967295 : Int64)), .second, .val (.long u), .second, .val (.long v), .second, .val (.long x), .second, .unset, .unset, .unset, .unset, .unset, .unset] [(.long v)]))
      exact J2 _ rv
  by_cases p0 : (q4 &&& (1 : Int32)) = (0 : Int32)
  · refine GoOn.step (fun t₀ k₀ => XS.ifYes X0.here hx rfl (pc0 := 21) (pc' := 29) rfl (hb hby at_21) rfl ((if0 _ _).trans (teq p0).1) (by decide) (by decide) k₀) ?_
    show GoOn p e below _ (s₁.setTop (mkF m 29 #[.val (.long q0), .second, .val (.long q1), .second, .val (.long q2), .second, .val (.long q3), .second, .val (.int q4), .val (.long (4294967295 : Int64)), .second, .val (.long u), .second, .val (.long v), .second, .unset, .unset, .unset, .unset, .unset, .unset, .unset, .unset] []))
    refine GoOn.step (fun t₀ k₀ => XS.lload X0.here hx rfl (hb hby at_29) rfl k₀) ?_
    show GoOn p e below _ (s₁.setTop (mkF m 31 #[.val (.long q0), .second, .val (.long q1), .second, .val (.long q2), .second, .val (.long q3), .second, .val (.int q4), .val (.long (4294967295 : Int64)), .second, .val (.long u), .second, .val (.long v), .second, .unset, .unset, .unset, .unset, .unset, .unset, .unset, .unset] [(.long q2)]))
    refine GoOn.step (fun t₀ k₀ => XS.lload X0.here hx rfl (hb hby at_31) rfl k₀) ?_
    show GoOn p e below _ (s₁.setTop (mkF m 33 #[.val (.long q0), .second, .val (.long q1), .second, .val (.long q2), .second, .val (.long q3), .second, .val (.int q4), .val (.long (4294967295 : Int64)), .second, .val (.long u), .second, .val (.long v), .second, .unset, .unset, .unset, .unset, .unset, .unset, .unset, .unset] [(.long (4294967295 : Int64)), (.long q2)]))
    refine GoOn.step (fun t₀ k₀ => XS.land X0.here hx rfl (hb hby at_33) rfl k₀) ?_
    show GoOn p e below _ (s₁.setTop (mkF m 34 #[.val (.long q0), .second, .val (.long q1), .second, .val (.long q2), .second, .val (.long q3), .second, .val (.int q4), .val (.long (4294967295 : Int64)), .second, .val (.long u), .second, .val (.long v), .second, .unset, .unset, .unset, .unset, .unset, .unset, .unset, .unset] [(.long (q2 &&& (4294967295 : Int64)))]))
    generalize h_s2 : (q2 &&& (4294967295 : Int64)) = s2
    have h_s2I := congrArg Int64.toInt h_s2
    have r2 : ¬ s2 < 0 ∧ ¬ (4294967295 : Int64) < s2 ∧ 0 ≤ s2.toInt := by
      have hm : (q2 &&& (4294967295 : Int64)).toInt = q2.toInt % 4294967296 := c_maskL q2 4294967295 32 (by decide) (by decide)
      rw [h_s2] at hm
      simp only [Int64.lt_iff_toInt_lt, Int64.reduceToInt]; omega
    exact J1 _ r2
  · refine GoOn.step (fun t₀ k₀ => XS.ifNo X0.here hx rfl (hb hby at_21) rfl ((if0 _ _).trans (feq p0).1) k₀) ?_
    show GoOn p e below _ (s₁.setTop (mkF m 24 #[.val (.long q0), .second, .val (.long q1), .second, .val (.long q2), .second, .val (.long q3), .second, .val (.int q4), .val (.long (4294967295 : Int64)), .second, .val (.long u), .second, .val (.long v), .second, .unset, .unset, .unset, .unset, .unset, .unset, .unset, .unset] []))
    refine GoOn.step (fun t₀ k₀ => XS.lload X0.here hx rfl (hb hby at_24) rfl k₀) ?_
    show GoOn p e below _ (s₁.setTop (mkF m 26 #[.val (.long q0), .second, .val (.long q1), .second, .val (.long q2), .second, .val (.long q3), .second, .val (.int q4), .val (.long (4294967295 : Int64)), .second, .val (.long u), .second, .val (.long v), .second, .unset, .unset, .unset, .unset, .unset, .unset, .unset, .unset] [(.long u)]))
    refine GoOn.step (fun t₀ k₀ => XS.goto X0.here hx rfl (pc0 := 26) (pc' := 34) rfl (hb hby at_26) (by decide) (by decide) k₀) ?_
    show GoOn p e below _ (s₁.setTop (mkF m 34 #[.val (.long q0), .second, .val (.long q1), .second, .val (.long q2), .second, .val (.long q3), .second, .val (.int q4), .val (.long (4294967295 : Int64)), .second, .val (.long u), .second, .val (.long v), .second, .unset, .unset, .unset, .unset, .unset, .unset, .unset, .unset] [(.long u)]))
    exact J1 _ ru
theorem cal_of {s : State} {args : Array Value} (hsets : ∀ d ∈ jdkStatics_1, d.before args s = true) : CaL s := by
  have w2 := Cond.before_iff.mp (hsets _ (List.mem_of_getElem? (i := 2) rfl))
  obtain ⟨ca, ev⟩ := arr_v w2
  obtain ⟨c, A⟩ := Arr.start ev w2
  have ha := A.fin (Vm.Alike.refl _)
  have w4 := own_len ev ha (Cond.before_iff.mp (hsets _ (List.mem_of_getElem? (i := 4) rfl)))
  have hl : c.slots.size = 256 := own_nat w4.1 w4.2 (by decide)
  have w5 := Cond.all_elim ev ha (Cond.before_iff.mp (hsets _ (List.mem_of_getElem? (i := 5) rfl)))
  have hb : ∀ i, i < 256 → ∃ b, c.slots[i]? = some (.ref b) ∧ Exa s s.heap b "java/lang/Long" := fun i hi => own_elem ev A.1 (by omega) (and_e (w5 i (by rw [hl]; exact hi))).1
  refine ⟨ca, fun i => if q : i < 256 then Classical.choose (hb i q) else 0, Sta.start ev (Or.inl (hsets _ (List.mem_of_getElem? (i := 1) rfl))), ⟨c, A, hl, fun i hi => ?_⟩, fun i hi => ?_⟩
  · dsimp only; rw [dif_pos hi]; exact (Classical.choose_spec (hb i hi)).1
  · dsimp only; rw [dif_pos hi]; exact (Classical.choose_spec (hb i hi)).2
set_option maxRecDepth 65536 in
set_option maxHeartbeats 40000000 in
theorem comes_1 {Post : Tables → Env → Array Value → State → Outcome → State → Prop} (hpost : ∀ tb e args s v u, (limb_1_1.after args s (.returned v) u = true ∧ limb_1_2.after args s (.returned v) u = true ∧ True) → FrameEnd s (.returned v) u (Jvm.fieldLocs frame_1_writes args s ++ Jvm.arrayLocs frame_1_arrays args s ++ Jvm.staticLocs frame_1_statics s) 16 128 → Post tb e args s (.returned v) u) :
    ArmFor flags0 classFile x code maxLocals ret World_1 tables_1 room_1 Calls_1 rest_1 Pre_1 Post := by
  intro l hfl _ _ p e ha hc hk s m args below hf hA hF happ hP
  obtain ⟨hcalls, hrest, hpre⟩ := hP
  obtain ⟨-, -, -, hnamed, -, -, -, hat⟩ := (Spec.applies_iff hf).mp happ
  obtain ⟨hg, hn⟩ := and_e (Cond.before_iff.mp (show (Jvm.Cond.and given_1 narrow_1).before args s = true from hpre))
  obtain ⟨g0, r0⟩ := and_e hg
  obtain ⟨g1, r1⟩ := and_e r0
  obtain ⟨g2, r2⟩ := and_e r1
  obtain ⟨g3, r3⟩ := and_e r2
  obtain ⟨g4, r4⟩ := and_e r3
  obtain ⟨w0, w1, w2, w3, w4, rfl⟩ : ∃ w0 w1 w2 w3 w4 : Value, args = #[w0, w1, w2, w3, w4] := by
    have hs : args.size = 5 := by simpa [Cond.value, given_1] using g0
    obtain ⟨L⟩ := args
    match L, hs with
    | [w0, w1, w2, w3, w4], _ => exact ⟨w0, w1, w2, w3, w4, rfl⟩
  have hw := fun d (hd : d ∈ tables_1) => atoms_spec (ws := Jvm.Cond.code x code maxLocals ret :: tables_1) hat d (List.mem_cons_of_mem _ hd)
  have hfit : Fit s := fun {y c} hc i hi => by
    obtain ⟨ha, rfl⟩ := Array.getElem?_eq_some_iff.mp hc
    have q := List.all_eq_true.mp ((Array.all_eq_true_iff_forall_mem.mp hF) _ (Array.getElem_mem ha)) i (List.mem_range.mpr hi)
    simpa [Array.getElem?_eq_getElem hi] using q
  obtain ⟨hsets, hown0⟩ := atoms_of _ (rest_1_c_eq ▸ (show rest_1_c.before _ s = true from hrest))
  have hr0 := Cond.before_iff.mp hown0
  obtain ⟨i0, ei0⟩ := isL_v g1
  obtain rfl : w0 = (.long i0) := Option.some.inj ei0
  obtain ⟨i1, ei1⟩ := isL_v g2
  obtain rfl : w1 = (.long i1) := Option.some.inj ei1
  obtain ⟨i2, ei2⟩ := isL_v g3
  obtain rfl : w2 = (.long i2) := Option.some.inj ei2
  obtain ⟨i3, ei3⟩ := isL_v g4
  obtain rfl : w3 = (.long i3) := Option.some.inj ei3
  obtain ⟨i4, ei4⟩ := is_v r4
  obtain rfl : w4 = (.int i4) := Option.some.inj ei4
  obtain ⟨n, o, h1, h2, h3, _, L, rfl, ⟨rfl, N⟩, hq⟩ := law_ok l s _ hw i0 i1 i2 i3 i4 s.heap s.heap.size (Nat.le_refl _) (Old.start s) (cal_of hsets) tables_1 p e ha hc hk s m _ below hf ((Spec.applies_iff_loose hf).mp happ).1 ⟨rfl, State.Warmed39.refl s, rfl⟩ trivial
  refine ⟨n, _, h1, h2, h3, hpost _ _ _ _ _ _ ⟨Cond.after_iff.mpr rfl, Cond.after_iff.mpr (eq_i res_at (Term.int_eval (1)) rfl), trivial⟩ ⟨hq.1, hq.2.1, (hq.2.2.sift fun y hy => Or.inr (N y hy)).mono (by decide) (by decide)⟩⟩
theorem main_1_1 : Claimed_1_1 := comes_1 fun _ _ _ _ _ _ h hF => ⟨h.1, hF⟩
theorem main_1_2 : Claimed_1_2 := comes_1 fun _ _ _ _ _ _ h hF => ⟨h.2.1, hF⟩
end Jvm.Pilot.@@N@@
namespace Jvm.Pilot.@@N@@
open Jvm Jvm.ClassFile Sem Op Lib Jvm.Free Jvm.Stand Jvm.Pilot.@@N@@.Jvm.D
/-! MADE BY PROGRAM (witnessworld.py) out of the Statement's table words and the real class files: 14 classes; the members and pool entries that the words name. The judged class is class 1, her method 1. -/
namespace start1
open Jvm.ClassFile
def u (s : String) : CpInfo := .utf8 (stringToUtf16 s)
/-- a pool by its gaps: so many unusable entries, then the entry; so many at the end -/
def gap : Nat → List CpInfo → List CpInfo
  | 0, r => r
  | n + 1, r => .unusable :: gap n r
def poolList (es : List (Nat × CpInfo)) (last : Nat) : List CpInfo := es.foldr (fun e r => gap e.1 (e.2 :: r)) (gap last [])
def pool (es : List (Nat × CpInfo)) (last : Nat) : Array CpInfo := ⟨poolList es last⟩
def fileOf (pool : Array CpInfo) (this : Nat) (attrs : Array Attribute := #[]) (ms : Array MethodInfo := #[]) (fl : Nat := 33) (sup : Nat := 0) (ifs : Array Nat := #[]) (fds : Array FieldInfo := #[]) : ClassFile where
  minorVersion := 0
  majorVersion := 65
  constantPool := pool
  accessFlags := fl
  thisClass := this
  superClass := sup
  interfaces := ifs
  fields := fds
  methods := ms
  attributes := attrs
def plain (name : String) (sup : Option ClassId) : Class where
  name := name
  kind := .ordinary
  loader := none
  accessFlags := 33
  super := sup
  interfaces := #[]
  cf := none
  fields := #[]
  methods := #[]
  instanceTypes := #[]
  staticTypes := #[]
  resolved := #[]
  callSites := []
  init := .initialized
  statics := none
  mirror := none

def pool0 : Array CpInfo := pool [(5, u "<init>"), (0, u "()V"), (1, .class_ 10), (1, u "java/lang/Object")] 113

def k0c0 : Code := { maxStack := 0, maxLocals := 1, code := object_method_1_code, exceptionTable := #[], attributes := #[] }
def k0m0 : Method := { name := "<init>", desc := "()V", sig := { parameters := [], returnType := none }, accessFlags := 1, code := some k0c0 }
/-- java/lang/Object -/
def k0 : Class := { plain "java/lang/Object" none with
  accessFlags := 33
  interfaces := #[]
  cf := some (fileOf pool0 8 #[] #[{ accessFlags := 1, nameIndex := 5, descriptorIndex := 6, attributes := #[] }] 33 0 #[] #[])
  fields := #[]
  methods := #[k0m0]
  instanceTypes := #[]
  staticTypes := #[]
  resolved := Array.replicate 124 none
  statics := none }

def pool1 : Array CpInfo := pool [(2, .class_ 4), (1, u "java/lang/Object"), (0, u "<init>"), (0, u "()V"), (0, .long 4294967295), (1, .class_ 10), (0, u "com/example/tidewire/tidewire/session/KeepaliveStamp"), (0, .methodref 9 12), (0, .nameAndType 5 13), (0, u "(JJ)V"), (0, .methodref 15 16), (0, .class_ 17), (0, .nameAndType 18 19), (0, u "java/lang/Long"), (0, u "valueOf"), (0, u "(J)Ljava/lang/Long;"), (0, .methodref 9 21), (0, .nameAndType 22 23), (0, u "equals"), (0, u "(Ljava/lang/Object;)Z"), (0, .class_ 25), (0, u "com/example/tidewire/tidewire/session/KeepaliveStampEqualsPinLaw"), (2, u "law"), (0, u "(JJJJI)Z")] 3

def k1m0 : Method := { name := "<init>", desc := "()V", sig := { parameters := [], returnType := none }, accessFlags := 1, code := none }
def k1c1 : Code := { maxStack := 6, maxLocals := 23, code := code, exceptionTable := #[], attributes := #[] }
def k1m1 : Method := { name := "law", desc := "(JJJJI)Z", sig := { parameters := [.long, .long, .long, .long, .int], returnType := some .boolean }, accessFlags := 9, code := some k1c1 }
/-- com/example/tidewire/tidewire/session/KeepaliveStampEqualsPinLaw -/
def k1 : Class := { plain "com/example/tidewire/tidewire/session/KeepaliveStampEqualsPinLaw" (some 0) with
  accessFlags := 49
  interfaces := #[]
  cf := some (fileOf pool1 24 #[] #[{ accessFlags := 1, nameIndex := 5, descriptorIndex := 6, attributes := #[] }, { accessFlags := 9, nameIndex := 28, descriptorIndex := 29, attributes := #[] }] 49 2 #[] #[])
  fields := #[]
  methods := #[k1m0, k1m1]
  instanceTypes := #[]
  staticTypes := #[]
  resolved := Array.replicate 33 none
  statics := none }

def pool2 : Array CpInfo := pool [(1, .methodref 2 3), (0, .class_ 4), (0, .nameAndType 5 6), (0, u "java/lang/Object"), (0, u "<init>"), (0, u "()V"), (0, .class_ 8), (0, u "com/example/tidewire/tidewire/session/KeepaliveStamp"), (0, .long 4294967295), (10, .fieldref 7 21), (0, .nameAndType 22 23), (0, u "seconds"), (0, u "J"), (0, .fieldref 7 25), (0, .nameAndType 26 23), (0, u "nanoseconds"), (12, u "(JJ)V"), (29, u "MAX_U32"), (12, u "equals"), (0, u "(Ljava/lang/Object;)Z")] 21

def k2c0 : Code := { maxStack := 6, maxLocals := 5, code := prog_66_method_1_code, exceptionTable := #[], attributes := #[] }
def k2m0 : Method := { name := "<init>", desc := "(JJ)V", sig := { parameters := [.long, .long], returnType := none }, accessFlags := 1, code := some k2c0 }
def k2c1 : Code := { maxStack := 4, maxLocals := 3, code := prog_66_method_7_code, exceptionTable := #[], attributes := #[] }
def k2m1 : Method := { name := "equals", desc := "(Ljava/lang/Object;)Z", sig := { parameters := [(.object "java/lang/Object")], returnType := some .boolean }, accessFlags := 1, code := some k2c1 }
/-- com/example/tidewire/tidewire/session/KeepaliveStamp -/
def k2 : Class := { plain "com/example/tidewire/tidewire/session/KeepaliveStamp" (some 0) with
  accessFlags := 49
  interfaces := #[]
  cf := some (fileOf pool2 7 #[] #[{ accessFlags := 1, nameIndex := 5, descriptorIndex := 39, attributes := #[] }, { accessFlags := 1, nameIndex := 82, descriptorIndex := 83, attributes := #[] }] 49 2 #[] #[{ accessFlags := 26, nameIndex := 69, descriptorIndex := 23, attributes := #[] }, { accessFlags := 18, nameIndex := 22, descriptorIndex := 23, attributes := #[] }, { accessFlags := 18, nameIndex := 26, descriptorIndex := 23, attributes := #[] }])
  fields := #[{ name := "MAX_U32", type := .long, accessFlags := 26, slot := 0, constantValue := 0 }, { name := "seconds", type := .long, accessFlags := 18, slot := 0, constantValue := 0 }, { name := "nanoseconds", type := .long, accessFlags := 18, slot := 1, constantValue := 0 }]
  methods := #[k2m0, k2m1]
  instanceTypes := #[.long, .long]
  staticTypes := #[.long]
  resolved := Array.replicate 105 none
  statics := none }

def pool3 : Array CpInfo := pool [(1, .class_ 2), (0, u "java/io/Serializable"), (0, .class_ 4), (0, u "java/lang/Object")] 2

/-- java/io/Serializable -/
def k3 : Class := { plain "java/io/Serializable" (some 0) with
  accessFlags := 1537
  interfaces := #[]
  cf := some (fileOf pool3 1 #[] #[] 1537 3 #[] #[])
  fields := #[]
  methods := #[]
  instanceTypes := #[]
  staticTypes := #[]
  resolved := Array.replicate 7 none
  statics := none }

def pool4 : Array CpInfo := pool [(1, .methodref 2 3), (0, .class_ 4), (0, .nameAndType 5 6), (0, u "java/lang/Object"), (0, u "<init>"), (0, u "()V"), (1, .class_ 10), (1, u "java/lang/Number"), (2, .class_ 14), (0, u "java/io/Serializable"), (0, u "serialVersionUID"), (0, u "J")] 20

def k4c0 : Code := { maxStack := 1, maxLocals := 1, code := jdk_18_method_1_code, exceptionTable := #[], attributes := #[] }
def k4m0 : Method := { name := "<init>", desc := "()V", sig := { parameters := [], returnType := none }, accessFlags := 1, code := some k4c0 }
/-- java/lang/Number -/
def k4 : Class := { plain "java/lang/Number" (some 0) with
  accessFlags := 1057
  interfaces := #[3]
  cf := some (fileOf pool4 8 #[] #[{ accessFlags := 1, nameIndex := 5, descriptorIndex := 6, attributes := #[] }] 1057 2 #[13] #[{ accessFlags := 26, nameIndex := 15, descriptorIndex := 16, attributes := #[] }])
  fields := #[{ name := "serialVersionUID", type := .long, accessFlags := 26, slot := 0, constantValue := 0 }]
  methods := #[k4m0]
  instanceTypes := #[]
  staticTypes := #[.long]
  resolved := Array.replicate 37 none
  statics := none }

def pool5 : Array CpInfo := pool [(1, .class_ 2), (0, u "java/lang/Comparable"), (0, .class_ 4), (0, u "java/lang/Object")] 7

/-- java/lang/Comparable -/
def k5 : Class := { plain "java/lang/Comparable" (some 0) with
  accessFlags := 1537
  interfaces := #[]
  cf := some (fileOf pool5 1 #[] #[] 1537 3 #[] #[])
  fields := #[]
  methods := #[]
  instanceTypes := #[]
  staticTypes := #[]
  resolved := Array.replicate 12 none
  statics := none }

def pool6 : Array CpInfo := pool [(1, .class_ 2), (0, u "java/lang/constant/Constable"), (0, .class_ 4), (0, u "java/lang/Object")] 6

/-- java/lang/constant/Constable -/
def k6 : Class := { plain "java/lang/constant/Constable" (some 0) with
  accessFlags := 1537
  interfaces := #[]
  cf := some (fileOf pool6 1 #[] #[] 1537 3 #[] #[])
  fields := #[]
  methods := #[]
  instanceTypes := #[]
  staticTypes := #[]
  resolved := Array.replicate 11 none
  statics := none }

def pool7 : Array CpInfo := pool [(1, .class_ 2), (0, u "java/lang/constant/ConstantDesc"), (0, .class_ 4), (0, u "java/lang/Object")] 32

/-- java/lang/constant/ConstantDesc -/
def k7 : Class := { plain "java/lang/constant/ConstantDesc" (some 0) with
  accessFlags := 1537
  interfaces := #[]
  cf := some (fileOf pool7 1 #[] #[] 1537 3 #[] #[])
  fields := #[]
  methods := #[]
  instanceTypes := #[]
  staticTypes := #[]
  resolved := Array.replicate 37 none
  statics := none }

def pool8 : Array CpInfo := pool [(1, .class_ 2), (0, u "java/lang/Long"), (55, .nameAndType 59 60), (0, u "<init>"), (0, u "()V"), (24, u "valueOf"), (143, u "(J)Ljava/lang/Long;"), (0, .long 18446744073709551488), (1, .long 127), (1, .fieldref 235 236), (0, .class_ 237), (0, .nameAndType 238 239), (0, u "java/lang/Long$LongCache"), (0, u "cache"), (0, u "[Ljava/lang/Long;"), (0, .methodref 1 241), (0, .nameAndType 59 242), (0, u "(J)V"), (27, .methodref 271 58), (0, .class_ 272), (0, u "java/lang/Number"), (0, .fieldref 1 274), (0, .nameAndType 275 276), (0, u "value"), (0, u "J"), (84, u "TYPE"), (0, u "Ljava/lang/Class;"), (0, .class_ 364), (0, u "java/lang/Comparable"), (0, .class_ 366), (0, u "java/lang/constant/Constable"), (0, .class_ 368), (0, u "java/lang/constant/ConstantDesc"), (0, u "MIN_VALUE"), (1, u "MAX_VALUE"), (4, u "SIZE"), (0, u "I"), (1, u "BYTES"), (1, u "serialVersionUID")] 142

def k8c0 : Code := { maxStack := 4, maxLocals := 3, code := jdk_35_method_24_code, exceptionTable := #[], attributes := #[] }
def k8m0 : Method := { name := "valueOf", desc := "(J)Ljava/lang/Long;", sig := { parameters := [.long], returnType := some (.object "java/lang/Long") }, accessFlags := 9, code := some k8c0 }
def k8c1 : Code := { maxStack := 3, maxLocals := 3, code := jdk_35_method_26_code, exceptionTable := #[], attributes := #[] }
def k8m1 : Method := { name := "<init>", desc := "(J)V", sig := { parameters := [.long], returnType := none }, accessFlags := 1, code := some k8c1 }
/-- java/lang/Long -/
def k8 : Class := { plain "java/lang/Long" (some 4) with
  accessFlags := 49
  interfaces := #[5, 6, 7]
  cf := some (fileOf pool8 1 #[.nestMembers #[235]] #[{ accessFlags := 9, nameIndex := 85, descriptorIndex := 229, attributes := #[] }, { accessFlags := 1, nameIndex := 59, descriptorIndex := 242, attributes := #[] }] 49 271 #[363, 365, 367] #[{ accessFlags := 25, nameIndex := 369, descriptorIndex := 276, attributes := #[] }, { accessFlags := 25, nameIndex := 371, descriptorIndex := 276, attributes := #[] }, { accessFlags := 25, nameIndex := 361, descriptorIndex := 362, attributes := #[] }, { accessFlags := 18, nameIndex := 275, descriptorIndex := 276, attributes := #[] }, { accessFlags := 25, nameIndex := 376, descriptorIndex := 377, attributes := #[] }, { accessFlags := 25, nameIndex := 379, descriptorIndex := 377, attributes := #[] }, { accessFlags := 26, nameIndex := 381, descriptorIndex := 276, attributes := #[] }])
  fields := #[{ name := "MIN_VALUE", type := .long, accessFlags := 25, slot := 0, constantValue := 0 }, { name := "MAX_VALUE", type := .long, accessFlags := 25, slot := 1, constantValue := 0 }, { name := "TYPE", type := (.object "java/lang/Class"), accessFlags := 25, slot := 2, constantValue := 0 }, { name := "value", type := .long, accessFlags := 18, slot := 0, constantValue := 0 }, { name := "SIZE", type := .int, accessFlags := 25, slot := 3, constantValue := 0 }, { name := "BYTES", type := .int, accessFlags := 25, slot := 4, constantValue := 0 }, { name := "serialVersionUID", type := .long, accessFlags := 26, slot := 5, constantValue := 0 }]
  methods := #[k8m0, k8m1]
  instanceTypes := #[.long]
  staticTypes := #[.long, .long, (.object "java/lang/Class"), .int, .int, .long]
  resolved := Array.replicate 524 none
  statics := none }

def pool9 : Array CpInfo := pool [(2, .class_ 4), (1, u "java/lang/Object"), (0, u "<init>"), (0, u "()V"), (0, .class_ 8), (0, u "java/lang/Long"), (7, .class_ 18), (1, u "java/lang/Long$LongCache"), (0, u "$assertionsDisabled"), (0, u "Z"), (8, u "archivedCache"), (0, u "[Ljava/lang/Long;"), (7, u "cache")] 24

def k9m0 : Method := { name := "<init>", desc := "()V", sig := { parameters := [], returnType := none }, accessFlags := 2, code := none }
/-- java/lang/Long$LongCache -/
def k9 : Class := { plain "java/lang/Long$LongCache" (some 0) with
  accessFlags := 48
  interfaces := #[]
  cf := some (fileOf pool9 16 #[.nestHost 7] #[{ accessFlags := 2, nameIndex := 5, descriptorIndex := 6, attributes := #[] }] 48 2 #[] #[{ accessFlags := 24, nameIndex := 38, descriptorIndex := 30, attributes := #[] }, { accessFlags := 8, nameIndex := 29, descriptorIndex := 30, attributes := #[] }, { accessFlags := 4120, nameIndex := 19, descriptorIndex := 20, attributes := #[] }])
  fields := #[{ name := "cache", type := (.array (.object "java/lang/Long")), accessFlags := 24, slot := 0, constantValue := 0 }, { name := "archivedCache", type := (.array (.object "java/lang/Long")), accessFlags := 8, slot := 1, constantValue := 0 }, { name := "$assertionsDisabled", type := .boolean, accessFlags := 4120, slot := 2, constantValue := 0 }]
  methods := #[k9m0]
  instanceTypes := #[]
  staticTypes := #[(.array (.object "java/lang/Long")), (.array (.object "java/lang/Long")), .boolean]
  resolved := Array.replicate 63 none
  statics := some 0 }

def pool10 : Array CpInfo := pool [(1, u "java/lang/Cloneable"), (0, .class_ 1), (0, u "java/lang/Object"), (0, .class_ 3)] 3

/-- java/lang/Cloneable -/
def k10 : Class := { plain "java/lang/Cloneable" (some 0) with
  accessFlags := 1537
  interfaces := #[]
  cf := some (fileOf pool10 2 #[] #[] 1537 4 #[] #[])
  fields := #[]
  methods := #[]
  instanceTypes := #[]
  staticTypes := #[]
  resolved := Array.replicate 8 none
  statics := none }

/-- the primitive byte -/
def k11 : Class := { plain "byte" none with kind := .primitive 'B', accessFlags := 0x411 }
/-- [B -/
def k12 : Class := { plain "[B" (some 0) with kind := .array 11 .byte, interfaces := #[10, 3], accessFlags := 1041 }

/-- [Ljava/lang/Long; -/
def k13 : Class := { plain "[Ljava/lang/Long;" (some 0) with kind := .array 8 (.object "java/lang/Long"), interfaces := #[10, 3], accessFlags := 1041 }

def heap : Heap := #[{ cls := 9, slots := #[.ref 1, .null, .int 0], vm := .statics 9 },
  { cls := 13, slots := #[.ref 2, .ref 3, .ref 4, .ref 5, .ref 6, .ref 7, .ref 8, .ref 9, .ref 10, .ref 11, .ref 12, .ref 13, .ref 14, .ref 15, .ref 16, .ref 17, .ref 18, .ref 19, .ref 20, .ref 21, .ref 22, .ref 23, .ref 24, .ref 25, .ref 26, .ref 27, .ref 28, .ref 29, .ref 30, .ref 31, .ref 32, .ref 33, .ref 34, .ref 35, .ref 36, .ref 37, .ref 38, .ref 39, .ref 40, .ref 41, .ref 42, .ref 43, .ref 44, .ref 45, .ref 46, .ref 47, .ref 48, .ref 49, .ref 50, .ref 51, .ref 52, .ref 53, .ref 54, .ref 55, .ref 56, .ref 57, .ref 58, .ref 59, .ref 60, .ref 61, .ref 62, .ref 63, .ref 64, .ref 65, .ref 66, .ref 67, .ref 68, .ref 69, .ref 70, .ref 71, .ref 72, .ref 73, .ref 74, .ref 75, .ref 76, .ref 77, .ref 78, .ref 79, .ref 80, .ref 81, .ref 82, .ref 83, .ref 84, .ref 85, .ref 86, .ref 87, .ref 88, .ref 89, .ref 90, .ref 91, .ref 92, .ref 93, .ref 94, .ref 95, .ref 96, .ref 97, .ref 98, .ref 99, .ref 100, .ref 101, .ref 102, .ref 103, .ref 104, .ref 105, .ref 106, .ref 107, .ref 108, .ref 109, .ref 110, .ref 111, .ref 112, .ref 113, .ref 114, .ref 115, .ref 116, .ref 117, .ref 118, .ref 119, .ref 120, .ref 121, .ref 122, .ref 123, .ref 124, .ref 125, .ref 126, .ref 127, .ref 128, .ref 129, .ref 130, .ref 131, .ref 132, .ref 133, .ref 134, .ref 135, .ref 136, .ref 137, .ref 138, .ref 139, .ref 140, .ref 141, .ref 142, .ref 143, .ref 144, .ref 145, .ref 146, .ref 147, .ref 148, .ref 149, .ref 150, .ref 151, .ref 152, .ref 153, .ref 154, .ref 155, .ref 156, .ref 157, .ref 158, .ref 159, .ref 160, .ref 161, .ref 162, .ref 163, .ref 164, .ref 165, .ref 166, .ref 167, .ref 168, .ref 169, .ref 170, .ref 171, .ref 172, .ref 173, .ref 174, .ref 175, .ref 176, .ref 177, .ref 178, .ref 179, .ref 180, .ref 181, .ref 182, .ref 183, .ref 184, .ref 185, .ref 186, .ref 187, .ref 188, .ref 189, .ref 190, .ref 191, .ref 192, .ref 193, .ref 194, .ref 195, .ref 196, .ref 197, .ref 198, .ref 199, .ref 200, .ref 201, .ref 202, .ref 203, .ref 204, .ref 205, .ref 206, .ref 207, .ref 208, .ref 209, .ref 210, .ref 211, .ref 212, .ref 213, .ref 214, .ref 215, .ref 216, .ref 217, .ref 218, .ref 219, .ref 220, .ref 221, .ref 222, .ref 223, .ref 224, .ref 225, .ref 226, .ref 227, .ref 228, .ref 229, .ref 230, .ref 231, .ref 232, .ref 233, .ref 234, .ref 235, .ref 236, .ref 237, .ref 238, .ref 239, .ref 240, .ref 241, .ref 242, .ref 243, .ref 244, .ref 245, .ref 246, .ref 247, .ref 248, .ref 249, .ref 250, .ref 251, .ref 252, .ref 253, .ref 254, .ref 255, .ref 256, .ref 257], vm := .none },
  { cls := 8, slots := #[.long (-128)], vm := .none },
  { cls := 8, slots := #[.long (-127)], vm := .none },
  { cls := 8, slots := #[.long (-126)], vm := .none },
  { cls := 8, slots := #[.long (-125)], vm := .none },
  { cls := 8, slots := #[.long (-124)], vm := .none },
  { cls := 8, slots := #[.long (-123)], vm := .none },
  { cls := 8, slots := #[.long (-122)], vm := .none },
  { cls := 8, slots := #[.long (-121)], vm := .none },
  { cls := 8, slots := #[.long (-120)], vm := .none },
  { cls := 8, slots := #[.long (-119)], vm := .none },
  { cls := 8, slots := #[.long (-118)], vm := .none },
  { cls := 8, slots := #[.long (-117)], vm := .none },
  { cls := 8, slots := #[.long (-116)], vm := .none },
  { cls := 8, slots := #[.long (-115)], vm := .none },
  { cls := 8, slots := #[.long (-114)], vm := .none },
  { cls := 8, slots := #[.long (-113)], vm := .none },
  { cls := 8, slots := #[.long (-112)], vm := .none },
  { cls := 8, slots := #[.long (-111)], vm := .none },
  { cls := 8, slots := #[.long (-110)], vm := .none },
  { cls := 8, slots := #[.long (-109)], vm := .none },
  { cls := 8, slots := #[.long (-108)], vm := .none },
  { cls := 8, slots := #[.long (-107)], vm := .none },
  { cls := 8, slots := #[.long (-106)], vm := .none },
  { cls := 8, slots := #[.long (-105)], vm := .none },
  { cls := 8, slots := #[.long (-104)], vm := .none },
  { cls := 8, slots := #[.long (-103)], vm := .none },
  { cls := 8, slots := #[.long (-102)], vm := .none },
  { cls := 8, slots := #[.long (-101)], vm := .none },
  { cls := 8, slots := #[.long (-100)], vm := .none },
  { cls := 8, slots := #[.long (-99)], vm := .none },
  { cls := 8, slots := #[.long (-98)], vm := .none },
  { cls := 8, slots := #[.long (-97)], vm := .none },
  { cls := 8, slots := #[.long (-96)], vm := .none },
  { cls := 8, slots := #[.long (-95)], vm := .none },
  { cls := 8, slots := #[.long (-94)], vm := .none },
  { cls := 8, slots := #[.long (-93)], vm := .none },
  { cls := 8, slots := #[.long (-92)], vm := .none },
  { cls := 8, slots := #[.long (-91)], vm := .none },
  { cls := 8, slots := #[.long (-90)], vm := .none },
  { cls := 8, slots := #[.long (-89)], vm := .none },
  { cls := 8, slots := #[.long (-88)], vm := .none },
  { cls := 8, slots := #[.long (-87)], vm := .none },
  { cls := 8, slots := #[.long (-86)], vm := .none },
  { cls := 8, slots := #[.long (-85)], vm := .none },
  { cls := 8, slots := #[.long (-84)], vm := .none },
  { cls := 8, slots := #[.long (-83)], vm := .none },
  { cls := 8, slots := #[.long (-82)], vm := .none },
  { cls := 8, slots := #[.long (-81)], vm := .none },
  { cls := 8, slots := #[.long (-80)], vm := .none },
  { cls := 8, slots := #[.long (-79)], vm := .none },
  { cls := 8, slots := #[.long (-78)], vm := .none },
  { cls := 8, slots := #[.long (-77)], vm := .none },
  { cls := 8, slots := #[.long (-76)], vm := .none },
  { cls := 8, slots := #[.long (-75)], vm := .none },
  { cls := 8, slots := #[.long (-74)], vm := .none },
  { cls := 8, slots := #[.long (-73)], vm := .none },
  { cls := 8, slots := #[.long (-72)], vm := .none },
  { cls := 8, slots := #[.long (-71)], vm := .none },
  { cls := 8, slots := #[.long (-70)], vm := .none },
  { cls := 8, slots := #[.long (-69)], vm := .none },
  { cls := 8, slots := #[.long (-68)], vm := .none },
  { cls := 8, slots := #[.long (-67)], vm := .none },
  { cls := 8, slots := #[.long (-66)], vm := .none },
  { cls := 8, slots := #[.long (-65)], vm := .none },
  { cls := 8, slots := #[.long (-64)], vm := .none },
  { cls := 8, slots := #[.long (-63)], vm := .none },
  { cls := 8, slots := #[.long (-62)], vm := .none },
  { cls := 8, slots := #[.long (-61)], vm := .none },
  { cls := 8, slots := #[.long (-60)], vm := .none },
  { cls := 8, slots := #[.long (-59)], vm := .none },
  { cls := 8, slots := #[.long (-58)], vm := .none },
  { cls := 8, slots := #[.long (-57)], vm := .none },
  { cls := 8, slots := #[.long (-56)], vm := .none },
  { cls := 8, slots := #[.long (-55)], vm := .none },
  { cls := 8, slots := #[.long (-54)], vm := .none },
  { cls := 8, slots := #[.long (-53)], vm := .none },
  { cls := 8, slots := #[.long (-52)], vm := .none },
  { cls := 8, slots := #[.long (-51)], vm := .none },
  { cls := 8, slots := #[.long (-50)], vm := .none },
  { cls := 8, slots := #[.long (-49)], vm := .none },
  { cls := 8, slots := #[.long (-48)], vm := .none },
  { cls := 8, slots := #[.long (-47)], vm := .none },
  { cls := 8, slots := #[.long (-46)], vm := .none },
  { cls := 8, slots := #[.long (-45)], vm := .none },
  { cls := 8, slots := #[.long (-44)], vm := .none },
  { cls := 8, slots := #[.long (-43)], vm := .none },
  { cls := 8, slots := #[.long (-42)], vm := .none },
  { cls := 8, slots := #[.long (-41)], vm := .none },
  { cls := 8, slots := #[.long (-40)], vm := .none },
  { cls := 8, slots := #[.long (-39)], vm := .none },
  { cls := 8, slots := #[.long (-38)], vm := .none },
  { cls := 8, slots := #[.long (-37)], vm := .none },
  { cls := 8, slots := #[.long (-36)], vm := .none },
  { cls := 8, slots := #[.long (-35)], vm := .none },
  { cls := 8, slots := #[.long (-34)], vm := .none },
  { cls := 8, slots := #[.long (-33)], vm := .none },
  { cls := 8, slots := #[.long (-32)], vm := .none },
  { cls := 8, slots := #[.long (-31)], vm := .none },
  { cls := 8, slots := #[.long (-30)], vm := .none },
  { cls := 8, slots := #[.long (-29)], vm := .none },
  { cls := 8, slots := #[.long (-28)], vm := .none },
  { cls := 8, slots := #[.long (-27)], vm := .none },
  { cls := 8, slots := #[.long (-26)], vm := .none },
  { cls := 8, slots := #[.long (-25)], vm := .none },
  { cls := 8, slots := #[.long (-24)], vm := .none },
  { cls := 8, slots := #[.long (-23)], vm := .none },
  { cls := 8, slots := #[.long (-22)], vm := .none },
  { cls := 8, slots := #[.long (-21)], vm := .none },
  { cls := 8, slots := #[.long (-20)], vm := .none },
  { cls := 8, slots := #[.long (-19)], vm := .none },
  { cls := 8, slots := #[.long (-18)], vm := .none },
  { cls := 8, slots := #[.long (-17)], vm := .none },
  { cls := 8, slots := #[.long (-16)], vm := .none },
  { cls := 8, slots := #[.long (-15)], vm := .none },
  { cls := 8, slots := #[.long (-14)], vm := .none },
  { cls := 8, slots := #[.long (-13)], vm := .none },
  { cls := 8, slots := #[.long (-12)], vm := .none },
  { cls := 8, slots := #[.long (-11)], vm := .none },
  { cls := 8, slots := #[.long (-10)], vm := .none },
  { cls := 8, slots := #[.long (-9)], vm := .none },
  { cls := 8, slots := #[.long (-8)], vm := .none },
  { cls := 8, slots := #[.long (-7)], vm := .none },
  { cls := 8, slots := #[.long (-6)], vm := .none },
  { cls := 8, slots := #[.long (-5)], vm := .none },
  { cls := 8, slots := #[.long (-4)], vm := .none },
  { cls := 8, slots := #[.long (-3)], vm := .none },
  { cls := 8, slots := #[.long (-2)], vm := .none },
  { cls := 8, slots := #[.long (-1)], vm := .none },
  { cls := 8, slots := #[.long (0)], vm := .none },
  { cls := 8, slots := #[.long (1)], vm := .none },
  { cls := 8, slots := #[.long (2)], vm := .none },
  { cls := 8, slots := #[.long (3)], vm := .none },
  { cls := 8, slots := #[.long (4)], vm := .none },
  { cls := 8, slots := #[.long (5)], vm := .none },
  { cls := 8, slots := #[.long (6)], vm := .none },
  { cls := 8, slots := #[.long (7)], vm := .none },
  { cls := 8, slots := #[.long (8)], vm := .none },
  { cls := 8, slots := #[.long (9)], vm := .none },
  { cls := 8, slots := #[.long (10)], vm := .none },
  { cls := 8, slots := #[.long (11)], vm := .none },
  { cls := 8, slots := #[.long (12)], vm := .none },
  { cls := 8, slots := #[.long (13)], vm := .none },
  { cls := 8, slots := #[.long (14)], vm := .none },
  { cls := 8, slots := #[.long (15)], vm := .none },
  { cls := 8, slots := #[.long (16)], vm := .none },
  { cls := 8, slots := #[.long (17)], vm := .none },
  { cls := 8, slots := #[.long (18)], vm := .none },
  { cls := 8, slots := #[.long (19)], vm := .none },
  { cls := 8, slots := #[.long (20)], vm := .none },
  { cls := 8, slots := #[.long (21)], vm := .none },
  { cls := 8, slots := #[.long (22)], vm := .none },
  { cls := 8, slots := #[.long (23)], vm := .none },
  { cls := 8, slots := #[.long (24)], vm := .none },
  { cls := 8, slots := #[.long (25)], vm := .none },
  { cls := 8, slots := #[.long (26)], vm := .none },
  { cls := 8, slots := #[.long (27)], vm := .none },
  { cls := 8, slots := #[.long (28)], vm := .none },
  { cls := 8, slots := #[.long (29)], vm := .none },
  { cls := 8, slots := #[.long (30)], vm := .none },
  { cls := 8, slots := #[.long (31)], vm := .none },
  { cls := 8, slots := #[.long (32)], vm := .none },
  { cls := 8, slots := #[.long (33)], vm := .none },
  { cls := 8, slots := #[.long (34)], vm := .none },
  { cls := 8, slots := #[.long (35)], vm := .none },
  { cls := 8, slots := #[.long (36)], vm := .none },
  { cls := 8, slots := #[.long (37)], vm := .none },
  { cls := 8, slots := #[.long (38)], vm := .none },
  { cls := 8, slots := #[.long (39)], vm := .none },
  { cls := 8, slots := #[.long (40)], vm := .none },
  { cls := 8, slots := #[.long (41)], vm := .none },
  { cls := 8, slots := #[.long (42)], vm := .none },
  { cls := 8, slots := #[.long (43)], vm := .none },
  { cls := 8, slots := #[.long (44)], vm := .none },
  { cls := 8, slots := #[.long (45)], vm := .none },
  { cls := 8, slots := #[.long (46)], vm := .none },
  { cls := 8, slots := #[.long (47)], vm := .none },
  { cls := 8, slots := #[.long (48)], vm := .none },
  { cls := 8, slots := #[.long (49)], vm := .none },
  { cls := 8, slots := #[.long (50)], vm := .none },
  { cls := 8, slots := #[.long (51)], vm := .none },
  { cls := 8, slots := #[.long (52)], vm := .none },
  { cls := 8, slots := #[.long (53)], vm := .none },
  { cls := 8, slots := #[.long (54)], vm := .none },
  { cls := 8, slots := #[.long (55)], vm := .none },
  { cls := 8, slots := #[.long (56)], vm := .none },
  { cls := 8, slots := #[.long (57)], vm := .none },
  { cls := 8, slots := #[.long (58)], vm := .none },
  { cls := 8, slots := #[.long (59)], vm := .none },
  { cls := 8, slots := #[.long (60)], vm := .none },
  { cls := 8, slots := #[.long (61)], vm := .none },
  { cls := 8, slots := #[.long (62)], vm := .none },
  { cls := 8, slots := #[.long (63)], vm := .none },
  { cls := 8, slots := #[.long (64)], vm := .none },
  { cls := 8, slots := #[.long (65)], vm := .none },
  { cls := 8, slots := #[.long (66)], vm := .none },
  { cls := 8, slots := #[.long (67)], vm := .none },
  { cls := 8, slots := #[.long (68)], vm := .none },
  { cls := 8, slots := #[.long (69)], vm := .none },
  { cls := 8, slots := #[.long (70)], vm := .none },
  { cls := 8, slots := #[.long (71)], vm := .none },
  { cls := 8, slots := #[.long (72)], vm := .none },
  { cls := 8, slots := #[.long (73)], vm := .none },
  { cls := 8, slots := #[.long (74)], vm := .none },
  { cls := 8, slots := #[.long (75)], vm := .none },
  { cls := 8, slots := #[.long (76)], vm := .none },
  { cls := 8, slots := #[.long (77)], vm := .none },
  { cls := 8, slots := #[.long (78)], vm := .none },
  { cls := 8, slots := #[.long (79)], vm := .none },
  { cls := 8, slots := #[.long (80)], vm := .none },
  { cls := 8, slots := #[.long (81)], vm := .none },
  { cls := 8, slots := #[.long (82)], vm := .none },
  { cls := 8, slots := #[.long (83)], vm := .none },
  { cls := 8, slots := #[.long (84)], vm := .none },
  { cls := 8, slots := #[.long (85)], vm := .none },
  { cls := 8, slots := #[.long (86)], vm := .none },
  { cls := 8, slots := #[.long (87)], vm := .none },
  { cls := 8, slots := #[.long (88)], vm := .none },
  { cls := 8, slots := #[.long (89)], vm := .none },
  { cls := 8, slots := #[.long (90)], vm := .none },
  { cls := 8, slots := #[.long (91)], vm := .none },
  { cls := 8, slots := #[.long (92)], vm := .none },
  { cls := 8, slots := #[.long (93)], vm := .none },
  { cls := 8, slots := #[.long (94)], vm := .none },
  { cls := 8, slots := #[.long (95)], vm := .none },
  { cls := 8, slots := #[.long (96)], vm := .none },
  { cls := 8, slots := #[.long (97)], vm := .none },
  { cls := 8, slots := #[.long (98)], vm := .none },
  { cls := 8, slots := #[.long (99)], vm := .none },
  { cls := 8, slots := #[.long (100)], vm := .none },
  { cls := 8, slots := #[.long (101)], vm := .none },
  { cls := 8, slots := #[.long (102)], vm := .none },
  { cls := 8, slots := #[.long (103)], vm := .none },
  { cls := 8, slots := #[.long (104)], vm := .none },
  { cls := 8, slots := #[.long (105)], vm := .none },
  { cls := 8, slots := #[.long (106)], vm := .none },
  { cls := 8, slots := #[.long (107)], vm := .none },
  { cls := 8, slots := #[.long (108)], vm := .none },
  { cls := 8, slots := #[.long (109)], vm := .none },
  { cls := 8, slots := #[.long (110)], vm := .none },
  { cls := 8, slots := #[.long (111)], vm := .none },
  { cls := 8, slots := #[.long (112)], vm := .none },
  { cls := 8, slots := #[.long (113)], vm := .none },
  { cls := 8, slots := #[.long (114)], vm := .none },
  { cls := 8, slots := #[.long (115)], vm := .none },
  { cls := 8, slots := #[.long (116)], vm := .none },
  { cls := 8, slots := #[.long (117)], vm := .none },
  { cls := 8, slots := #[.long (118)], vm := .none },
  { cls := 8, slots := #[.long (119)], vm := .none },
  { cls := 8, slots := #[.long (120)], vm := .none },
  { cls := 8, slots := #[.long (121)], vm := .none },
  { cls := 8, slots := #[.long (122)], vm := .none },
  { cls := 8, slots := #[.long (123)], vm := .none },
  { cls := 8, slots := #[.long (124)], vm := .none },
  { cls := 8, slots := #[.long (125)], vm := .none },
  { cls := 8, slots := #[.long (126)], vm := .none },
  { cls := 8, slots := #[.long (127)], vm := .none }]
def classes : Array Class := #[k0, k1, k2, k3, k4, k5, k6, k7, k8, k9, k10, k11, k12, k13]
def interned : List (Array UInt16 × Addr) := []
def slotsUsed : Nat := 515
def theMethod : MethodId := ⟨1, 1⟩
def args0 : Array Value := #[.long 50, .long 7, .long 2, .long 3, .int 6]
def aboutOver (below : List Frame) : State where
  vm := { classes := classes, interned := interned.toArray }
  heap := heap
  slotsUsed := slotsUsed
  threads := #[{ frames := .invoking theMethod args0 :: below }]
def below0 : List Frame := [.native { method := ⟨0, 0⟩, args := #[] }]
def about1 : State := aboutOver below0
def p0 : Program := .bare "" "" ""
def e0 : Env := launch0.env 0 0 0
theorem w_frames : about1.frames = Frame.invoking theMethod args0 :: below0 := rfl
set_option maxRecDepth 65536 in
theorem w_args : argsFit about1.vm theMethod args0 = true := by decide +kernel
set_option maxRecDepth 65536 in
theorem w_heap : heapFits about1 = true := by decide +kernel
set_option maxRecDepth 65536 in
theorem w_runnable : about1.curStatus? = some .runnable := by decide +kernel
set_option maxRecDepth 65536 in
theorem w_alone : about1.alone = true := by decide +kernel
set_option maxRecDepth 65536 in
theorem w_named : about1.methodNamed? x = some theMethod := by decide +kernel
set_option maxRecDepth 65536 in
theorem w_hears : about1.hears theMethod below0 = true := by decide +kernel
set_option maxRecDepth 65536 in
theorem w_ripe : about1.ripe theMethod args0 below0 = true := by decide +kernel
theorem w_running : about1.status = .running := rfl
set_option maxRecDepth 65536 in
theorem w_room : about1.hasRoom e0.platform room_1 = true :=
  launch0.hasRoom_least _ room_1 (by decide +kernel) (by decide +kernel) (by decide +kernel) (by decide +kernel) (by decide +kernel) (by decide +kernel)
theorem allAtoms_all (ts : List Jvm.Cond) (a : Array Jvm.Value) (st : Jvm.State) : (allAtoms ts).before a st = ts.all (fun c => c.before a st) := by
  induction ts with
  | nil => rfl
  | cons c t ih =>
    show (Jvm.Cond.and c (allAtoms t)).before a st = _
    rw [Jvm.Cond.before_and, ih, List.all_cons]
def words1 : List Jvm.Cond := Jvm.Cond.code x code maxLocals ret :: tables_1
/-- a 'code' word, met by the world's own term for the bytes: nothing is compared byte by byte -/
theorem code_word {y : MethodName} {bytes : ByteArray} {mx : Nat} {rt : Option FieldType} {a : Array Value} {s : State} {m : MethodId} {meth : Method} {c : Code} (h1 : s.methodNamed? y = some m) (h2 : s.vm.method? m = some meth) (h3 : meth.code = some c) (h4 : c.code = bytes)
    (h5 : (c.maxLocals == mx && c.exceptionTable.isEmpty && decide (c.maxStack ≤ mostOperands) && decide (meth.sig.returnType = rt) && !meth.locks && decide (parseMethodDescriptor y.desc = some meth.sig)) = true) : (Jvm.Cond.code y bytes mx rt).before a s = true := by
  simp only [Bool.and_eq_true, beq_iff_eq, Bool.not_eq_true', decide_eq_true_eq] at h5
  obtain ⟨⟨⟨⟨⟨g1, g2⟩, g3⟩, g4⟩, g5⟩, g6⟩ := h5
  simp [Cond.before, Cond.holds, Cond.value, h1, h2, h3, h4, g1, g2, g3, g4, g5, g6]
def isCode : Jvm.Cond → Bool
  | .code _ _ _ _ => true
  | _ => false
theorem all_split {L : List Jvm.Cond} {P : Jvm.Cond → Bool} (h1 : L.all (fun c => isCode c || P c) = true) (h2 : ∀ c ∈ L.filter isCode, P c = true) : L.all P = true := by
  refine List.all_eq_true.mpr fun c hc => ?_
  have h := List.all_eq_true.mp h1 c hc
  rcases Bool.eq_false_or_eq_true (isCode c) with hi | hi
  · exact h2 c (List.mem_filter.mpr ⟨hc, hi⟩)
  · simpa [hi] using h
set_option maxRecDepth 65536 in
theorem w_c0 : (Jvm.Cond.code x code maxLocals ret).before args0 about1 = true := code_word (m := ⟨1, 1⟩) (meth := k1m1) (c := k1c1) (by decide +kernel) rfl rfl rfl (by decide +kernel)
set_option maxRecDepth 65536 in
theorem w_c1 : (Jvm.Cond.code ({ cls := "com/example/tidewire/tidewire/session/KeepaliveStamp", name := "<init>", desc := "(JJ)V" } : Jvm.MethodName) prog_66_method_1_code (5 : Nat) (Option.none : Option Jvm.ClassFile.FieldType)).before args0 about1 = true := code_word (m := ⟨2, 0⟩) (meth := k2m0) (c := k2c0) (by decide +kernel) rfl rfl rfl (by decide +kernel)
set_option maxRecDepth 65536 in
theorem w_c2 : (Jvm.Cond.code ({ cls := "java/lang/Object", name := "<init>", desc := "()V" } : Jvm.MethodName) object_method_1_code (1 : Nat) (Option.none : Option Jvm.ClassFile.FieldType)).before args0 about1 = true := code_word (m := ⟨0, 0⟩) (meth := k0m0) (c := k0c0) (by decide +kernel) rfl rfl rfl (by decide +kernel)
set_option maxRecDepth 65536 in
theorem w_c3 : (Jvm.Cond.code ({ cls := "java/lang/Long", name := "valueOf", desc := "(J)Ljava/lang/Long;" } : Jvm.MethodName) jdk_35_method_24_code (3 : Nat) (Option.some (Jvm.ClassFile.FieldType.object "java/lang/Long"))).before args0 about1 = true := code_word (m := ⟨8, 0⟩) (meth := k8m0) (c := k8c0) (by decide +kernel) rfl rfl rfl (by decide +kernel)
set_option maxRecDepth 65536 in
theorem w_c4 : (Jvm.Cond.code ({ cls := "com/example/tidewire/tidewire/session/KeepaliveStamp", name := "equals", desc := "(Ljava/lang/Object;)Z" } : Jvm.MethodName) prog_66_method_7_code (3 : Nat) (Option.some Jvm.ClassFile.FieldType.boolean)).before args0 about1 = true := code_word (m := ⟨2, 1⟩) (meth := k2m1) (c := k2c1) (by decide +kernel) rfl rfl rfl (by decide +kernel)
set_option maxRecDepth 65536 in
theorem w_c5 : (Jvm.Cond.code ({ cls := "java/lang/Long", name := "<init>", desc := "(J)V" } : Jvm.MethodName) jdk_35_method_26_code (3 : Nat) (Option.none : Option Jvm.ClassFile.FieldType)).before args0 about1 = true := code_word (m := ⟨8, 1⟩) (meth := k8m1) (c := k8c1) (by decide +kernel) rfl rfl rfl (by decide +kernel)
set_option maxRecDepth 65536 in
theorem w_c6 : (Jvm.Cond.code ({ cls := "java/lang/Number", name := "<init>", desc := "()V" } : Jvm.MethodName) jdk_18_method_1_code (1 : Nat) (Option.none : Option Jvm.ClassFile.FieldType)).before args0 about1 = true := code_word (m := ⟨4, 0⟩) (meth := k4m0) (c := k4c0) (by decide +kernel) rfl rfl rfl (by decide +kernel)
def codes1 : List Jvm.Cond := [Jvm.Cond.code x code maxLocals ret, Jvm.Cond.code ({ cls := "com/example/tidewire/tidewire/session/KeepaliveStamp", name := "<init>", desc := "(JJ)V" } : Jvm.MethodName) prog_66_method_1_code (5 : Nat) (Option.none : Option Jvm.ClassFile.FieldType), Jvm.Cond.code ({ cls := "java/lang/Object", name := "<init>", desc := "()V" } : Jvm.MethodName) object_method_1_code (1 : Nat) (Option.none : Option Jvm.ClassFile.FieldType), Jvm.Cond.code ({ cls := "java/lang/Long", name := "valueOf", desc := "(J)Ljava/lang/Long;" } : Jvm.MethodName) jdk_35_method_24_code (3 : Nat) (Option.some (Jvm.ClassFile.FieldType.object "java/lang/Long")), Jvm.Cond.code ({ cls := "com/example/tidewire/tidewire/session/KeepaliveStamp", name := "equals", desc := "(Ljava/lang/Object;)Z" } : Jvm.MethodName) prog_66_method_7_code (3 : Nat) (Option.some Jvm.ClassFile.FieldType.boolean), Jvm.Cond.code ({ cls := "java/lang/Long", name := "<init>", desc := "(J)V" } : Jvm.MethodName) jdk_35_method_26_code (3 : Nat) (Option.none : Option Jvm.ClassFile.FieldType), Jvm.Cond.code ({ cls := "java/lang/Number", name := "<init>", desc := "()V" } : Jvm.MethodName) jdk_18_method_1_code (1 : Nat) (Option.none : Option Jvm.ClassFile.FieldType)]
set_option maxRecDepth 65536 in
theorem codes_eq : words1.filter isCode = codes1 := rfl
theorem w_codes : ∀ c ∈ words1.filter isCode, c.before args0 about1 = true := by
  rw [codes_eq]
  intro c hc
  simp only [codes1, List.mem_cons, List.not_mem_nil, or_false] at hc
  rcases hc with rfl | rfl | rfl | rfl | rfl | rfl | rfl
  · exact w_c0
  · exact w_c1
  · exact w_c2
  · exact w_c3
  · exact w_c4
  · exact w_c5
  · exact w_c6
set_option maxRecDepth 65536 in
theorem w_t1 : (words1.take 24).all (fun c => isCode c || c.before args0 about1) = true := by decide +kernel
set_option maxRecDepth 65536 in
theorem w_t2 : ((words1.drop 24).take 24).all (fun c => isCode c || c.before args0 about1) = true := by decide +kernel
set_option maxRecDepth 65536 in
theorem w_t3 : ((words1.drop 24).drop 24).all (fun c => isCode c || c.before args0 about1) = true := by decide +kernel
theorem w_tables : (allAtoms (Jvm.Cond.code x code maxLocals ret :: tables_1)).before args0 about1 = true := by
  rw [allAtoms_all]
  show words1.all (fun c => c.before args0 about1) = true
  refine all_split ?_ w_codes
  rw [← List.take_append_drop 24 words1, List.all_append, w_t1, ← List.take_append_drop 24 (words1.drop 24), List.all_append, w_t2, w_t3]
  rfl
set_option maxRecDepth 65536 in
theorem w_rest : rest_1_c.before args0 about1 = true := by decide +kernel
set_option maxRecDepth 65536 in
theorem w_case : (Jvm.Cond.and given_1 narrow_1).before args0 about1 = true := by decide +kernel
theorem w_applies : (headSpec (Jvm.Cond.code x code maxLocals ret :: tables_1) room_1).applies x e0.platform about1 = true :=
  (Spec.applies_iff w_frames).mpr ⟨w_running, w_runnable, w_alone, w_named, w_hears, w_ripe, w_room, w_tables⟩
theorem atStart : AtStart classFile x code maxLocals ret World_1 tables_1 room_1 Calls_1 rest_1 Pre_1 launch0 p0 e0 about1 theMethod args0 below0 :=
  ⟨lists_1, trivial, launch0.admits_env _ _ _, launch0.least_env, fairChoices_fair.cas, fairChoices_fair.clock, w_frames, w_args, w_heap, w_applies, trivial, w_rest, w_case⟩
end start1
theorem witness_1 : WitnessClaimed_1 := ⟨start1.p0, start1.e0, start1.about1, start1.theMethod, start1.args0, start1.below0, start1.atStart⟩
end Jvm.Pilot.@@N@@
