import JvmDerived
import JvmDerived.Pilot.@@N@@Statement
import JvmDerived.Pilot.@@N@@Code
set_option linter.unusedVariables false
set_option linter.unusedSimpArgs false
namespace Jvm.Pilot.@@N@@
open Jvm Jvm.ClassFile Sem Op Lib Jvm.Free Jvm.Stand Jvm.LawKit Jvm.RoadKit Bundle Jvm.Pilot.@@N@@.Jvm.D
/-! ## own kit: a walk in continuation style over the library's steps -/
section OwnKit
variable {p : Program} {l : Launch} {e : Env} {R : Room} {s : State} {m : MethodId} {args : Array Value} {below : List Frame} {meth : Method} {c : Code} {T : State} {locs : List Loc} {cells slots : Nat} {Z : State} {a0 : Array Value} {h h' : Heap}
/-- from U the run ends, and then E holds -/
def GoOn (p : Program) (e : Env) (below : List Frame) (E : State → Outcome → Prop) (U : State) : Prop :=
  ∃ t o, Steps p.tables e below U t ∧ t.status = .running ∧ Ended t below o ∧ E t o
theorem GoOn.step {E : State → Outcome → Prop} {U U' : State} (hs : ∀ t, Steps p.tables e below U' t → Steps p.tables e below U t) (g : GoOn p e below E U') : GoOn p e below E U := by
  obtain ⟨t, o, h1, h2⟩ := g
  exact ⟨t, o, hs _ h1, h2⟩
/-- how a body ends: what it returns, its heap, the places that it wrote -/
abbrev EndQ (s : State) (rm : Room) (Q : Option Value → Heap → List Loc → Prop) : State → Outcome → Prop :=
  fun U o => ∃ v L, o = .returned v ∧ Q v U.heap L ∧ FrameEnd s o U L rm.cells rm.slots
/-- a body's contract at one array of arguments and one heap -/
def Con (l : Launch) (Z : State) (y : MethodName) (bytes : ByteArray) (mx : Nat) (rt : Option FieldType) (rm : Room) (as : Array Value) (h : Heap) (Q : Option Value → Heap → List Loc → Prop) : Prop :=
  ∀ ws : List Jvm.Cond, MetFree l y (head1 (Jvm.Cond.code y bytes mx rt :: ws) rm) (fun a U => a = as ∧ Z.Warmed39 U.vm ∧ U.heap = h) (fun _ _ _ _ _ => True) (fun _ U o U' => ∃ v L, o = .returned v ∧ Q v U'.heap L ∧ FrameEnd U o U' L rm.cells rm.slots)
theorem Con.intro {y : MethodName} {bytes : ByteArray} {mx : Nat} {rt : Option FieldType} {rm : Room} {as : Array Value} {Q : Option Value → Heap → List Loc → Prop} (hp : plainFor y = true)
    (body : ∀ (p : Program) (e : Env) (s : State) (m : MethodId) (below : List Frame) (meth : Method) (c : Code) (s₁ : State), p.tables.exec = Jvm.exec → c.code = bytes → c.maxLocals = mx → meth.sig.returnType = rt → meth.locks = false → Z.Warmed39 s.vm → s.vm.findClass y.cls = some m.cls → meth.name = y.name →
      Stand p l e rm s m as below meth c s₁ [] 0 0 → s₁.heap = h → GoOn p e below (EndQ s rm Q) (s₁.setTop (entryFrame m as mx))) : Con l Z y bytes mx rt rm as h Q := fun ws => by
  refine MetFree.of_bodySF hp hisR ?_
  intro p e s m args below meth c s₁ Bd hml0 hP hK
  obtain ⟨rfl, hZ, hh⟩ := hP
  have X0 : Stand p l e rm s m args below meth c s₁ [] 0 0 := Stand.of_body Bd
  obtain ⟨t, o, h1, h2, h3, h4⟩ := body p e s m below meth c s₁ Bd.exec Bd.bytes hml0 Bd.returns Bd.notSynchronized hZ (findClass_of_methodNamed Bd.named) (name_of_methodNamed Bd.named Bd.method).1 X0 (by rw [← hh, Bd.state]; rfl)
  exact ⟨t, o, h1, h2, h3, h4⟩
theorem GoOn.cast {E : State → Outcome → Prop} {g g' : JFrame} (q : g = g') (k : GoOn p e below E (T.setTop g')) : GoOn p e below E (T.setTop g) := q ▸ k
theorem GoOn.retI (X : Stand p l e R s m args below meth c T locs cells slots) (hx : p.tables.exec = Jvm.exec) (hrt : meth.sig.returnType = some .int) (hlk : meth.locks = false) {rm : Room} {Q : Option Value → Heap → List Loc → Prop} {pc : Nat} {Ls : Array Slot} {z : Int32} {rest : List Value}
    (hd : decode c.code pc = .ok (.ireturn, 1)) (hc : cells ≤ rm.cells) (hs : slots ≤ rm.slots) (hQ : Q (some (.int z)) T.heap locs) : GoOn p e below (EndQ s rm Q) (T.setTop (mkF m pc Ls (.int z :: rest))) := by
  obtain ⟨fs, hr, hrun, hended, hW, hsame⟩ := X.leave (v := some (.int z)) (fun h => by rw [hrt] at h; cases h) hlk
  exact ⟨_, _, Jvm.RoadKit.retOut X hx hrt rfl (Or.inl ⟨rfl, Or.inl rfl, _, rfl⟩) hd hr, hrun, hended, _, _, rfl, hQ, ⟨_, rfl⟩, hW, hsame.mono hc hs⟩
theorem GoOn.retN (X : Stand p l e R s m args below meth c T locs cells slots) (hx : p.tables.exec = Jvm.exec) {t : FieldType} (hrt : meth.sig.returnType = some t) (hlk : meth.locks = false) {rm : Room} {Q : Option Value → Heap → List Loc → Prop} {pc : Nat} {Ls : Array Slot} {z : Int32} {rest : List Value} (ht : t = .boolean ∨ t = .byte ∨ t = .char ∨ t = .short)
    (hd : decode c.code pc = .ok (.ireturn, 1)) (hc : cells ≤ rm.cells) (hs : slots ≤ rm.slots) (hQ : Q (some (.int (nar t z))) T.heap locs) : GoOn p e below (EndQ s rm Q) (T.setTop (mkF m pc Ls (.int z :: rest))) := by
  obtain ⟨fs, hr, hrun, hended, hW, hsame⟩ := X.leave (v := some (.int (nar t z))) (fun h => by rw [hrt] at h; cases h) hlk
  exact ⟨_, _, Jvm.RoadKit.retN X hx hrt ht hd hr, hrun, hended, _, _, rfl, hQ, ⟨_, rfl⟩, hW, hsame.mono hc hs⟩
theorem GoOn.retJ (X : Stand p l e R s m args below meth c T locs cells slots) (hx : p.tables.exec = Jvm.exec) (hrt : meth.sig.returnType = some .long) (hlk : meth.locks = false) {rm : Room} {Q : Option Value → Heap → List Loc → Prop} {pc : Nat} {Ls : Array Slot} {z : Int64} {rest : List Value}
    (hd : decode c.code pc = .ok (.lreturn, 1)) (hc : cells ≤ rm.cells) (hs : slots ≤ rm.slots) (hQ : Q (some (.long z)) T.heap locs) : GoOn p e below (EndQ s rm Q) (T.setTop (mkF m pc Ls (.long z :: rest))) := by
  obtain ⟨fs, hr, hrun, hended, hW, hsame⟩ := X.leave (v := some (.long z)) (fun h => by rw [hrt] at h; cases h) hlk
  exact ⟨_, _, Jvm.RoadKit.retOut X hx hrt rfl (Or.inr (Or.inl ⟨rfl, rfl, _, rfl⟩)) hd hr, hrun, hended, _, _, rfl, hQ, ⟨_, rfl⟩, hW, hsame.mono hc hs⟩
theorem GoOn.retR (X : Stand p l e R s m args below meth c T locs cells slots) (hx : p.tables.exec = Jvm.exec) {t : FieldType} (hrt : meth.sig.returnType = some t) (htr : t.isReference = true) (hlk : meth.locks = false) {rm : Room} {Q : Option Value → Heap → List Loc → Prop} {pc : Nat} {Ls : Array Slot} {z : Value} (hz : z.isRef = true) {rest : List Value}
    (hd : decode c.code pc = .ok (.areturn, 1)) (hc : cells ≤ rm.cells) (hs : slots ≤ rm.slots) (hQ : Q (some z) T.heap locs) : GoOn p e below (EndQ s rm Q) (T.setTop (mkF m pc Ls (z :: rest))) := by
  obtain ⟨fs, hr, hrun, hended, hW, hsame⟩ := X.leave (v := some z) (fun h => by rw [hrt] at h; cases h) hlk
  refine ⟨_, _, Jvm.RoadKit.retOut X hx hrt ?_ (Or.inr (Or.inr (Or.inr (Or.inr ⟨rfl, htr, hz⟩)))) hd hr, hrun, hended, _, _, rfl, hQ, ⟨_, rfl⟩, hW, hsame.mono hc hs⟩
  cases z <;> first | (cases t <;> rfl) | (simp [Value.isRef] at hz)
theorem GoOn.ret0 (X : Stand p l e R s m args below meth c T locs cells slots) (hx : p.tables.exec = Jvm.exec) (hrt : meth.sig.returnType = none) (hlk : meth.locks = false) {rm : Room} {Q : Option Value → Heap → List Loc → Prop} {pc : Nat} {Ls : Array Slot}
    (hd : decode c.code pc = .ok (.return_, 1)) (hc : cells ≤ rm.cells) (hs : slots ≤ rm.slots) (hQ : Q none T.heap locs) : GoOn p e below (EndQ s rm Q) (T.setTop (mkF m pc Ls [])) := by
  obtain ⟨fs, hr, hrun, hended, hW, hsame⟩ := X.leave (v := none) (fun _ => rfl) hlk
  exact ⟨_, _, X.returnOut hx hrt hd hr, hrun, hended, _, _, rfl, hQ, ⟨_, rfl⟩, hW, hsame.mono hc hs⟩
/-- a static call by its contract -/
theorem kCallS (X : Stand p l e R s m args below meth c T locs cells slots) (hx : p.tables.exec = Jvm.exec) (hZ : Z.Warmed39 s.vm) {own : String} {index : Nat} {y : MethodName} {bytes : ByteArray} {mx : Nat} {rt : Option FieldType} {rm : Room} {Q : Option Value → Heap → List Loc → Prop} {argsL rest : List Value}
    (K : Con l Z y bytes mx rt rm argsL.toArray h Q) (hown : s.vm.findClass own = some m.cls) (w1 : (Jvm.Cond.methodLink own index y).before a0 Z = true) (w2 : (Jvm.Cond.static y).before a0 Z = true) (w3 : (Jvm.Cond.initialized y.cls).before a0 Z = true) (w4 : (Jvm.Cond.code y bytes mx rt).before a0 Z = true)
    (hy : y.cls ≠ "java/lang/invoke/MethodHandle" ∧ y.cls ≠ "java/lang/invoke/VarHandle") (eT : T.heap = h) {g : JFrame} (hg : g.method = m) (hsize : g.locals.size = c.maxLocals) (hlen : ∀ sig, parseMethodDescriptor y.desc = some sig → argsL.length = sig.parameters.length) (hstack : g.stack = argsL.reverse ++ rest)
    {W : Nat} (hW : 2 * g.monitorRoom + (rest.map fun v => v.category).sum ≤ W) (hd : decode c.code g.pc = .ok (.invokestatic index, 3)) (hf : rm.frames + 1 ≤ R.frames) (hl : W + (mx + 11) + rm.locals ≤ R.locals) (hc : cells + rm.cells ≤ R.cells) (hs : slots + rm.slots ≤ R.slots) :
    ∃ v T' L, Stand p l e R s m args below meth c T' (locs ++ L) (cells + rm.cells) (slots + rm.slots) ∧ Q v T'.heap L ∧ ∀ target, Steps p.tables e below (T'.setTop { g with pc := g.pc + 3, stack := v.toList ++ rest }) target → Steps p.tables e below (T.setTop g) target := by
  obtain ⟨v, _, ⟨T', L', k', n'⟩, -, X', ⟨L, hQ, l1, l2, l3⟩, st⟩ := Jvm.LawKit.callS X hx (y := y) hown (mvT hZ w1) (mvT hZ w2) (mvT hZ w3) (mvT hZ w4) hy (backOf (W := W) (K []) hZ w4 w3 hf hl) hg hsize hlen hstack hW hd (fun _ _ => ⟨rfl, eT, hc, hs⟩)
  dsimp only [Pt.U, Pt.locs, Pt.cells, Pt.slots] at X' l1 l2 l3 hQ st
  subst l1 l2 l3
  exact ⟨v, T', L, X', hQ, fun t k => st _ k⟩
/-- a constructor by its contract -/
theorem kCallI (X : Stand p l e R s m args below meth c T locs cells slots) (hx : p.tables.exec = Jvm.exec) (hZ : Z.Warmed39 s.vm) {own : String} {index : Nat} {y : MethodName} {bytes : ByteArray} {mx : Nat} {rm : Room} {Q : Option Value → Heap → List Loc → Prop} {a : Addr} {argsL rest : List Value}
    (K : Con l Z y bytes mx none rm (.ref a :: argsL).toArray h Q) (hy1 : y.name = "<init>") (hown : s.vm.findClass own = some m.cls) (w1 : (Jvm.Cond.methodLink own index y).before a0 Z = true) (w2 : (Jvm.Cond.instanceMethod y).before a0 Z = true) (w3 : (Jvm.Cond.initialized y.cls).before a0 Z = true) (w4 : (Jvm.Cond.code y bytes mx none).before a0 Z = true)
    (hy : y.cls ≠ "java/lang/invoke/MethodHandle" ∧ y.cls ≠ "java/lang/invoke/VarHandle") (eT : T.heap = h) {g : JFrame} (hg : g.method = m) (hsize : g.locals.size = c.maxLocals) (hlen : ∀ sig, parseMethodDescriptor y.desc = some sig → argsL.length = sig.parameters.length) (hstack : g.stack = argsL.reverse ++ .ref a :: rest)
    {W : Nat} (hW : 2 * g.monitorRoom + (rest.map fun v => v.category).sum ≤ W) (hd : decode c.code g.pc = .ok (.invokespecial index, 3)) (hf : rm.frames + 1 ≤ R.frames) (hl : W + (mx + 11) + rm.locals ≤ R.locals) (hc : cells + rm.cells ≤ R.cells) (hs : slots + rm.slots ≤ R.slots) :
    ∃ v T' L, Stand p l e R s m args below meth c T' (locs ++ L) (cells + rm.cells) (slots + rm.slots) ∧ Q v T'.heap L ∧ ∀ target, Steps p.tables e below (T'.setTop { g with pc := g.pc + 3, stack := v.toList ++ rest }) target → Steps p.tables e below (T.setTop g) target := by
  obtain ⟨v, _, ⟨T', L', k', n'⟩, -, X', ⟨L, hQ, l1, l2, l3⟩, st⟩ := X.specialBack hx (y := y) hy1 hown (mvT hZ w1) (mvT hZ w2) (mvT hZ w4) hy (backOf (W := W) (K []) hZ w4 w3 hf hl) hg hsize (Steps.refl _) (a := a) hlen hstack hW hd (fun _ _ => ⟨rfl, eT, hc, hs⟩)
  dsimp only [Pt.U, Pt.locs, Pt.cells, Pt.slots] at X' l1 l2 l3 hQ st
  subst l1 l2 l3
  exact ⟨v, T', L, X', hQ, fun t k => st.trans k⟩
/-- an instance method by its contract, on an object of that very class -/
theorem kCallV (X : Stand p l e R s m args below meth c T locs cells slots) (hx : p.tables.exec = Jvm.exec) (hZ : Z.Warmed39 s.vm) {own C : String} {index : Nat} {y z : MethodName} {bytes : ByteArray} {mx : Nat} {rt : Option FieldType} {rm : Room} {Q : Option Value → Heap → List Loc → Prop} {a : Addr} {argsL rest : List Value}
    (K : Con l Z z bytes mx rt rm (.ref a :: argsL).toArray h Q) (hown : s.vm.findClass own = some m.cls) (w1 : (Jvm.Cond.methodLink own index y).before a0 Z = true) (wd : (Jvm.Cond.declares y).before a0 Z = true) (hnf : NotFace s y) (ws : (Jvm.Cond.selects C y z).before a0 Z = true) (w2 : (Jvm.Cond.instanceMethod z).before a0 Z = true) (w3 : (Jvm.Cond.initialized z.cls).before a0 Z = true) (w4 : (Jvm.Cond.code z bytes mx rt).before a0 Z = true)
    (hy : y.cls ≠ "java/lang/invoke/MethodHandle" ∧ y.cls ≠ "java/lang/invoke/VarHandle") (eT : T.heap = h) (E : Exa Z h a C) {g : JFrame} (hg : g.method = m) (hsize : g.locals.size = c.maxLocals) (hlen : ∀ sig, parseMethodDescriptor y.desc = some sig → argsL.length = sig.parameters.length) (hstack : g.stack = argsL.reverse ++ .ref a :: rest)
    {W : Nat} (hW : 2 * g.monitorRoom + (rest.map fun v => v.category).sum ≤ W) (hd : decode c.code g.pc = .ok (.invokevirtual index, 3)) (hf : rm.frames + 1 ≤ R.frames) (hl : W + (mx + 11) + rm.locals ≤ R.locals) (hc : cells + rm.cells ≤ R.cells) (hs : slots + rm.slots ≤ R.slots) :
    ∃ v T' L, Stand p l e R s m args below meth c T' (locs ++ L) (cells + rm.cells) (slots + rm.slots) ∧ Q v T'.heap L ∧ ∀ target, Steps p.tables e below (T'.setTop { g with pc := g.pc + 3, stack := v.toList ++ rest }) target → Steps p.tables e below (T.setTop g) target := by
  obtain ⟨cB, kB, q1, q2, q3⟩ := isOf hZ eT E
  obtain ⟨v, _, ⟨T', L', k', n'⟩, -, X', ⟨L, hQ, l1, l2, l3⟩, st⟩ := X.virtualBack hx (y := y) (z := z) hown (mvT hZ w1) (mvT hZ wd) hnf (mvT hZ ws) (mvT hZ w2) hy (backOf (W := W) (K []) hZ w4 w3 hf hl) q1 q3 hg hsize (Steps.refl _) hlen hstack hW hd (fun _ _ => ⟨rfl, eT, hc, hs⟩)
  dsimp only [Pt.U, Pt.locs, Pt.cells, Pt.slots] at X' l1 l2 l3 hQ st
  subst l1 l2 l3
  exact ⟨v, T', L, X', hQ, fun t k => st.trans k⟩
/-- a private method by its contract ('invokevirtual'); y2: a method of the same class of which is known that its class is no interface -/
theorem kCallP (X : Stand p l e R s m args below meth c T locs cells slots) (hx : p.tables.exec = Jvm.exec) (hZ : Z.Warmed39 s.vm) {own C : String} {index : Nat} {y y2 : MethodName} {bytes : ByteArray} {mx : Nat} {rt : Option FieldType} {rm : Room} {Q : Option Value → Heap → List Loc → Prop} {a : Addr} {argsL rest : List Value}
    (K : Con l Z y bytes mx rt rm (.ref a :: argsL).toArray h Q) (hown : s.vm.findClass own = some m.cls) (w1 : (Jvm.Cond.methodLink own index y).before a0 Z = true) (w2 : (Jvm.Cond.instanceMethod y).before a0 Z = true) (wp : (Jvm.Cond.privateMethod y).before a0 Z = true) (w3 : (Jvm.Cond.initialized y.cls).before a0 Z = true) (w4 : (Jvm.Cond.code y bytes mx rt).before a0 Z = true)
    (hnf : NotFace s y2) (hcl : y2.cls = y.cls) (w5 : (Jvm.Cond.instanceMethod y2).before a0 Z = true)
    (hy : y.cls ≠ "java/lang/invoke/MethodHandle" ∧ y.cls ≠ "java/lang/invoke/VarHandle") (eT : T.heap = h) (E : Exa Z h a C) {g : JFrame} (hg : g.method = m) (hsize : g.locals.size = c.maxLocals) (hlen : ∀ sig, parseMethodDescriptor y.desc = some sig → argsL.length = sig.parameters.length) (hstack : g.stack = argsL.reverse ++ .ref a :: rest)
    {W : Nat} (hW : 2 * g.monitorRoom + (rest.map fun v => v.category).sum ≤ W) (hd : decode c.code g.pc = .ok (.invokevirtual index, 3)) (hf : rm.frames + 1 ≤ R.frames) (hl : W + (mx + 11) + rm.locals ≤ R.locals) (hc : cells + rm.cells ≤ R.cells) (hs : slots + rm.slots ≤ R.slots) :
    ∃ v T' L, Stand p l e R s m args below meth c T' (locs ++ L) (cells + rm.cells) (slots + rm.slots) ∧ Q v T'.heap L ∧ ∀ target, Steps p.tables e below (T'.setTop { g with pc := g.pc + 3, stack := v.toList ++ rest }) target → Steps p.tables e below (T.setTop g) target := by
  obtain ⟨cB, kB, q1, q2, cell, q3, q4, q5⟩ := isOf hZ eT E
  obtain ⟨mk, methM, hnamed, hmethM, hstM, habM⟩ := Cond.instanceMethod_spec (mvT (args := args) hZ w2)
  obtain ⟨methM', cM, hmethM', -, -, -, -, -, -, hsigM⟩ := Cond.code_spec hnamed (mvT (args := args) hZ w4)
  cases hmethM.symm.trans hmethM'
  obtain ⟨mk2, methM2, hnamed2, -⟩ := Cond.instanceMethod_spec (mvT (args := args) hZ w5)
  obtain ⟨kP, hkP, hkPi⟩ := hnf mk2 hnamed2
  have hcc : mk2.cls = mk.cls := by
    have u1 := findClass_of_methodNamed hnamed2
    rw [hcl] at u1
    exact Option.some.inj (u1.symm.trans (findClass_of_methodNamed hnamed))
  rw [hcc] at hkP
  have hpriv : s.PrivateAt y := Cond.privateMethod_at (mvP hZ wp (args := args))
  obtain ⟨vm₁, X₁, hstep₁⟩ := X.invokevirtual hx hown (mvT hZ w1) hnamed hmethM hstM hkP hkPi hy (a := a) (cell := cell) q3 (fun q z => by rw [z] at q5; cases q5) (selectMethod_private hmethM (hpriv mk methM hnamed hmethM)) hmethM habM hkP hkPi (g := g) hg (argsL := argsL) (rest := rest) (hlen _ hsigM) hstack hd
  obtain ⟨v, ⟨T', L', k', n'⟩, X', ⟨L, hQ, l1, l2, l3⟩, st⟩ := (backOf (W := W) (K []) hZ w4 w3 hf hl) m meth c ⟨T.setVm vm₁, locs, cells, slots⟩ { g with stack := rest } (.invokevirtual index) mk (.ref a :: argsL).toArray X₁ hg hsize hd hW (X₁.named hnamed) ⟨rfl, eT, hc, hs⟩
  dsimp only [Pt.U, Pt.locs, Pt.cells, Pt.slots] at X' l1 l2 l3 hQ st
  subst l1 l2 l3
  exact ⟨v, T', L, X', hQ, fun t k => (hstep₁ _ fun acts => by rw [doInvoke_state]; exact Steps.refl _).trans (st.trans k)⟩
/-- an array: its kind, its length, what each place holds -/
def Jar (Z : State) (h : Heap) (a : Addr) (ty : FieldType) (n : Nat) (f : Nat → Value) : Prop := ∃ cl : Cell, Arr Z h a cl ty ∧ cl.slots.size = n ∧ ∀ i, i < n → cl.slots[i]? = some (f i)
section JarS
variable {a b : Addr} {ty : FieldType} {n : Nat} {f g : Nat → Value} {v : Value} {sl : Nat} {ws : List Addr}
theorem Jar.lt (F : Jar Z h a ty n f) : a < h.size := by obtain ⟨cl, A, -⟩ := F; exact A.lt
theorem Jar.ext (F : Jar Z h a ty n f) (E : Ext h h') : Jar Z h' a ty n f := by obtain ⟨cl, A, r⟩ := F; exact ⟨cl, A.ext E, r⟩
theorem Jar.other (F : Jar Z h b ty n f) (W : Wr h h' a sl v) (q : b ≠ a) : Jar Z h' b ty n f := by obtain ⟨cl, A, r⟩ := F; exact ⟨cl, A.other W q, r⟩
theorem Jar.keep (F : Jar Z h a ty n f) (K : Keep h h' ws) (q : a ∉ ws) : Jar Z h' a ty n f := by obtain ⟨cl, A, r⟩ := F; exact ⟨cl, ⟨K.2.1 a cl A.1 q, A.2⟩, r⟩
theorem Jar.congr (F : Jar Z h a ty n f) (q : ∀ i, i < n → f i = g i) : Jar Z h a ty n g := by obtain ⟨cl, A, s1, s2⟩ := F; exact ⟨cl, A, s1, fun i hi => by rw [s2 i hi, q i hi]⟩
theorem Jar.new {k : ClassId} {z : Int32} (A : Arr Z h a (newA k ty z) ty) (hz : z.toNatClampNeg = n) : Jar Z h a ty n (fun _ => defaultValue ty) := ⟨_, A, (sz_new _ _ _).trans hz, fun i hi => by simp [newA, hz, hi]⟩
theorem Jar.set (F : Jar Z h a ty n f) (W : Wr h h' a sl v) : Jar Z h' a ty n (fun i => if i = sl then v else f i) := by
  obtain ⟨cl, A, s1, s2⟩ := F
  obtain ⟨c2, q1, -, q3, -⟩ := id W
  cases A.1.symm.trans q1
  refine ⟨_, Arr.same W A, by simp [Cell.setSlot, s1], fun i hi => ?_⟩
  by_cases q : i = sl
  · subst q; simp [Cell.setSlot, q3]
  · show (cl.slots.setIfInBounds sl v)[i]? = some (if i = sl then v else f i)
    rw [if_neg q, ← s2 i hi, Array.getElem?_setIfInBounds_ne (Ne.symm q)]
theorem Jar.ints (F : Jar Z h a ty n f) (H : ∀ i, ∃ x, f i = .int x) : ∃ g : Nat → Int32, Jar Z h a ty n (fun i => .int (g i)) := ⟨fun i => Classical.choose (H i), F.congr fun i _ => Classical.choose_spec (H i)⟩
theorem Jar.longs (F : Jar Z h a ty n f) (H : ∀ i, ∃ x, f i = .long x) : ∃ g : Nat → Int64, Jar Z h a ty n (fun i => .long (g i)) := ⟨fun i => Classical.choose (H i), F.congr fun i _ => Classical.choose_spec (H i)⟩
theorem inJ {cl : Cell} {j : Int32} (s1 : cl.slots.size = n) (hj : 0 ≤ j.toInt ∧ j.toInt < n) : ¬ (j < 0 ∨ cl.slots.size ≤ j.toNatClampNeg) := by
  rw [s1, Int32.lt_iff_toInt_lt]
  have e1 : (0 : Int32).toInt = 0 := rfl
  have e2 : j.toNatClampNeg = j.toInt.toNat := rfl
  omega
theorem natJ {j : Int32} (hj : 0 ≤ j.toInt ∧ j.toInt < n) : j.toNatClampNeg < n := by
  have e2 : j.toNatClampNeg = j.toInt.toNat := rfl
  omega
end JarS
theorem kLdI (X : Stand p l e R s m args below meth c T locs cells slots) (hx : p.tables.exec = Jvm.exec) (hZ : Z.Warmed39 s.vm) (eT : T.heap = h) {a : Addr} {n : Nat} {f : Nat → Value} (F : Jar Z h a .int n f) {j : Int32} {v : Value} (hj : 0 ≤ j.toInt ∧ j.toInt < n) (hv : f j.toNatClampNeg = v) {g : JFrame} (hg : g.method = m) {rest : List Value} (hs : g.stack = .int j :: .ref a :: rest) (hd : decode c.code g.pc = .ok (.iaload, 1)) :
    ∀ t, Steps p.tables e below (T.setTop { g with pc := g.pc + 1, stack := v :: rest }) t → Steps p.tables e below (T.setTop g) t := by
  obtain ⟨cl, A, s1, s2⟩ := F
  exact X.iaload hx (j := j) (v := v) (by rw [eT]; exact A.1) (State.isArrayOf_alike hZ.alike A.2.1) A.2.2 (inJ s1 hj) (by rw [s2 _ (natJ hj), hv]) hg hs hd
theorem kLdJ (X : Stand p l e R s m args below meth c T locs cells slots) (hx : p.tables.exec = Jvm.exec) (hZ : Z.Warmed39 s.vm) (eT : T.heap = h) {a : Addr} {n : Nat} {f : Nat → Value} (F : Jar Z h a .long n f) {j : Int32} {v : Value} (hj : 0 ≤ j.toInt ∧ j.toInt < n) (hv : f j.toNatClampNeg = v) {g : JFrame} (hg : g.method = m) {rest : List Value} (hs : g.stack = .int j :: .ref a :: rest) (hd : decode c.code g.pc = .ok (.laload, 1)) :
    ∀ t, Steps p.tables e below (T.setTop { g with pc := g.pc + 1, stack := v :: rest }) t → Steps p.tables e below (T.setTop g) t := by
  obtain ⟨cl, A, s1, s2⟩ := F
  exact X.laload hx (j := j) (v := v) (by rw [eT]; exact A.1) (State.isArrayOf_alike hZ.alike A.2.1) A.2.2 (inJ s1 hj) (by rw [s2 _ (natJ hj), hv]) hg hs hd
theorem kLdB (X : Stand p l e R s m args below meth c T locs cells slots) (hx : p.tables.exec = Jvm.exec) (hZ : Z.Warmed39 s.vm) (eT : T.heap = h) {a : Addr} {n : Nat} {f : Nat → Value} (F : Jar Z h a .byte n f) {j : Int32} {v : Value} (hj : 0 ≤ j.toInt ∧ j.toInt < n) (hv : f j.toNatClampNeg = v) {g : JFrame} (hg : g.method = m) {rest : List Value} (hs : g.stack = .int j :: .ref a :: rest) (hd : decode c.code g.pc = .ok (.baload, 1)) :
    ∀ t, Steps p.tables e below (T.setTop { g with pc := g.pc + 1, stack := v :: rest }) t → Steps p.tables e below (T.setTop g) t := by
  obtain ⟨cl, A, s1, s2⟩ := F
  exact X.baloadBytes hx (j := j) (v := v) (by rw [eT]; exact A.1) (State.isArrayOf_alike hZ.alike A.2.1) A.2.2 (inJ s1 hj) (by rw [s2 _ (natJ hj), hv]) hg hs hd
theorem kLdA (X : Stand p l e R s m args below meth c T locs cells slots) (hx : p.tables.exec = Jvm.exec) (hZ : Z.Warmed39 s.vm) (eT : T.heap = h) {a : Addr} {ty : FieldType} {n : Nat} {f : Nat → Value} (F : Jar Z h a ty n f) (hty : ty.isReference = true) {j : Int32} {v : Value} (hj : 0 ≤ j.toInt ∧ j.toInt < n) (hv : f j.toNatClampNeg = v) {g : JFrame} (hg : g.method = m) {rest : List Value} (hs : g.stack = .int j :: .ref a :: rest) (hd : decode c.code g.pc = .ok (.aaload, 1)) :
    ∀ t, Steps p.tables e below (T.setTop { g with pc := g.pc + 1, stack := v :: rest }) t → Steps p.tables e below (T.setTop g) t := by
  obtain ⟨cl, A, s1, s2⟩ := F
  exact X.aaload hx (j := j) (v := v) (by rw [eT]; exact A.1) (State.isArrayOf_alike hZ.alike A.2.1) hty A.2.2 (inJ s1 hj) (by rw [s2 _ (natJ hj), hv]) hg hs hd
theorem kLen (X : Stand p l e R s m args below meth c T locs cells slots) (hx : p.tables.exec = Jvm.exec) (hZ : Z.Warmed39 s.vm) (eT : T.heap = h) {a : Addr} {ty : FieldType} {n : Nat} {f : Nat → Value} (F : Jar Z h a ty n f) {z : Int32} (hz : n.toInt32 = z) {g : JFrame} (hg : g.method = m) {rest : List Value} (hs : g.stack = .ref a :: rest) (hd : decode c.code g.pc = .ok (.arraylength, 1)) :
    ∀ t, Steps p.tables e below (T.setTop { g with pc := g.pc + 1, stack := .int z :: rest }) t → Steps p.tables e below (T.setTop g) t := by
  obtain ⟨cl, A, s1, s2⟩ := F
  subst hz s1
  exact X.arraylength hx (by rw [eT]; exact A.1) (State.isArrayOf_alike hZ.alike A.2.1) hg hs hd
/-- a store: what the three kinds say alike -/
theorem kStI (X : Stand p l e R s m args below meth c T locs cells slots) (hx : p.tables.exec = Jvm.exec) (hZ : Z.Warmed39 s.vm) (eT : T.heap = h) {a : Addr} {n : Nat} {f : Nat → Value} (F : Jar Z h a .int n f) {j x : Int32} (hj : 0 ≤ j.toInt ∧ j.toInt < n) {g : JFrame} (hg : g.method = m) {rest : List Value} (hs : g.stack = .int x :: .int j :: .ref a :: rest) (hd : decode c.code g.pc = .ok (.iastore, 1)) :
    ∃ T' h', Stand p l e R s m args below meth c T' (locs ++ [⟨a, j.toNatClampNeg⟩]) cells slots ∧ T'.heap = h' ∧ Wr h h' a j.toNatClampNeg (.int x) ∧ ∀ target, Steps p.tables e below (T'.setTop { g with pc := g.pc + 1, stack := rest }) target → Steps p.tables e below (T.setTop g) target := by
  obtain ⟨cl, A, s1, s2⟩ := F
  exact stI X hx hZ eT A (inJ s1 hj) hg hs hd
theorem kStJ (X : Stand p l e R s m args below meth c T locs cells slots) (hx : p.tables.exec = Jvm.exec) (hZ : Z.Warmed39 s.vm) (eT : T.heap = h) {a : Addr} {n : Nat} {f : Nat → Value} (F : Jar Z h a .long n f) {j : Int32} {x : Int64} (hj : 0 ≤ j.toInt ∧ j.toInt < n) {g : JFrame} (hg : g.method = m) {rest : List Value} (hs : g.stack = .long x :: .int j :: .ref a :: rest) (hd : decode c.code g.pc = .ok (.lastore, 1)) :
    ∃ T' h', Stand p l e R s m args below meth c T' (locs ++ [⟨a, j.toNatClampNeg⟩]) cells slots ∧ T'.heap = h' ∧ Wr h h' a j.toNatClampNeg (.long x) ∧ ∀ target, Steps p.tables e below (T'.setTop { g with pc := g.pc + 1, stack := rest }) target → Steps p.tables e below (T.setTop g) target := by
  obtain ⟨cl, A, s1, s2⟩ := F
  exact stJ X hx hZ eT A (inJ s1 hj) hg hs hd
theorem kStB (X : Stand p l e R s m args below meth c T locs cells slots) (hx : p.tables.exec = Jvm.exec) (hZ : Z.Warmed39 s.vm) (eT : T.heap = h) {a : Addr} {n : Nat} {f : Nat → Value} (F : Jar Z h a .byte n f) {j x : Int32} (hj : 0 ≤ j.toInt ∧ j.toInt < n) {g : JFrame} (hg : g.method = m) {rest : List Value} (hs : g.stack = .int x :: .int j :: .ref a :: rest) (hd : decode c.code g.pc = .ok (.bastore, 1)) :
    ∃ T' h', Stand p l e R s m args below meth c T' (locs ++ [⟨a, j.toNatClampNeg⟩]) cells slots ∧ T'.heap = h' ∧ Wr h h' a j.toNatClampNeg (.int (x.toInt8.toInt32)) ∧ ∀ target, Steps p.tables e below (T'.setTop { g with pc := g.pc + 1, stack := rest }) target → Steps p.tables e below (T.setTop g) target := by
  obtain ⟨cl, A, s1, s2⟩ := F
  exact stB X hx hZ eT A (inJ s1 hj) hg hs hd
theorem kClone (X : Stand p l e R s m args below meth c T locs cells slots) (hx : p.tables.exec = Jvm.exec) (hZ : Z.Warmed39 s.vm) {own ad : String} {index : Nat} (hown : s.vm.findClass own = some m.cls)
    (w1 : (Jvm.Cond.methodLink own index ⟨ad, "clone", "()Ljava/lang/Object;"⟩).before a0 Z = true) (w2 : (Jvm.Cond.sameMethod ad "java/lang/Object" "clone" "()Ljava/lang/Object;").before a0 Z = true) (w3 : (Jvm.Cond.native ⟨"java/lang/Object", "clone", "()Ljava/lang/Object;"⟩).before a0 Z = true)
    (w4 : (Jvm.Cond.instanceMethod ⟨"java/lang/Object", "clone", "()Ljava/lang/Object;"⟩).before a0 Z = true) (w5 : (Jvm.Cond.selects ad ⟨ad, "clone", "()Ljava/lang/Object;"⟩ ⟨"java/lang/Object", "clone", "()Ljava/lang/Object;"⟩).before a0 Z = true) (w6 : (Jvm.Cond.castable ad "java/lang/Cloneable").before a0 Z = true)
    (eT : T.heap = h) {a : Addr} {ty : FieldType} {n : Nat} {f : Nat → Value} (F : Jar Z h a ty n f) (E : Exa Z h a ad) (hft : ∀ i, i < n → fits ty (f i) = true) {g : JFrame} (hg : g.method = m) (hsize : g.locals.size = c.maxLocals) {rest : List Value} (hs : g.stack = .ref a :: rest) (hd : decode c.code g.pc = .ok (.invokevirtual index, 3))
    (hf : 1 ≤ R.frames) {W cap : Nat} (hW : 2 * g.monitorRoom + (rest.map fun v => v.category).sum ≤ W) (hl : W + 14 ≤ R.locals) (hcap : n ≤ cap) (hc : cells + 1 ≤ R.cells) (hsl : slots + cap ≤ R.slots) :
    ∃ T' h', Stand p l e R s m args below meth c T' locs (cells + 1) (slots + cap) ∧ T'.heap = h' ∧ Ext h h' ∧ Jar Z h' h.size ty n f ∧ Exa Z h' h.size ad ∧
      ∀ target, Steps p.tables e below (T'.setTop { g with pc := g.pc + 3, stack := .ref h.size :: rest }) target → Steps p.tables e below (T.setTop g) target := by
  obtain ⟨cl, A, s1, s2⟩ := F
  have FC : FitC Z cl := fitC_of A fun i hi v hv => by rw [s2 i (s1 ▸ hi)] at hv; cases hv; exact hft i (s1 ▸ hi)
  obtain ⟨T', h', X', e', ex, A', E', st⟩ := cloneA X hx hZ hown w1 w2 w3 w4 w5 w6 eT A E FC hg hsize hs hd hf hW hl (by rw [s1]; exact hcap) hc hsl
  exact ⟨T', h', X', e', ex, ⟨cloneOf cl, A', s1, s2⟩, E', st⟩
theorem narO {C : String} (v : Value) : narrow (.object C) v = v := by cases v <;> rfl
theorem fitO {C : String} {v : Value} (h : v.isRef = true) : fits (.object C) v = true := by cases v <;> first | rfl | (simp [Value.isRef] at h)
/-- what a body that writes nothing and makes nothing leaves -/
def PQ (r : Option Value) (h0 : Heap) : Option Value → Heap → List Loc → Prop := fun v h L => v = r ∧ L = [] ∧ h = h0
/-- what the law leaves -/
def LQ (n0 : Nat) : Option Value → Heap → List Loc → Prop := fun v _ L => v = some (.int 1) ∧ Fr n0 L
end OwnKit
theorem pn_0 : plainName "com/example/tidewire/tidewire/handshake/AuthRequest" = true := by first | (simp [plainName, overriddenIn]; done) | decide +kernel
theorem d3_0 : decode prog_48_method_6_code 0 = .ok (.aload_n 0, 1) := by decide +kernel
theorem d3_1 : decode prog_48_method_6_code 1 = .ok (.getfield 19, 3) := by decide +kernel
theorem d3_4 : decode prog_48_method_6_code 4 = .ok (.astore_n 2, 1) := by decide +kernel
theorem d3_5 : decode prog_48_method_6_code 5 = .ok (.aload_n 2, 1) := by decide +kernel
theorem d3_6 : decode prog_48_method_6_code 6 = .ok (.arraylength, 1) := by decide +kernel
theorem d3_7 : decode prog_48_method_6_code 7 = .ok (.istore_n 3, 1) := by decide +kernel
theorem d3_8 : decode prog_48_method_6_code 8 = .ok (.iconst 0, 1) := by decide +kernel
theorem d3_9 : decode prog_48_method_6_code 9 = .ok (.istore 4, 2) := by decide +kernel
theorem d3_11 : decode prog_48_method_6_code 11 = .ok (.iload 4, 2) := by decide +kernel
theorem d3_13 : decode prog_48_method_6_code 13 = .ok (.iload_n 3, 1) := by decide +kernel
theorem d3_14 : decode prog_48_method_6_code 14 = .ok (.if_icmp .ge 23, 3) := by decide +kernel
theorem d3_37 : decode prog_48_method_6_code 37 = .ok (.iconst 0, 1) := by decide +kernel
theorem d3_38 : decode prog_48_method_6_code 38 = .ok (.ireturn, 1) := by decide +kernel
theorem d3_17 : decode prog_48_method_6_code 17 = .ok (.aload_n 2, 1) := by decide +kernel
theorem d3_18 : decode prog_48_method_6_code 18 = .ok (.iload 4, 2) := by decide +kernel
theorem d3_20 : decode prog_48_method_6_code 20 = .ok (.iaload, 1) := by decide +kernel
theorem d3_21 : decode prog_48_method_6_code 21 = .ok (.istore 5, 2) := by decide +kernel
theorem d3_23 : decode prog_48_method_6_code 23 = .ok (.iload 5, 2) := by decide +kernel
theorem d3_25 : decode prog_48_method_6_code 25 = .ok (.iload_n 1, 1) := by decide +kernel
theorem d3_26 : decode prog_48_method_6_code 26 = .ok (.if_icmp .ne 5, 3) := by decide +kernel
theorem d3_29 : decode prog_48_method_6_code 29 = .ok (.iconst 1, 1) := by decide +kernel
theorem d3_30 : decode prog_48_method_6_code 30 = .ok (.ireturn, 1) := by decide +kernel
theorem d3_31 : decode prog_48_method_6_code 31 = .ok (.iinc 4 1, 3) := by decide +kernel
theorem d3_34 : decode prog_48_method_6_code 34 = .ok (.goto (-23), 3) := by decide +kernel
theorem d1_0 : decode prog_48_method_1_code 0 = .ok (.aload_n 0, 1) := by decide +kernel
theorem d1_1 : decode prog_48_method_1_code 1 = .ok (.invokespecial 1, 3) := by decide +kernel
theorem d1_4 : decode prog_48_method_1_code 4 = .ok (.aload_n 0, 1) := by decide +kernel
theorem d1_5 : decode prog_48_method_1_code 5 = .ok (.iload_n 1, 1) := by decide +kernel
theorem d1_6 : decode prog_48_method_1_code 6 = .ok (.putfield 7, 3) := by decide +kernel
theorem d1_9 : decode prog_48_method_1_code 9 = .ok (.aload_n 0, 1) := by decide +kernel
theorem d1_10 : decode prog_48_method_1_code 10 = .ok (.aload_n 2, 1) := by decide +kernel
theorem d1_11 : decode prog_48_method_1_code 11 = .ok (.invokevirtual 13, 3) := by decide +kernel
theorem d1_14 : decode prog_48_method_1_code 14 = .ok (.checkcast 14, 3) := by decide +kernel
theorem d1_17 : decode prog_48_method_1_code 17 = .ok (.putfield 19, 3) := by decide +kernel
theorem d1_20 : decode prog_48_method_1_code 20 = .ok (.aload_n 0, 1) := by decide +kernel
theorem d1_21 : decode prog_48_method_1_code 21 = .ok (.aload_n 3, 1) := by decide +kernel
theorem d1_22 : decode prog_48_method_1_code 22 = .ok (.invokevirtual 22, 3) := by decide +kernel
theorem d1_25 : decode prog_48_method_1_code 25 = .ok (.checkcast 23, 3) := by decide +kernel
theorem d1_28 : decode prog_48_method_1_code 28 = .ok (.putfield 25, 3) := by decide +kernel
theorem d1_31 : decode prog_48_method_1_code 31 = .ok (.return_, 1) := by decide +kernel
theorem pn_1 : plainName "com/example/tidewire/tidewire/handshake/AuthRequestAcceptsModePinLaw" = true := by first | (simp [plainName, overriddenIn]; done) | decide +kernel
theorem pd_0 : parseMethodDescriptor "(I[I[B)V" = some ⟨[.int, (.array .int), (.array .byte)], none⟩ := by decide +kernel
theorem pd_1 : parseMethodDescriptor "(I)Z" = some ⟨[.int], some .boolean⟩ := by decide +kernel
theorem ef_c_acc0 (m : MethodId) (x0 : Addr) (x1 : Int32) : entryFrame m #[(.ref x0), (.int x1)] 6 = mkF m 0 #[.val (.ref x0), .val (.int x1), .unset, .unset, .unset, .unset] [] := by first | (simp [entryFrame, mkF, argsToLocals, Value.category]; done) | rfl
set_option maxRecDepth 65536 in
set_option maxHeartbeats 40000000 in
theorem c_acc0 (l : Launch) (Z : State) (a0 : Array Value) (hw : ∀ d ∈ tables_1, d.before a0 Z = true) (a cc : Addr) (mo : Int32) (h0 : Heap) (F : Fld Z h0 a "com/example/tidewire/tidewire/handshake/AuthRequest" "modes" "[I" (.ref cc)) (J : Jar Z h0 cc .int 0 (fun i => .int (([] : List Int32).getD i 0))) :
    Con l Z (⟨"com/example/tidewire/tidewire/handshake/AuthRequest", "acceptsMode", "(I)Z"⟩ : MethodName) prog_48_method_6_code 6 (some .boolean) ({ frames := 0, cells := 0, slots := 0, locals := 0 } : Room) #[(.ref a), (.int mo)] h0 (PQ (some (.int (0 : Int32))) h0) := by
  refine Con.intro (plainFor_of_name pn_0) ?_
  intro p e s m below meth c s₁ hx hby hml hrt hlk hZ hown hnm X0 e0
  replace hown : s.vm.findClass "com/example/tidewire/tidewire/handshake/AuthRequest" = some m.cls := hown
  refine GoOn.cast (ef_c_acc0 m a mo) ?_
  show GoOn p e below _ (s₁.setTop (mkF m 0 #[.val (.ref a), .val (.int mo), .unset, .unset, .unset, .unset] []))
  refine GoOn.step (fun t₀ k₀ => XS.aloadN X0.here hx rfl (hb hby d3_0) rfl rfl k₀) ?_
  show GoOn p e below _ (s₁.setTop (mkF m 1 #[.val (.ref a), .val (.int mo), .unset, .unset, .unset, .unset] [(.ref a)]))
  obtain ⟨T1, X1, e1, st1⟩ := getF X0 hx hZ hown (host := "") (Or.inl (hw _ (List.mem_of_getElem? (i := 22) rfl))) Via.refl e0 F (g := (mkF m 1 #[.val (.ref a), .val (.int mo), .unset, .unset, .unset, .unset] [(.ref a)])) rfl rfl (hb hby d3_1)
  refine GoOn.step st1 ?_
  show GoOn p e below _ (T1.setTop (mkF m 4 #[.val (.ref a), .val (.int mo), .unset, .unset, .unset, .unset] [(.ref cc)]))
  refine GoOn.step (fun t₀ k₀ => XS.astoreN X1.here hx rfl (hb hby d3_4) rfl rfl (l' := #[.val (.ref a), .val (.int mo), .val (.ref cc), .unset, .unset, .unset]) rfl k₀) ?_
  show GoOn p e below _ (T1.setTop (mkF m 5 #[.val (.ref a), .val (.int mo), .val (.ref cc), .unset, .unset, .unset] []))
  refine GoOn.step (fun t₀ k₀ => XS.aloadN X1.here hx rfl (hb hby d3_5) rfl rfl k₀) ?_
  show GoOn p e below _ (T1.setTop (mkF m 6 #[.val (.ref a), .val (.int mo), .val (.ref cc), .unset, .unset, .unset] [(.ref cc)]))
  refine GoOn.step (fun t₀ k₀ => kLen X1 hx hZ e1 J (z := (0 : Int32)) rfl (g := (mkF m 6 #[.val (.ref a), .val (.int mo), .val (.ref cc), .unset, .unset, .unset] [(.ref cc)])) rfl rfl (hb hby d3_6) t₀ k₀) ?_
  show GoOn p e below _ (T1.setTop (mkF m 7 #[.val (.ref a), .val (.int mo), .val (.ref cc), .unset, .unset, .unset] [(.int (0 : Int32))]))
  refine GoOn.step (fun t₀ k₀ => XS.istoreN X1.here hx rfl (hb hby d3_7) rfl (l' := #[.val (.ref a), .val (.int mo), .val (.ref cc), .val (.int (0 : Int32)), .unset, .unset]) rfl k₀) ?_
  show GoOn p e below _ (T1.setTop (mkF m 8 #[.val (.ref a), .val (.int mo), .val (.ref cc), .val (.int (0 : Int32)), .unset, .unset] []))
  refine GoOn.step (fun t₀ k₀ => XS.iconst X1.here hx rfl (hb hby d3_8) k₀) ?_
  show GoOn p e below _ (T1.setTop (mkF m 9 #[.val (.ref a), .val (.int mo), .val (.ref cc), .val (.int (0 : Int32)), .unset, .unset] [(.int (0 : Int32))]))
  refine GoOn.step (fun t₀ k₀ => XS.istore X1.here hx rfl (hb hby d3_9) rfl (l' := #[.val (.ref a), .val (.int mo), .val (.ref cc), .val (.int (0 : Int32)), .val (.int (0 : Int32)), .unset]) rfl k₀) ?_
  show GoOn p e below _ (T1.setTop (mkF m 11 #[.val (.ref a), .val (.int mo), .val (.ref cc), .val (.int (0 : Int32)), .val (.int (0 : Int32)), .unset] []))
  refine GoOn.step (fun t₀ k₀ => XS.iload X1.here hx rfl (hb hby d3_11) rfl k₀) ?_
  show GoOn p e below _ (T1.setTop (mkF m 13 #[.val (.ref a), .val (.int mo), .val (.ref cc), .val (.int (0 : Int32)), .val (.int (0 : Int32)), .unset] [(.int (0 : Int32))]))
  refine GoOn.step (fun t₀ k₀ => XS.iloadN X1.here hx rfl (hb hby d3_13) rfl k₀) ?_
  show GoOn p e below _ (T1.setTop (mkF m 14 #[.val (.ref a), .val (.int mo), .val (.ref cc), .val (.int (0 : Int32)), .val (.int (0 : Int32)), .unset] [(.int (0 : Int32)), (.int (0 : Int32))]))
  have hf2 : ¬ ((0 : Int32) < (0 : Int32)) := (by decide)
  refine GoOn.step (fun t₀ k₀ => XS.icmpYes X1.here hx rfl (pc0 := 14) (pc' := 37) rfl (hb hby d3_14) rfl (flt hf2).2.1 (by decide) (by decide) k₀) ?_
  show GoOn p e below _ (T1.setTop (mkF m 37 #[.val (.ref a), .val (.int mo), .val (.ref cc), .val (.int (0 : Int32)), .val (.int (0 : Int32)), .unset] []))
  refine GoOn.step (fun t₀ k₀ => XS.iconst X1.here hx rfl (hb hby d3_37) k₀) ?_
  show GoOn p e below _ (T1.setTop (mkF m 38 #[.val (.ref a), .val (.int mo), .val (.ref cc), .val (.int (0 : Int32)), .val (.int (0 : Int32)), .unset] [(.int (0 : Int32))]))
  exact GoOn.retN X1 hx hrt hlk (by simp) (hb hby d3_38) (by decide) (by decide) (by first | exact ⟨rfl, rfl, rfl⟩ | (rw [e1]; exact ⟨rfl, rfl, rfl⟩))
theorem ef_c_acc1 (m : MethodId) (x0 : Addr) (x1 : Int32) : entryFrame m #[(.ref x0), (.int x1)] 6 = mkF m 0 #[.val (.ref x0), .val (.int x1), .unset, .unset, .unset, .unset] [] := by first | (simp [entryFrame, mkF, argsToLocals, Value.category]; done) | rfl
set_option maxRecDepth 65536 in
set_option maxHeartbeats 40000000 in
theorem c_acc1 (l : Launch) (Z : State) (a0 : Array Value) (hw : ∀ d ∈ tables_1, d.before a0 Z = true) (a cc : Addr) (mo g0 : Int32) (h0 : Heap) (F : Fld Z h0 a "com/example/tidewire/tidewire/handshake/AuthRequest" "modes" "[I" (.ref cc)) (J : Jar Z h0 cc .int 1 (fun i => .int ([g0].getD i 0))) :
    Con l Z (⟨"com/example/tidewire/tidewire/handshake/AuthRequest", "acceptsMode", "(I)Z"⟩ : MethodName) prog_48_method_6_code 6 (some .boolean) ({ frames := 0, cells := 0, slots := 0, locals := 0 } : Room) #[(.ref a), (.int mo)] h0 (PQ (some (.int (if g0 = mo then (1 : Int32) else (0 : Int32)))) h0) := by
  refine Con.intro (plainFor_of_name pn_0) ?_
  intro p e s m below meth c s₁ hx hby hml hrt hlk hZ hown hnm X0 e0
  replace hown : s.vm.findClass "com/example/tidewire/tidewire/handshake/AuthRequest" = some m.cls := hown
  refine GoOn.cast (ef_c_acc1 m a mo) ?_
  show GoOn p e below _ (s₁.setTop (mkF m 0 #[.val (.ref a), .val (.int mo), .unset, .unset, .unset, .unset] []))
  refine GoOn.step (fun t₀ k₀ => XS.aloadN X0.here hx rfl (hb hby d3_0) rfl rfl k₀) ?_
  show GoOn p e below _ (s₁.setTop (mkF m 1 #[.val (.ref a), .val (.int mo), .unset, .unset, .unset, .unset] [(.ref a)]))
  obtain ⟨T3, X3, e3, st3⟩ := getF X0 hx hZ hown (host := "") (Or.inl (hw _ (List.mem_of_getElem? (i := 22) rfl))) Via.refl e0 F (g := (mkF m 1 #[.val (.ref a), .val (.int mo), .unset, .unset, .unset, .unset] [(.ref a)])) rfl rfl (hb hby d3_1)
  refine GoOn.step st3 ?_
  show GoOn p e below _ (T3.setTop (mkF m 4 #[.val (.ref a), .val (.int mo), .unset, .unset, .unset, .unset] [(.ref cc)]))
  refine GoOn.step (fun t₀ k₀ => XS.astoreN X3.here hx rfl (hb hby d3_4) rfl rfl (l' := #[.val (.ref a), .val (.int mo), .val (.ref cc), .unset, .unset, .unset]) rfl k₀) ?_
  show GoOn p e below _ (T3.setTop (mkF m 5 #[.val (.ref a), .val (.int mo), .val (.ref cc), .unset, .unset, .unset] []))
  refine GoOn.step (fun t₀ k₀ => XS.aloadN X3.here hx rfl (hb hby d3_5) rfl rfl k₀) ?_
  show GoOn p e below _ (T3.setTop (mkF m 6 #[.val (.ref a), .val (.int mo), .val (.ref cc), .unset, .unset, .unset] [(.ref cc)]))
  refine GoOn.step (fun t₀ k₀ => kLen X3 hx hZ e3 J (z := (1 : Int32)) rfl (g := (mkF m 6 #[.val (.ref a), .val (.int mo), .val (.ref cc), .unset, .unset, .unset] [(.ref cc)])) rfl rfl (hb hby d3_6) t₀ k₀) ?_
  show GoOn p e below _ (T3.setTop (mkF m 7 #[.val (.ref a), .val (.int mo), .val (.ref cc), .unset, .unset, .unset] [(.int (1 : Int32))]))
  refine GoOn.step (fun t₀ k₀ => XS.istoreN X3.here hx rfl (hb hby d3_7) rfl (l' := #[.val (.ref a), .val (.int mo), .val (.ref cc), .val (.int (1 : Int32)), .unset, .unset]) rfl k₀) ?_
  show GoOn p e below _ (T3.setTop (mkF m 8 #[.val (.ref a), .val (.int mo), .val (.ref cc), .val (.int (1 : Int32)), .unset, .unset] []))
  refine GoOn.step (fun t₀ k₀ => XS.iconst X3.here hx rfl (hb hby d3_8) k₀) ?_
  show GoOn p e below _ (T3.setTop (mkF m 9 #[.val (.ref a), .val (.int mo), .val (.ref cc), .val (.int (1 : Int32)), .unset, .unset] [(.int (0 : Int32))]))
  refine GoOn.step (fun t₀ k₀ => XS.istore X3.here hx rfl (hb hby d3_9) rfl (l' := #[.val (.ref a), .val (.int mo), .val (.ref cc), .val (.int (1 : Int32)), .val (.int (0 : Int32)), .unset]) rfl k₀) ?_
  show GoOn p e below _ (T3.setTop (mkF m 11 #[.val (.ref a), .val (.int mo), .val (.ref cc), .val (.int (1 : Int32)), .val (.int (0 : Int32)), .unset] []))
  refine GoOn.step (fun t₀ k₀ => XS.iload X3.here hx rfl (hb hby d3_11) rfl k₀) ?_
  show GoOn p e below _ (T3.setTop (mkF m 13 #[.val (.ref a), .val (.int mo), .val (.ref cc), .val (.int (1 : Int32)), .val (.int (0 : Int32)), .unset] [(.int (0 : Int32))]))
  refine GoOn.step (fun t₀ k₀ => XS.iloadN X3.here hx rfl (hb hby d3_13) rfl k₀) ?_
  show GoOn p e below _ (T3.setTop (mkF m 14 #[.val (.ref a), .val (.int mo), .val (.ref cc), .val (.int (1 : Int32)), .val (.int (0 : Int32)), .unset] [(.int (1 : Int32)), (.int (0 : Int32))]))
  have hf4 : (0 : Int32) < (1 : Int32) := (by decide)
  refine GoOn.step (fun t₀ k₀ => XS.icmpNo X3.here hx rfl (hb hby d3_14) rfl (tlt hf4).2.1 k₀) ?_
  show GoOn p e below _ (T3.setTop (mkF m 17 #[.val (.ref a), .val (.int mo), .val (.ref cc), .val (.int (1 : Int32)), .val (.int (0 : Int32)), .unset] []))
  refine GoOn.step (fun t₀ k₀ => XS.aloadN X3.here hx rfl (hb hby d3_17) rfl rfl k₀) ?_
  show GoOn p e below _ (T3.setTop (mkF m 18 #[.val (.ref a), .val (.int mo), .val (.ref cc), .val (.int (1 : Int32)), .val (.int (0 : Int32)), .unset] [(.ref cc)]))
  refine GoOn.step (fun t₀ k₀ => XS.iload X3.here hx rfl (hb hby d3_18) rfl k₀) ?_
  show GoOn p e below _ (T3.setTop (mkF m 20 #[.val (.ref a), .val (.int mo), .val (.ref cc), .val (.int (1 : Int32)), .val (.int (0 : Int32)), .unset] [(.int (0 : Int32)), (.ref cc)]))
  refine GoOn.step (fun t₀ k₀ => kLdI X3 hx hZ e3 J (j := (0 : Int32)) (v := (.int g0)) ⟨by decide, by decide⟩ rfl (g := (mkF m 20 #[.val (.ref a), .val (.int mo), .val (.ref cc), .val (.int (1 : Int32)), .val (.int (0 : Int32)), .unset] [(.int (0 : Int32)), (.ref cc)])) rfl rfl (hb hby d3_20) t₀ k₀) ?_
  show GoOn p e below _ (T3.setTop (mkF m 21 #[.val (.ref a), .val (.int mo), .val (.ref cc), .val (.int (1 : Int32)), .val (.int (0 : Int32)), .unset] [(.int g0)]))
  refine GoOn.step (fun t₀ k₀ => XS.istore X3.here hx rfl (hb hby d3_21) rfl (l' := #[.val (.ref a), .val (.int mo), .val (.ref cc), .val (.int (1 : Int32)), .val (.int (0 : Int32)), .val (.int g0)]) rfl k₀) ?_
  show GoOn p e below _ (T3.setTop (mkF m 23 #[.val (.ref a), .val (.int mo), .val (.ref cc), .val (.int (1 : Int32)), .val (.int (0 : Int32)), .val (.int g0)] []))
  refine GoOn.step (fun t₀ k₀ => XS.iload X3.here hx rfl (hb hby d3_23) rfl k₀) ?_
  show GoOn p e below _ (T3.setTop (mkF m 25 #[.val (.ref a), .val (.int mo), .val (.ref cc), .val (.int (1 : Int32)), .val (.int (0 : Int32)), .val (.int g0)] [(.int g0)]))
  refine GoOn.step (fun t₀ k₀ => XS.iloadN X3.here hx rfl (hb hby d3_25) rfl k₀) ?_
  show GoOn p e below _ (T3.setTop (mkF m 26 #[.val (.ref a), .val (.int mo), .val (.ref cc), .val (.int (1 : Int32)), .val (.int (0 : Int32)), .val (.int g0)] [(.int mo), (.int g0)]))
  by_cases c0 : g0 = mo
  · refine GoOn.step (fun t₀ k₀ => XS.icmpNo X3.here hx rfl (hb hby d3_26) rfl (teq c0).2 k₀) ?_
    show GoOn p e below _ (T3.setTop (mkF m 29 #[.val (.ref a), .val (.int mo), .val (.ref cc), .val (.int (1 : Int32)), .val (.int (0 : Int32)), .val (.int g0)] []))
    refine GoOn.step (fun t₀ k₀ => XS.iconst X3.here hx rfl (hb hby d3_29) k₀) ?_
    show GoOn p e below _ (T3.setTop (mkF m 30 #[.val (.ref a), .val (.int mo), .val (.ref cc), .val (.int (1 : Int32)), .val (.int (0 : Int32)), .val (.int g0)] [(.int (1 : Int32))]))
    exact GoOn.retN X3 hx hrt hlk (by simp) (hb hby d3_30) (by decide) (by decide) (by first | exact ⟨by rw [if_pos c0]; rfl, rfl, rfl⟩ | (rw [e3]; exact ⟨by rw [if_pos c0]; rfl, rfl, rfl⟩))
  · refine GoOn.step (fun t₀ k₀ => XS.icmpYes X3.here hx rfl (pc0 := 26) (pc' := 31) rfl (hb hby d3_26) rfl (feq c0).2 (by decide) (by decide) k₀) ?_
    show GoOn p e below _ (T3.setTop (mkF m 31 #[.val (.ref a), .val (.int mo), .val (.ref cc), .val (.int (1 : Int32)), .val (.int (0 : Int32)), .val (.int g0)] []))
    refine GoOn.step (fun t₀ k₀ => XS.iinc X3.here hx rfl (hb hby d3_31) rfl (l' := #[.val (.ref a), .val (.int mo), .val (.ref cc), .val (.int (1 : Int32)), .val (.int ((0 : Int32) + (1 : Int32))), .val (.int g0)]) rfl k₀) ?_
    show GoOn p e below _ (T3.setTop (mkF m 34 #[.val (.ref a), .val (.int mo), .val (.ref cc), .val (.int (1 : Int32)), .val (.int ((0 : Int32) + (1 : Int32))), .val (.int g0)] []))
    refine GoOn.step (fun t₀ k₀ => XS.goto X3.here hx rfl (pc0 := 34) (pc' := 11) rfl (hb hby d3_34) (by decide) (by decide) k₀) ?_
    show GoOn p e below _ (T3.setTop (mkF m 11 #[.val (.ref a), .val (.int mo), .val (.ref cc), .val (.int (1 : Int32)), .val (.int ((0 : Int32) + (1 : Int32))), .val (.int g0)] []))
    rw [show ((0 : Int32) + (1 : Int32)) = (1 : Int32) from (by decide)]
    refine GoOn.step (fun t₀ k₀ => XS.iload X3.here hx rfl (hb hby d3_11) rfl k₀) ?_
    show GoOn p e below _ (T3.setTop (mkF m 13 #[.val (.ref a), .val (.int mo), .val (.ref cc), .val (.int (1 : Int32)), .val (.int (1 : Int32)), .val (.int g0)] [(.int (1 : Int32))]))
    refine GoOn.step (fun t₀ k₀ => XS.iloadN X3.here hx rfl (hb hby d3_13) rfl k₀) ?_
    show GoOn p e below _ (T3.setTop (mkF m 14 #[.val (.ref a), .val (.int mo), .val (.ref cc), .val (.int (1 : Int32)), .val (.int (1 : Int32)), .val (.int g0)] [(.int (1 : Int32)), (.int (1 : Int32))]))
    have hf5 : ¬ ((1 : Int32) < (1 : Int32)) := (by decide)
    refine GoOn.step (fun t₀ k₀ => XS.icmpYes X3.here hx rfl (pc0 := 14) (pc' := 37) rfl (hb hby d3_14) rfl (flt hf5).2.1 (by decide) (by decide) k₀) ?_
    show GoOn p e below _ (T3.setTop (mkF m 37 #[.val (.ref a), .val (.int mo), .val (.ref cc), .val (.int (1 : Int32)), .val (.int (1 : Int32)), .val (.int g0)] []))
    refine GoOn.step (fun t₀ k₀ => XS.iconst X3.here hx rfl (hb hby d3_37) k₀) ?_
    show GoOn p e below _ (T3.setTop (mkF m 38 #[.val (.ref a), .val (.int mo), .val (.ref cc), .val (.int (1 : Int32)), .val (.int (1 : Int32)), .val (.int g0)] [(.int (0 : Int32))]))
    exact GoOn.retN X3 hx hrt hlk (by simp) (hb hby d3_38) (by decide) (by decide) (by first | exact ⟨by rw [if_neg c0]; rfl, rfl, rfl⟩ | (rw [e3]; exact ⟨by rw [if_neg c0]; rfl, rfl, rfl⟩))
theorem ef_c_acc2 (m : MethodId) (x0 : Addr) (x1 : Int32) : entryFrame m #[(.ref x0), (.int x1)] 6 = mkF m 0 #[.val (.ref x0), .val (.int x1), .unset, .unset, .unset, .unset] [] := by first | (simp [entryFrame, mkF, argsToLocals, Value.category]; done) | rfl
set_option maxRecDepth 65536 in
set_option maxHeartbeats 40000000 in
theorem c_acc2 (l : Launch) (Z : State) (a0 : Array Value) (hw : ∀ d ∈ tables_1, d.before a0 Z = true) (a cc : Addr) (mo g0 g1 : Int32) (h0 : Heap) (F : Fld Z h0 a "com/example/tidewire/tidewire/handshake/AuthRequest" "modes" "[I" (.ref cc)) (J : Jar Z h0 cc .int 2 (fun i => .int ([g0, g1].getD i 0))) :
    Con l Z (⟨"com/example/tidewire/tidewire/handshake/AuthRequest", "acceptsMode", "(I)Z"⟩ : MethodName) prog_48_method_6_code 6 (some .boolean) ({ frames := 0, cells := 0, slots := 0, locals := 0 } : Room) #[(.ref a), (.int mo)] h0 (PQ (some (.int (if g0 = mo then (1 : Int32) else (if g1 = mo then (1 : Int32) else (0 : Int32))))) h0) := by
  refine Con.intro (plainFor_of_name pn_0) ?_
  intro p e s m below meth c s₁ hx hby hml hrt hlk hZ hown hnm X0 e0
  replace hown : s.vm.findClass "com/example/tidewire/tidewire/handshake/AuthRequest" = some m.cls := hown
  refine GoOn.cast (ef_c_acc2 m a mo) ?_
  show GoOn p e below _ (s₁.setTop (mkF m 0 #[.val (.ref a), .val (.int mo), .unset, .unset, .unset, .unset] []))
  refine GoOn.step (fun t₀ k₀ => XS.aloadN X0.here hx rfl (hb hby d3_0) rfl rfl k₀) ?_
  show GoOn p e below _ (s₁.setTop (mkF m 1 #[.val (.ref a), .val (.int mo), .unset, .unset, .unset, .unset] [(.ref a)]))
  obtain ⟨T6, X6, e6, st6⟩ := getF X0 hx hZ hown (host := "") (Or.inl (hw _ (List.mem_of_getElem? (i := 22) rfl))) Via.refl e0 F (g := (mkF m 1 #[.val (.ref a), .val (.int mo), .unset, .unset, .unset, .unset] [(.ref a)])) rfl rfl (hb hby d3_1)
  refine GoOn.step st6 ?_
  show GoOn p e below _ (T6.setTop (mkF m 4 #[.val (.ref a), .val (.int mo), .unset, .unset, .unset, .unset] [(.ref cc)]))
  refine GoOn.step (fun t₀ k₀ => XS.astoreN X6.here hx rfl (hb hby d3_4) rfl rfl (l' := #[.val (.ref a), .val (.int mo), .val (.ref cc), .unset, .unset, .unset]) rfl k₀) ?_
  show GoOn p e below _ (T6.setTop (mkF m 5 #[.val (.ref a), .val (.int mo), .val (.ref cc), .unset, .unset, .unset] []))
  refine GoOn.step (fun t₀ k₀ => XS.aloadN X6.here hx rfl (hb hby d3_5) rfl rfl k₀) ?_
  show GoOn p e below _ (T6.setTop (mkF m 6 #[.val (.ref a), .val (.int mo), .val (.ref cc), .unset, .unset, .unset] [(.ref cc)]))
  refine GoOn.step (fun t₀ k₀ => kLen X6 hx hZ e6 J (z := (2 : Int32)) rfl (g := (mkF m 6 #[.val (.ref a), .val (.int mo), .val (.ref cc), .unset, .unset, .unset] [(.ref cc)])) rfl rfl (hb hby d3_6) t₀ k₀) ?_
  show GoOn p e below _ (T6.setTop (mkF m 7 #[.val (.ref a), .val (.int mo), .val (.ref cc), .unset, .unset, .unset] [(.int (2 : Int32))]))
  refine GoOn.step (fun t₀ k₀ => XS.istoreN X6.here hx rfl (hb hby d3_7) rfl (l' := #[.val (.ref a), .val (.int mo), .val (.ref cc), .val (.int (2 : Int32)), .unset, .unset]) rfl k₀) ?_
  show GoOn p e below _ (T6.setTop (mkF m 8 #[.val (.ref a), .val (.int mo), .val (.ref cc), .val (.int (2 : Int32)), .unset, .unset] []))
  refine GoOn.step (fun t₀ k₀ => XS.iconst X6.here hx rfl (hb hby d3_8) k₀) ?_
  show GoOn p e below _ (T6.setTop (mkF m 9 #[.val (.ref a), .val (.int mo), .val (.ref cc), .val (.int (2 : Int32)), .unset, .unset] [(.int (0 : Int32))]))
  refine GoOn.step (fun t₀ k₀ => XS.istore X6.here hx rfl (hb hby d3_9) rfl (l' := #[.val (.ref a), .val (.int mo), .val (.ref cc), .val (.int (2 : Int32)), .val (.int (0 : Int32)), .unset]) rfl k₀) ?_
  show GoOn p e below _ (T6.setTop (mkF m 11 #[.val (.ref a), .val (.int mo), .val (.ref cc), .val (.int (2 : Int32)), .val (.int (0 : Int32)), .unset] []))
  refine GoOn.step (fun t₀ k₀ => XS.iload X6.here hx rfl (hb hby d3_11) rfl k₀) ?_
  show GoOn p e below _ (T6.setTop (mkF m 13 #[.val (.ref a), .val (.int mo), .val (.ref cc), .val (.int (2 : Int32)), .val (.int (0 : Int32)), .unset] [(.int (0 : Int32))]))
  refine GoOn.step (fun t₀ k₀ => XS.iloadN X6.here hx rfl (hb hby d3_13) rfl k₀) ?_
  show GoOn p e below _ (T6.setTop (mkF m 14 #[.val (.ref a), .val (.int mo), .val (.ref cc), .val (.int (2 : Int32)), .val (.int (0 : Int32)), .unset] [(.int (2 : Int32)), (.int (0 : Int32))]))
  have hf7 : (0 : Int32) < (2 : Int32) := (by decide)
  refine GoOn.step (fun t₀ k₀ => XS.icmpNo X6.here hx rfl (hb hby d3_14) rfl (tlt hf7).2.1 k₀) ?_
  show GoOn p e below _ (T6.setTop (mkF m 17 #[.val (.ref a), .val (.int mo), .val (.ref cc), .val (.int (2 : Int32)), .val (.int (0 : Int32)), .unset] []))
  refine GoOn.step (fun t₀ k₀ => XS.aloadN X6.here hx rfl (hb hby d3_17) rfl rfl k₀) ?_
  show GoOn p e below _ (T6.setTop (mkF m 18 #[.val (.ref a), .val (.int mo), .val (.ref cc), .val (.int (2 : Int32)), .val (.int (0 : Int32)), .unset] [(.ref cc)]))
  refine GoOn.step (fun t₀ k₀ => XS.iload X6.here hx rfl (hb hby d3_18) rfl k₀) ?_
  show GoOn p e below _ (T6.setTop (mkF m 20 #[.val (.ref a), .val (.int mo), .val (.ref cc), .val (.int (2 : Int32)), .val (.int (0 : Int32)), .unset] [(.int (0 : Int32)), (.ref cc)]))
  refine GoOn.step (fun t₀ k₀ => kLdI X6 hx hZ e6 J (j := (0 : Int32)) (v := (.int g0)) ⟨by decide, by decide⟩ rfl (g := (mkF m 20 #[.val (.ref a), .val (.int mo), .val (.ref cc), .val (.int (2 : Int32)), .val (.int (0 : Int32)), .unset] [(.int (0 : Int32)), (.ref cc)])) rfl rfl (hb hby d3_20) t₀ k₀) ?_
  show GoOn p e below _ (T6.setTop (mkF m 21 #[.val (.ref a), .val (.int mo), .val (.ref cc), .val (.int (2 : Int32)), .val (.int (0 : Int32)), .unset] [(.int g0)]))
  refine GoOn.step (fun t₀ k₀ => XS.istore X6.here hx rfl (hb hby d3_21) rfl (l' := #[.val (.ref a), .val (.int mo), .val (.ref cc), .val (.int (2 : Int32)), .val (.int (0 : Int32)), .val (.int g0)]) rfl k₀) ?_
  show GoOn p e below _ (T6.setTop (mkF m 23 #[.val (.ref a), .val (.int mo), .val (.ref cc), .val (.int (2 : Int32)), .val (.int (0 : Int32)), .val (.int g0)] []))
  refine GoOn.step (fun t₀ k₀ => XS.iload X6.here hx rfl (hb hby d3_23) rfl k₀) ?_
  show GoOn p e below _ (T6.setTop (mkF m 25 #[.val (.ref a), .val (.int mo), .val (.ref cc), .val (.int (2 : Int32)), .val (.int (0 : Int32)), .val (.int g0)] [(.int g0)]))
  refine GoOn.step (fun t₀ k₀ => XS.iloadN X6.here hx rfl (hb hby d3_25) rfl k₀) ?_
  show GoOn p e below _ (T6.setTop (mkF m 26 #[.val (.ref a), .val (.int mo), .val (.ref cc), .val (.int (2 : Int32)), .val (.int (0 : Int32)), .val (.int g0)] [(.int mo), (.int g0)]))
  by_cases c0 : g0 = mo
  · refine GoOn.step (fun t₀ k₀ => XS.icmpNo X6.here hx rfl (hb hby d3_26) rfl (teq c0).2 k₀) ?_
    show GoOn p e below _ (T6.setTop (mkF m 29 #[.val (.ref a), .val (.int mo), .val (.ref cc), .val (.int (2 : Int32)), .val (.int (0 : Int32)), .val (.int g0)] []))
    refine GoOn.step (fun t₀ k₀ => XS.iconst X6.here hx rfl (hb hby d3_29) k₀) ?_
    show GoOn p e below _ (T6.setTop (mkF m 30 #[.val (.ref a), .val (.int mo), .val (.ref cc), .val (.int (2 : Int32)), .val (.int (0 : Int32)), .val (.int g0)] [(.int (1 : Int32))]))
    exact GoOn.retN X6 hx hrt hlk (by simp) (hb hby d3_30) (by decide) (by decide) (by first | exact ⟨by rw [if_pos c0]; rfl, rfl, rfl⟩ | (rw [e6]; exact ⟨by rw [if_pos c0]; rfl, rfl, rfl⟩))
  · refine GoOn.step (fun t₀ k₀ => XS.icmpYes X6.here hx rfl (pc0 := 26) (pc' := 31) rfl (hb hby d3_26) rfl (feq c0).2 (by decide) (by decide) k₀) ?_
    show GoOn p e below _ (T6.setTop (mkF m 31 #[.val (.ref a), .val (.int mo), .val (.ref cc), .val (.int (2 : Int32)), .val (.int (0 : Int32)), .val (.int g0)] []))
    refine GoOn.step (fun t₀ k₀ => XS.iinc X6.here hx rfl (hb hby d3_31) rfl (l' := #[.val (.ref a), .val (.int mo), .val (.ref cc), .val (.int (2 : Int32)), .val (.int ((0 : Int32) + (1 : Int32))), .val (.int g0)]) rfl k₀) ?_
    show GoOn p e below _ (T6.setTop (mkF m 34 #[.val (.ref a), .val (.int mo), .val (.ref cc), .val (.int (2 : Int32)), .val (.int ((0 : Int32) + (1 : Int32))), .val (.int g0)] []))
    refine GoOn.step (fun t₀ k₀ => XS.goto X6.here hx rfl (pc0 := 34) (pc' := 11) rfl (hb hby d3_34) (by decide) (by decide) k₀) ?_
    show GoOn p e below _ (T6.setTop (mkF m 11 #[.val (.ref a), .val (.int mo), .val (.ref cc), .val (.int (2 : Int32)), .val (.int ((0 : Int32) + (1 : Int32))), .val (.int g0)] []))
    rw [show ((0 : Int32) + (1 : Int32)) = (1 : Int32) from (by decide)]
    refine GoOn.step (fun t₀ k₀ => XS.iload X6.here hx rfl (hb hby d3_11) rfl k₀) ?_
    show GoOn p e below _ (T6.setTop (mkF m 13 #[.val (.ref a), .val (.int mo), .val (.ref cc), .val (.int (2 : Int32)), .val (.int (1 : Int32)), .val (.int g0)] [(.int (1 : Int32))]))
    refine GoOn.step (fun t₀ k₀ => XS.iloadN X6.here hx rfl (hb hby d3_13) rfl k₀) ?_
    show GoOn p e below _ (T6.setTop (mkF m 14 #[.val (.ref a), .val (.int mo), .val (.ref cc), .val (.int (2 : Int32)), .val (.int (1 : Int32)), .val (.int g0)] [(.int (2 : Int32)), (.int (1 : Int32))]))
    have hf8 : (1 : Int32) < (2 : Int32) := (by decide)
    refine GoOn.step (fun t₀ k₀ => XS.icmpNo X6.here hx rfl (hb hby d3_14) rfl (tlt hf8).2.1 k₀) ?_
    show GoOn p e below _ (T6.setTop (mkF m 17 #[.val (.ref a), .val (.int mo), .val (.ref cc), .val (.int (2 : Int32)), .val (.int (1 : Int32)), .val (.int g0)] []))
    refine GoOn.step (fun t₀ k₀ => XS.aloadN X6.here hx rfl (hb hby d3_17) rfl rfl k₀) ?_
    show GoOn p e below _ (T6.setTop (mkF m 18 #[.val (.ref a), .val (.int mo), .val (.ref cc), .val (.int (2 : Int32)), .val (.int (1 : Int32)), .val (.int g0)] [(.ref cc)]))
    refine GoOn.step (fun t₀ k₀ => XS.iload X6.here hx rfl (hb hby d3_18) rfl k₀) ?_
    show GoOn p e below _ (T6.setTop (mkF m 20 #[.val (.ref a), .val (.int mo), .val (.ref cc), .val (.int (2 : Int32)), .val (.int (1 : Int32)), .val (.int g0)] [(.int (1 : Int32)), (.ref cc)]))
    refine GoOn.step (fun t₀ k₀ => kLdI X6 hx hZ e6 J (j := (1 : Int32)) (v := (.int g1)) ⟨by decide, by decide⟩ rfl (g := (mkF m 20 #[.val (.ref a), .val (.int mo), .val (.ref cc), .val (.int (2 : Int32)), .val (.int (1 : Int32)), .val (.int g0)] [(.int (1 : Int32)), (.ref cc)])) rfl rfl (hb hby d3_20) t₀ k₀) ?_
    show GoOn p e below _ (T6.setTop (mkF m 21 #[.val (.ref a), .val (.int mo), .val (.ref cc), .val (.int (2 : Int32)), .val (.int (1 : Int32)), .val (.int g0)] [(.int g1)]))
    refine GoOn.step (fun t₀ k₀ => XS.istore X6.here hx rfl (hb hby d3_21) rfl (l' := #[.val (.ref a), .val (.int mo), .val (.ref cc), .val (.int (2 : Int32)), .val (.int (1 : Int32)), .val (.int g1)]) rfl k₀) ?_
    show GoOn p e below _ (T6.setTop (mkF m 23 #[.val (.ref a), .val (.int mo), .val (.ref cc), .val (.int (2 : Int32)), .val (.int (1 : Int32)), .val (.int g1)] []))
    refine GoOn.step (fun t₀ k₀ => XS.iload X6.here hx rfl (hb hby d3_23) rfl k₀) ?_
    show GoOn p e below _ (T6.setTop (mkF m 25 #[.val (.ref a), .val (.int mo), .val (.ref cc), .val (.int (2 : Int32)), .val (.int (1 : Int32)), .val (.int g1)] [(.int g1)]))
    refine GoOn.step (fun t₀ k₀ => XS.iloadN X6.here hx rfl (hb hby d3_25) rfl k₀) ?_
    show GoOn p e below _ (T6.setTop (mkF m 26 #[.val (.ref a), .val (.int mo), .val (.ref cc), .val (.int (2 : Int32)), .val (.int (1 : Int32)), .val (.int g1)] [(.int mo), (.int g1)]))
    by_cases c1 : g1 = mo
    · refine GoOn.step (fun t₀ k₀ => XS.icmpNo X6.here hx rfl (hb hby d3_26) rfl (teq c1).2 k₀) ?_
      show GoOn p e below _ (T6.setTop (mkF m 29 #[.val (.ref a), .val (.int mo), .val (.ref cc), .val (.int (2 : Int32)), .val (.int (1 : Int32)), .val (.int g1)] []))
      refine GoOn.step (fun t₀ k₀ => XS.iconst X6.here hx rfl (hb hby d3_29) k₀) ?_
      show GoOn p e below _ (T6.setTop (mkF m 30 #[.val (.ref a), .val (.int mo), .val (.ref cc), .val (.int (2 : Int32)), .val (.int (1 : Int32)), .val (.int g1)] [(.int (1 : Int32))]))
      exact GoOn.retN X6 hx hrt hlk (by simp) (hb hby d3_30) (by decide) (by decide) (by first | exact ⟨by rw [if_neg c0, if_pos c1]; rfl, rfl, rfl⟩ | (rw [e6]; exact ⟨by rw [if_neg c0, if_pos c1]; rfl, rfl, rfl⟩))
    · refine GoOn.step (fun t₀ k₀ => XS.icmpYes X6.here hx rfl (pc0 := 26) (pc' := 31) rfl (hb hby d3_26) rfl (feq c1).2 (by decide) (by decide) k₀) ?_
      show GoOn p e below _ (T6.setTop (mkF m 31 #[.val (.ref a), .val (.int mo), .val (.ref cc), .val (.int (2 : Int32)), .val (.int (1 : Int32)), .val (.int g1)] []))
      refine GoOn.step (fun t₀ k₀ => XS.iinc X6.here hx rfl (hb hby d3_31) rfl (l' := #[.val (.ref a), .val (.int mo), .val (.ref cc), .val (.int (2 : Int32)), .val (.int ((1 : Int32) + (1 : Int32))), .val (.int g1)]) rfl k₀) ?_
      show GoOn p e below _ (T6.setTop (mkF m 34 #[.val (.ref a), .val (.int mo), .val (.ref cc), .val (.int (2 : Int32)), .val (.int ((1 : Int32) + (1 : Int32))), .val (.int g1)] []))
      refine GoOn.step (fun t₀ k₀ => XS.goto X6.here hx rfl (pc0 := 34) (pc' := 11) rfl (hb hby d3_34) (by decide) (by decide) k₀) ?_
      show GoOn p e below _ (T6.setTop (mkF m 11 #[.val (.ref a), .val (.int mo), .val (.ref cc), .val (.int (2 : Int32)), .val (.int ((1 : Int32) + (1 : Int32))), .val (.int g1)] []))
      rw [show ((1 : Int32) + (1 : Int32)) = (2 : Int32) from (by decide)]
      refine GoOn.step (fun t₀ k₀ => XS.iload X6.here hx rfl (hb hby d3_11) rfl k₀) ?_
      show GoOn p e below _ (T6.setTop (mkF m 13 #[.val (.ref a), .val (.int mo), .val (.ref cc), .val (.int (2 : Int32)), .val (.int (2 : Int32)), .val (.int g1)] [(.int (2 : Int32))]))
      refine GoOn.step (fun t₀ k₀ => XS.iloadN X6.here hx rfl (hb hby d3_13) rfl k₀) ?_
      show GoOn p e below _ (T6.setTop (mkF m 14 #[.val (.ref a), .val (.int mo), .val (.ref cc), .val (.int (2 : Int32)), .val (.int (2 : Int32)), .val (.int g1)] [(.int (2 : Int32)), (.int (2 : Int32))]))
      have hf9 : ¬ ((2 : Int32) < (2 : Int32)) := (by decide)
      refine GoOn.step (fun t₀ k₀ => XS.icmpYes X6.here hx rfl (pc0 := 14) (pc' := 37) rfl (hb hby d3_14) rfl (flt hf9).2.1 (by decide) (by decide) k₀) ?_
      show GoOn p e below _ (T6.setTop (mkF m 37 #[.val (.ref a), .val (.int mo), .val (.ref cc), .val (.int (2 : Int32)), .val (.int (2 : Int32)), .val (.int g1)] []))
      refine GoOn.step (fun t₀ k₀ => XS.iconst X6.here hx rfl (hb hby d3_37) k₀) ?_
      show GoOn p e below _ (T6.setTop (mkF m 38 #[.val (.ref a), .val (.int mo), .val (.ref cc), .val (.int (2 : Int32)), .val (.int (2 : Int32)), .val (.int g1)] [(.int (0 : Int32))]))
      exact GoOn.retN X6 hx hrt hlk (by simp) (hb hby d3_38) (by decide) (by decide) (by first | exact ⟨by rw [if_neg c0, if_neg c1]; rfl, rfl, rfl⟩ | (rw [e6]; exact ⟨by rw [if_neg c0, if_neg c1]; rfl, rfl, rfl⟩))
theorem ef_c_acc3 (m : MethodId) (x0 : Addr) (x1 : Int32) : entryFrame m #[(.ref x0), (.int x1)] 6 = mkF m 0 #[.val (.ref x0), .val (.int x1), .unset, .unset, .unset, .unset] [] := by first | (simp [entryFrame, mkF, argsToLocals, Value.category]; done) | rfl
set_option maxRecDepth 65536 in
set_option maxHeartbeats 40000000 in
theorem c_acc3 (l : Launch) (Z : State) (a0 : Array Value) (hw : ∀ d ∈ tables_1, d.before a0 Z = true) (a cc : Addr) (mo g0 g1 g2 : Int32) (h0 : Heap) (F : Fld Z h0 a "com/example/tidewire/tidewire/handshake/AuthRequest" "modes" "[I" (.ref cc)) (J : Jar Z h0 cc .int 3 (fun i => .int ([g0, g1, g2].getD i 0))) :
    Con l Z (⟨"com/example/tidewire/tidewire/handshake/AuthRequest", "acceptsMode", "(I)Z"⟩ : MethodName) prog_48_method_6_code 6 (some .boolean) ({ frames := 0, cells := 0, slots := 0, locals := 0 } : Room) #[(.ref a), (.int mo)] h0 (PQ (some (.int (if g0 = mo then (1 : Int32) else (if g1 = mo then (1 : Int32) else (if g2 = mo then (1 : Int32) else (0 : Int32)))))) h0) := by
  refine Con.intro (plainFor_of_name pn_0) ?_
  intro p e s m below meth c s₁ hx hby hml hrt hlk hZ hown hnm X0 e0
  replace hown : s.vm.findClass "com/example/tidewire/tidewire/handshake/AuthRequest" = some m.cls := hown
  refine GoOn.cast (ef_c_acc3 m a mo) ?_
  show GoOn p e below _ (s₁.setTop (mkF m 0 #[.val (.ref a), .val (.int mo), .unset, .unset, .unset, .unset] []))
  refine GoOn.step (fun t₀ k₀ => XS.aloadN X0.here hx rfl (hb hby d3_0) rfl rfl k₀) ?_
  show GoOn p e below _ (s₁.setTop (mkF m 1 #[.val (.ref a), .val (.int mo), .unset, .unset, .unset, .unset] [(.ref a)]))
  obtain ⟨T10, X10, e10, st10⟩ := getF X0 hx hZ hown (host := "") (Or.inl (hw _ (List.mem_of_getElem? (i := 22) rfl))) Via.refl e0 F (g := (mkF m 1 #[.val (.ref a), .val (.int mo), .unset, .unset, .unset, .unset] [(.ref a)])) rfl rfl (hb hby d3_1)
  refine GoOn.step st10 ?_
  show GoOn p e below _ (T10.setTop (mkF m 4 #[.val (.ref a), .val (.int mo), .unset, .unset, .unset, .unset] [(.ref cc)]))
  refine GoOn.step (fun t₀ k₀ => XS.astoreN X10.here hx rfl (hb hby d3_4) rfl rfl (l' := #[.val (.ref a), .val (.int mo), .val (.ref cc), .unset, .unset, .unset]) rfl k₀) ?_
  show GoOn p e below _ (T10.setTop (mkF m 5 #[.val (.ref a), .val (.int mo), .val (.ref cc), .unset, .unset, .unset] []))
  refine GoOn.step (fun t₀ k₀ => XS.aloadN X10.here hx rfl (hb hby d3_5) rfl rfl k₀) ?_
  show GoOn p e below _ (T10.setTop (mkF m 6 #[.val (.ref a), .val (.int mo), .val (.ref cc), .unset, .unset, .unset] [(.ref cc)]))
  refine GoOn.step (fun t₀ k₀ => kLen X10 hx hZ e10 J (z := (3 : Int32)) rfl (g := (mkF m 6 #[.val (.ref a), .val (.int mo), .val (.ref cc), .unset, .unset, .unset] [(.ref cc)])) rfl rfl (hb hby d3_6) t₀ k₀) ?_
  show GoOn p e below _ (T10.setTop (mkF m 7 #[.val (.ref a), .val (.int mo), .val (.ref cc), .unset, .unset, .unset] [(.int (3 : Int32))]))
  refine GoOn.step (fun t₀ k₀ => XS.istoreN X10.here hx rfl (hb hby d3_7) rfl (l' := #[.val (.ref a), .val (.int mo), .val (.ref cc), .val (.int (3 : Int32)), .unset, .unset]) rfl k₀) ?_
  show GoOn p e below _ (T10.setTop (mkF m 8 #[.val (.ref a), .val (.int mo), .val (.ref cc), .val (.int (3 : Int32)), .unset, .unset] []))
  refine GoOn.step (fun t₀ k₀ => XS.iconst X10.here hx rfl (hb hby d3_8) k₀) ?_
  show GoOn p e below _ (T10.setTop (mkF m 9 #[.val (.ref a), .val (.int mo), .val (.ref cc), .val (.int (3 : Int32)), .unset, .unset] [(.int (0 : Int32))]))
  refine GoOn.step (fun t₀ k₀ => XS.istore X10.here hx rfl (hb hby d3_9) rfl (l' := #[.val (.ref a), .val (.int mo), .val (.ref cc), .val (.int (3 : Int32)), .val (.int (0 : Int32)), .unset]) rfl k₀) ?_
  show GoOn p e below _ (T10.setTop (mkF m 11 #[.val (.ref a), .val (.int mo), .val (.ref cc), .val (.int (3 : Int32)), .val (.int (0 : Int32)), .unset] []))
  refine GoOn.step (fun t₀ k₀ => XS.iload X10.here hx rfl (hb hby d3_11) rfl k₀) ?_
  show GoOn p e below _ (T10.setTop (mkF m 13 #[.val (.ref a), .val (.int mo), .val (.ref cc), .val (.int (3 : Int32)), .val (.int (0 : Int32)), .unset] [(.int (0 : Int32))]))
  refine GoOn.step (fun t₀ k₀ => XS.iloadN X10.here hx rfl (hb hby d3_13) rfl k₀) ?_
  show GoOn p e below _ (T10.setTop (mkF m 14 #[.val (.ref a), .val (.int mo), .val (.ref cc), .val (.int (3 : Int32)), .val (.int (0 : Int32)), .unset] [(.int (3 : Int32)), (.int (0 : Int32))]))
  have hf11 : (0 : Int32) < (3 : Int32) := (by decide)
  refine GoOn.step (fun t₀ k₀ => XS.icmpNo X10.here hx rfl (hb hby d3_14) rfl (tlt hf11).2.1 k₀) ?_
  show GoOn p e below _ (T10.setTop (mkF m 17 #[.val (.ref a), .val (.int mo), .val (.ref cc), .val (.int (3 : Int32)), .val (.int (0 : Int32)), .unset] []))
  refine GoOn.step (fun t₀ k₀ => XS.aloadN X10.here hx rfl (hb hby d3_17) rfl rfl k₀) ?_
  show GoOn p e below _ (T10.setTop (mkF m 18 #[.val (.ref a), .val (.int mo), .val (.ref cc), .val (.int (3 : Int32)), .val (.int (0 : Int32)), .unset] [(.ref cc)]))
  refine GoOn.step (fun t₀ k₀ => XS.iload X10.here hx rfl (hb hby d3_18) rfl k₀) ?_
  show GoOn p e below _ (T10.setTop (mkF m 20 #[.val (.ref a), .val (.int mo), .val (.ref cc), .val (.int (3 : Int32)), .val (.int (0 : Int32)), .unset] [(.int (0 : Int32)), (.ref cc)]))
  refine GoOn.step (fun t₀ k₀ => kLdI X10 hx hZ e10 J (j := (0 : Int32)) (v := (.int g0)) ⟨by decide, by decide⟩ rfl (g := (mkF m 20 #[.val (.ref a), .val (.int mo), .val (.ref cc), .val (.int (3 : Int32)), .val (.int (0 : Int32)), .unset] [(.int (0 : Int32)), (.ref cc)])) rfl rfl (hb hby d3_20) t₀ k₀) ?_
  show GoOn p e below _ (T10.setTop (mkF m 21 #[.val (.ref a), .val (.int mo), .val (.ref cc), .val (.int (3 : Int32)), .val (.int (0 : Int32)), .unset] [(.int g0)]))
  refine GoOn.step (fun t₀ k₀ => XS.istore X10.here hx rfl (hb hby d3_21) rfl (l' := #[.val (.ref a), .val (.int mo), .val (.ref cc), .val (.int (3 : Int32)), .val (.int (0 : Int32)), .val (.int g0)]) rfl k₀) ?_
  show GoOn p e below _ (T10.setTop (mkF m 23 #[.val (.ref a), .val (.int mo), .val (.ref cc), .val (.int (3 : Int32)), .val (.int (0 : Int32)), .val (.int g0)] []))
  refine GoOn.step (fun t₀ k₀ => XS.iload X10.here hx rfl (hb hby d3_23) rfl k₀) ?_
  show GoOn p e below _ (T10.setTop (mkF m 25 #[.val (.ref a), .val (.int mo), .val (.ref cc), .val (.int (3 : Int32)), .val (.int (0 : Int32)), .val (.int g0)] [(.int g0)]))
  refine GoOn.step (fun t₀ k₀ => XS.iloadN X10.here hx rfl (hb hby d3_25) rfl k₀) ?_
  show GoOn p e below _ (T10.setTop (mkF m 26 #[.val (.ref a), .val (.int mo), .val (.ref cc), .val (.int (3 : Int32)), .val (.int (0 : Int32)), .val (.int g0)] [(.int mo), (.int g0)]))
  by_cases c0 : g0 = mo
  · refine GoOn.step (fun t₀ k₀ => XS.icmpNo X10.here hx rfl (hb hby d3_26) rfl (teq c0).2 k₀) ?_
    show GoOn p e below _ (T10.setTop (mkF m 29 #[.val (.ref a), .val (.int mo), .val (.ref cc), .val (.int (3 : Int32)), .val (.int (0 : Int32)), .val (.int g0)] []))
    refine GoOn.step (fun t₀ k₀ => XS.iconst X10.here hx rfl (hb hby d3_29) k₀) ?_
    show GoOn p e below _ (T10.setTop (mkF m 30 #[.val (.ref a), .val (.int mo), .val (.ref cc), .val (.int (3 : Int32)), .val (.int (0 : Int32)), .val (.int g0)] [(.int (1 : Int32))]))
    exact GoOn.retN X10 hx hrt hlk (by simp) (hb hby d3_30) (by decide) (by decide) (by first | exact ⟨by rw [if_pos c0]; rfl, rfl, rfl⟩ | (rw [e10]; exact ⟨by rw [if_pos c0]; rfl, rfl, rfl⟩))
  · refine GoOn.step (fun t₀ k₀ => XS.icmpYes X10.here hx rfl (pc0 := 26) (pc' := 31) rfl (hb hby d3_26) rfl (feq c0).2 (by decide) (by decide) k₀) ?_
    show GoOn p e below _ (T10.setTop (mkF m 31 #[.val (.ref a), .val (.int mo), .val (.ref cc), .val (.int (3 : Int32)), .val (.int (0 : Int32)), .val (.int g0)] []))
    refine GoOn.step (fun t₀ k₀ => XS.iinc X10.here hx rfl (hb hby d3_31) rfl (l' := #[.val (.ref a), .val (.int mo), .val (.ref cc), .val (.int (3 : Int32)), .val (.int ((0 : Int32) + (1 : Int32))), .val (.int g0)]) rfl k₀) ?_
    show GoOn p e below _ (T10.setTop (mkF m 34 #[.val (.ref a), .val (.int mo), .val (.ref cc), .val (.int (3 : Int32)), .val (.int ((0 : Int32) + (1 : Int32))), .val (.int g0)] []))
    refine GoOn.step (fun t₀ k₀ => XS.goto X10.here hx rfl (pc0 := 34) (pc' := 11) rfl (hb hby d3_34) (by decide) (by decide) k₀) ?_
    show GoOn p e below _ (T10.setTop (mkF m 11 #[.val (.ref a), .val (.int mo), .val (.ref cc), .val (.int (3 : Int32)), .val (.int ((0 : Int32) + (1 : Int32))), .val (.int g0)] []))
    rw [show ((0 : Int32) + (1 : Int32)) = (1 : Int32) from (by decide)]
    refine GoOn.step (fun t₀ k₀ => XS.iload X10.here hx rfl (hb hby d3_11) rfl k₀) ?_
    show GoOn p e below _ (T10.setTop (mkF m 13 #[.val (.ref a), .val (.int mo), .val (.ref cc), .val (.int (3 : Int32)), .val (.int (1 : Int32)), .val (.int g0)] [(.int (1 : Int32))]))
    refine GoOn.step (fun t₀ k₀ => XS.iloadN X10.here hx rfl (hb hby d3_13) rfl k₀) ?_
    show GoOn p e below _ (T10.setTop (mkF m 14 #[.val (.ref a), .val (.int mo), .val (.ref cc), .val (.int (3 : Int32)), .val (.int (1 : Int32)), .val (.int g0)] [(.int (3 : Int32)), (.int (1 : Int32))]))
    have hf12 : (1 : Int32) < (3 : Int32) := (by decide)
    refine GoOn.step (fun t₀ k₀ => XS.icmpNo X10.here hx rfl (hb hby d3_14) rfl (tlt hf12).2.1 k₀) ?_
    show GoOn p e below _ (T10.setTop (mkF m 17 #[.val (.ref a), .val (.int mo), .val (.ref cc), .val (.int (3 : Int32)), .val (.int (1 : Int32)), .val (.int g0)] []))
    refine GoOn.step (fun t₀ k₀ => XS.aloadN X10.here hx rfl (hb hby d3_17) rfl rfl k₀) ?_
    show GoOn p e below _ (T10.setTop (mkF m 18 #[.val (.ref a), .val (.int mo), .val (.ref cc), .val (.int (3 : Int32)), .val (.int (1 : Int32)), .val (.int g0)] [(.ref cc)]))
    refine GoOn.step (fun t₀ k₀ => XS.iload X10.here hx rfl (hb hby d3_18) rfl k₀) ?_
    show GoOn p e below _ (T10.setTop (mkF m 20 #[.val (.ref a), .val (.int mo), .val (.ref cc), .val (.int (3 : Int32)), .val (.int (1 : Int32)), .val (.int g0)] [(.int (1 : Int32)), (.ref cc)]))
    refine GoOn.step (fun t₀ k₀ => kLdI X10 hx hZ e10 J (j := (1 : Int32)) (v := (.int g1)) ⟨by decide, by decide⟩ rfl (g := (mkF m 20 #[.val (.ref a), .val (.int mo), .val (.ref cc), .val (.int (3 : Int32)), .val (.int (1 : Int32)), .val (.int g0)] [(.int (1 : Int32)), (.ref cc)])) rfl rfl (hb hby d3_20) t₀ k₀) ?_
    show GoOn p e below _ (T10.setTop (mkF m 21 #[.val (.ref a), .val (.int mo), .val (.ref cc), .val (.int (3 : Int32)), .val (.int (1 : Int32)), .val (.int g0)] [(.int g1)]))
    refine GoOn.step (fun t₀ k₀ => XS.istore X10.here hx rfl (hb hby d3_21) rfl (l' := #[.val (.ref a), .val (.int mo), .val (.ref cc), .val (.int (3 : Int32)), .val (.int (1 : Int32)), .val (.int g1)]) rfl k₀) ?_
    show GoOn p e below _ (T10.setTop (mkF m 23 #[.val (.ref a), .val (.int mo), .val (.ref cc), .val (.int (3 : Int32)), .val (.int (1 : Int32)), .val (.int g1)] []))
    refine GoOn.step (fun t₀ k₀ => XS.iload X10.here hx rfl (hb hby d3_23) rfl k₀) ?_
    show GoOn p e below _ (T10.setTop (mkF m 25 #[.val (.ref a), .val (.int mo), .val (.ref cc), .val (.int (3 : Int32)), .val (.int (1 : Int32)), .val (.int g1)] [(.int g1)]))
    refine GoOn.step (fun t₀ k₀ => XS.iloadN X10.here hx rfl (hb hby d3_25) rfl k₀) ?_
    show GoOn p e below _ (T10.setTop (mkF m 26 #[.val (.ref a), .val (.int mo), .val (.ref cc), .val (.int (3 : Int32)), .val (.int (1 : Int32)), .val (.int g1)] [(.int mo), (.int g1)]))
    by_cases c1 : g1 = mo
    · refine GoOn.step (fun t₀ k₀ => XS.icmpNo X10.here hx rfl (hb hby d3_26) rfl (teq c1).2 k₀) ?_
      show GoOn p e below _ (T10.setTop (mkF m 29 #[.val (.ref a), .val (.int mo), .val (.ref cc), .val (.int (3 : Int32)), .val (.int (1 : Int32)), .val (.int g1)] []))
      refine GoOn.step (fun t₀ k₀ => XS.iconst X10.here hx rfl (hb hby d3_29) k₀) ?_
      show GoOn p e below _ (T10.setTop (mkF m 30 #[.val (.ref a), .val (.int mo), .val (.ref cc), .val (.int (3 : Int32)), .val (.int (1 : Int32)), .val (.int g1)] [(.int (1 : Int32))]))
      exact GoOn.retN X10 hx hrt hlk (by simp) (hb hby d3_30) (by decide) (by decide) (by first | exact ⟨by rw [if_neg c0, if_pos c1]; rfl, rfl, rfl⟩ | (rw [e10]; exact ⟨by rw [if_neg c0, if_pos c1]; rfl, rfl, rfl⟩))
    · refine GoOn.step (fun t₀ k₀ => XS.icmpYes X10.here hx rfl (pc0 := 26) (pc' := 31) rfl (hb hby d3_26) rfl (feq c1).2 (by decide) (by decide) k₀) ?_
      show GoOn p e below _ (T10.setTop (mkF m 31 #[.val (.ref a), .val (.int mo), .val (.ref cc), .val (.int (3 : Int32)), .val (.int (1 : Int32)), .val (.int g1)] []))
      refine GoOn.step (fun t₀ k₀ => XS.iinc X10.here hx rfl (hb hby d3_31) rfl (l' := #[.val (.ref a), .val (.int mo), .val (.ref cc), .val (.int (3 : Int32)), .val (.int ((1 : Int32) + (1 : Int32))), .val (.int g1)]) rfl k₀) ?_
      show GoOn p e below _ (T10.setTop (mkF m 34 #[.val (.ref a), .val (.int mo), .val (.ref cc), .val (.int (3 : Int32)), .val (.int ((1 : Int32) + (1 : Int32))), .val (.int g1)] []))
      refine GoOn.step (fun t₀ k₀ => XS.goto X10.here hx rfl (pc0 := 34) (pc' := 11) rfl (hb hby d3_34) (by decide) (by decide) k₀) ?_
      show GoOn p e below _ (T10.setTop (mkF m 11 #[.val (.ref a), .val (.int mo), .val (.ref cc), .val (.int (3 : Int32)), .val (.int ((1 : Int32) + (1 : Int32))), .val (.int g1)] []))
      rw [show ((1 : Int32) + (1 : Int32)) = (2 : Int32) from (by decide)]
      refine GoOn.step (fun t₀ k₀ => XS.iload X10.here hx rfl (hb hby d3_11) rfl k₀) ?_
      show GoOn p e below _ (T10.setTop (mkF m 13 #[.val (.ref a), .val (.int mo), .val (.ref cc), .val (.int (3 : Int32)), .val (.int (2 : Int32)), .val (.int g1)] [(.int (2 : Int32))]))
      refine GoOn.step (fun t₀ k₀ => XS.iloadN X10.here hx rfl (hb hby d3_13) rfl k₀) ?_
      show GoOn p e below _ (T10.setTop (mkF m 14 #[.val (.ref a), .val (.int mo), .val (.ref cc), .val (.int (3 : Int32)), .val (.int (2 : Int32)), .val (.int g1)] [(.int (3 : Int32)), (.int (2 : Int32))]))
      have hf13 : (2 : Int32) < (3 : Int32) := (by decide)
      refine GoOn.step (fun t₀ k₀ => XS.icmpNo X10.here hx rfl (hb hby d3_14) rfl (tlt hf13).2.1 k₀) ?_
      show GoOn p e below _ (T10.setTop (mkF m 17 #[.val (.ref a), .val (.int mo), .val (.ref cc), .val (.int (3 : Int32)), .val (.int (2 : Int32)), .val (.int g1)] []))
      refine GoOn.step (fun t₀ k₀ => XS.aloadN X10.here hx rfl (hb hby d3_17) rfl rfl k₀) ?_
      show GoOn p e below _ (T10.setTop (mkF m 18 #[.val (.ref a), .val (.int mo), .val (.ref cc), .val (.int (3 : Int32)), .val (.int (2 : Int32)), .val (.int g1)] [(.ref cc)]))
      refine GoOn.step (fun t₀ k₀ => XS.iload X10.here hx rfl (hb hby d3_18) rfl k₀) ?_
      show GoOn p e below _ (T10.setTop (mkF m 20 #[.val (.ref a), .val (.int mo), .val (.ref cc), .val (.int (3 : Int32)), .val (.int (2 : Int32)), .val (.int g1)] [(.int (2 : Int32)), (.ref cc)]))
      refine GoOn.step (fun t₀ k₀ => kLdI X10 hx hZ e10 J (j := (2 : Int32)) (v := (.int g2)) ⟨by decide, by decide⟩ rfl (g := (mkF m 20 #[.val (.ref a), .val (.int mo), .val (.ref cc), .val (.int (3 : Int32)), .val (.int (2 : Int32)), .val (.int g1)] [(.int (2 : Int32)), (.ref cc)])) rfl rfl (hb hby d3_20) t₀ k₀) ?_
      show GoOn p e below _ (T10.setTop (mkF m 21 #[.val (.ref a), .val (.int mo), .val (.ref cc), .val (.int (3 : Int32)), .val (.int (2 : Int32)), .val (.int g1)] [(.int g2)]))
      refine GoOn.step (fun t₀ k₀ => XS.istore X10.here hx rfl (hb hby d3_21) rfl (l' := #[.val (.ref a), .val (.int mo), .val (.ref cc), .val (.int (3 : Int32)), .val (.int (2 : Int32)), .val (.int g2)]) rfl k₀) ?_
      show GoOn p e below _ (T10.setTop (mkF m 23 #[.val (.ref a), .val (.int mo), .val (.ref cc), .val (.int (3 : Int32)), .val (.int (2 : Int32)), .val (.int g2)] []))
      refine GoOn.step (fun t₀ k₀ => XS.iload X10.here hx rfl (hb hby d3_23) rfl k₀) ?_
      show GoOn p e below _ (T10.setTop (mkF m 25 #[.val (.ref a), .val (.int mo), .val (.ref cc), .val (.int (3 : Int32)), .val (.int (2 : Int32)), .val (.int g2)] [(.int g2)]))
      refine GoOn.step (fun t₀ k₀ => XS.iloadN X10.here hx rfl (hb hby d3_25) rfl k₀) ?_
      show GoOn p e below _ (T10.setTop (mkF m 26 #[.val (.ref a), .val (.int mo), .val (.ref cc), .val (.int (3 : Int32)), .val (.int (2 : Int32)), .val (.int g2)] [(.int mo), (.int g2)]))
      by_cases c2 : g2 = mo
      · refine GoOn.step (fun t₀ k₀ => XS.icmpNo X10.here hx rfl (hb hby d3_26) rfl (teq c2).2 k₀) ?_
        show GoOn p e below _ (T10.setTop (mkF m 29 #[.val (.ref a), .val (.int mo), .val (.ref cc), .val (.int (3 : Int32)), .val (.int (2 : Int32)), .val (.int g2)] []))
        refine GoOn.step (fun t₀ k₀ => XS.iconst X10.here hx rfl (hb hby d3_29) k₀) ?_
        show GoOn p e below _ (T10.setTop (mkF m 30 #[.val (.ref a), .val (.int mo), .val (.ref cc), .val (.int (3 : Int32)), .val (.int (2 : Int32)), .val (.int g2)] [(.int (1 : Int32))]))
        exact GoOn.retN X10 hx hrt hlk (by simp) (hb hby d3_30) (by decide) (by decide) (by first | exact ⟨by rw [if_neg c0, if_neg c1, if_pos c2]; rfl, rfl, rfl⟩ | (rw [e10]; exact ⟨by rw [if_neg c0, if_neg c1, if_pos c2]; rfl, rfl, rfl⟩))
      · refine GoOn.step (fun t₀ k₀ => XS.icmpYes X10.here hx rfl (pc0 := 26) (pc' := 31) rfl (hb hby d3_26) rfl (feq c2).2 (by decide) (by decide) k₀) ?_
        show GoOn p e below _ (T10.setTop (mkF m 31 #[.val (.ref a), .val (.int mo), .val (.ref cc), .val (.int (3 : Int32)), .val (.int (2 : Int32)), .val (.int g2)] []))
        refine GoOn.step (fun t₀ k₀ => XS.iinc X10.here hx rfl (hb hby d3_31) rfl (l' := #[.val (.ref a), .val (.int mo), .val (.ref cc), .val (.int (3 : Int32)), .val (.int ((2 : Int32) + (1 : Int32))), .val (.int g2)]) rfl k₀) ?_
        show GoOn p e below _ (T10.setTop (mkF m 34 #[.val (.ref a), .val (.int mo), .val (.ref cc), .val (.int (3 : Int32)), .val (.int ((2 : Int32) + (1 : Int32))), .val (.int g2)] []))
        refine GoOn.step (fun t₀ k₀ => XS.goto X10.here hx rfl (pc0 := 34) (pc' := 11) rfl (hb hby d3_34) (by decide) (by decide) k₀) ?_
        show GoOn p e below _ (T10.setTop (mkF m 11 #[.val (.ref a), .val (.int mo), .val (.ref cc), .val (.int (3 : Int32)), .val (.int ((2 : Int32) + (1 : Int32))), .val (.int g2)] []))
        rw [show ((2 : Int32) + (1 : Int32)) = (3 : Int32) from (by decide)]
        refine GoOn.step (fun t₀ k₀ => XS.iload X10.here hx rfl (hb hby d3_11) rfl k₀) ?_
        show GoOn p e below _ (T10.setTop (mkF m 13 #[.val (.ref a), .val (.int mo), .val (.ref cc), .val (.int (3 : Int32)), .val (.int (3 : Int32)), .val (.int g2)] [(.int (3 : Int32))]))
        refine GoOn.step (fun t₀ k₀ => XS.iloadN X10.here hx rfl (hb hby d3_13) rfl k₀) ?_
        show GoOn p e below _ (T10.setTop (mkF m 14 #[.val (.ref a), .val (.int mo), .val (.ref cc), .val (.int (3 : Int32)), .val (.int (3 : Int32)), .val (.int g2)] [(.int (3 : Int32)), (.int (3 : Int32))]))
        have hf14 : ¬ ((3 : Int32) < (3 : Int32)) := (by decide)
        refine GoOn.step (fun t₀ k₀ => XS.icmpYes X10.here hx rfl (pc0 := 14) (pc' := 37) rfl (hb hby d3_14) rfl (flt hf14).2.1 (by decide) (by decide) k₀) ?_
        show GoOn p e below _ (T10.setTop (mkF m 37 #[.val (.ref a), .val (.int mo), .val (.ref cc), .val (.int (3 : Int32)), .val (.int (3 : Int32)), .val (.int g2)] []))
        refine GoOn.step (fun t₀ k₀ => XS.iconst X10.here hx rfl (hb hby d3_37) k₀) ?_
        show GoOn p e below _ (T10.setTop (mkF m 38 #[.val (.ref a), .val (.int mo), .val (.ref cc), .val (.int (3 : Int32)), .val (.int (3 : Int32)), .val (.int g2)] [(.int (0 : Int32))]))
        exact GoOn.retN X10 hx hrt hlk (by simp) (hb hby d3_38) (by decide) (by decide) (by first | exact ⟨by rw [if_neg c0, if_neg c1, if_neg c2]; rfl, rfl, rfl⟩ | (rw [e10]; exact ⟨by rw [if_neg c0, if_neg c1, if_neg c2]; rfl, rfl, rfl⟩))
def ArQ (Z : State) (a : Addr) (n : Nat) (g : Nat → Int32) (h0 : Heap) (n0 : Nat) : Option Value → Heap → List Loc → Prop := fun v h L => ∃ cm, v = none ∧ Fr n0 L ∧ Keep h0 h [a] ∧ Fld Z h a "com/example/tidewire/tidewire/handshake/AuthRequest" "modes" "[I" (.ref cm) ∧ Jar Z h cm .int n (fun i => .int (g i))
theorem ef_c_ini (m : MethodId) (x0 : Addr) (x1 : Int32) (x2 : Addr) (x3 : Addr) : entryFrame m #[(.ref x0), (.int x1), (.ref x2), (.ref x3)] 4 = mkF m 0 #[.val (.ref x0), .val (.int x1), .val (.ref x2), .val (.ref x3)] [] := by first | (simp [entryFrame, mkF, argsToLocals, Value.category]; done) | rfl
set_option maxRecDepth 65536 in
set_option maxHeartbeats 40000000 in
theorem c_ini (l : Launch) (Z : State) (a0 : Array Value) (hw : ∀ d ∈ tables_1, d.before a0 Z = true) (a ma pa : Addr) (me : Int32) (n : Nat) (g : Nat → Int32) (fp : Nat → Value) (h0 : Heap) (n0 : Nat) (Z0 : n0 ≤ h0.size) (Ex : Exa Z h0 a "com/example/tidewire/tidewire/handshake/AuthRequest") (Fm : Fld Z h0 a "com/example/tidewire/tidewire/handshake/AuthRequest" "method" "I" (.int (0 : Int32))) (Fo : Fld Z h0 a "com/example/tidewire/tidewire/handshake/AuthRequest" "modes" "[I" .null) (Fp : Fld Z h0 a "com/example/tidewire/tidewire/handshake/AuthRequest" "methodPayload" "[B" .null) (Jm : Jar Z h0 ma .int n (fun i => .int (g i))) (Em : Exa Z h0 ma "[I") (Jp : Jar Z h0 pa .byte 0 fp) (Ep : Exa Z h0 pa "[B") (ga : n0 ≤ a) (ne1 : ma ≠ a) (ne2 : pa ≠ a) (hn : n ≤ 3) :
    Con l Z (⟨"com/example/tidewire/tidewire/handshake/AuthRequest", "<init>", "(I[I[B)V"⟩ : MethodName) prog_48_method_1_code 4 none ({ frames := 1, cells := 2, slots := 3, locals := 24 } : Room) #[(.ref a), (.int me), (.ref ma), (.ref pa)] h0 (ArQ Z a n g h0 n0) := by
  refine Con.intro (plainFor_of_name pn_0) ?_
  intro p e s m below meth c s₁ hx hby hml hrt hlk hZ hown hnm X0 e0
  replace hown : s.vm.findClass "com/example/tidewire/tidewire/handshake/AuthRequest" = some m.cls := hown
  have N0 := Fr.nil n0
  refine GoOn.cast (ef_c_ini m a me ma pa) ?_
  show GoOn p e below _ (s₁.setTop (mkF m 0 #[.val (.ref a), .val (.int me), .val (.ref ma), .val (.ref pa)] []))
  have K0 : Keep h0 h0 [a] := Keep.refl _ _
  refine GoOn.step (fun t₀ k₀ => XS.aloadN X0.here hx rfl (hb hby d1_0) rfl rfl k₀) ?_
  show GoOn p e below _ (s₁.setTop (mkF m 1 #[.val (.ref a), .val (.int me), .val (.ref ma), .val (.ref pa)] [(.ref a)]))
  obtain ⟨T15, X15, e15, st15⟩ := initO X0 hx hZ hown (hw _ (List.mem_of_getElem? (i := 8) rfl)) (hw _ (List.mem_of_getElem? (i := 9) rfl)) (hw _ (List.mem_of_getElem? (i := 10) rfl)) e0 (g := (mkF m 1 #[.val (.ref a), .val (.int me), .val (.ref ma), .val (.ref pa)] [(.ref a)])) rfl (by rw [hml]; rfl) rfl (hb hby d1_1) (by decide) (W := 0) (by show 2 * 0 + _ ≤ _; exact Nat.le_of_eq rfl) (by decide)
  refine GoOn.step st15 ?_
  show GoOn p e below _ (T15.setTop (mkF m 4 #[.val (.ref a), .val (.int me), .val (.ref ma), .val (.ref pa)] []))
  refine GoOn.step (fun t₀ k₀ => XS.aloadN X15.here hx rfl (hb hby d1_4) rfl rfl k₀) ?_
  show GoOn p e below _ (T15.setTop (mkF m 5 #[.val (.ref a), .val (.int me), .val (.ref ma), .val (.ref pa)] [(.ref a)]))
  refine GoOn.step (fun t₀ k₀ => XS.iloadN X15.here hx rfl (hb hby d1_5) rfl k₀) ?_
  show GoOn p e below _ (T15.setTop (mkF m 6 #[.val (.ref a), .val (.int me), .val (.ref ma), .val (.ref pa)] [(.int me), (.ref a)]))
  obtain ⟨T16, h16, X16, e16, W16, st16⟩ := putF X15 hx hZ hown (host := "") (Or.inl (hw _ (List.mem_of_getElem? (i := 11) rfl))) Via.refl e15 Fm Ex (Or.inr ⟨(hw _ (List.mem_of_getElem? (i := 12) rfl)), rfl, hnm⟩) (hw _ (List.mem_of_getElem? (i := 2) rfl)) (ty := .int) (by decide) rfl rfl (g := (mkF m 6 #[.val (.ref a), .val (.int me), .val (.ref ma), .val (.ref pa)] [(.int me), (.ref a)])) rfl rfl (hb hby d1_6)
  replace N0 := Fr.snoc X16 N0 ga
  replace Ex := Ex.wr W16
  replace Fm := Fld.same W16 Fm
  replace Fo := Fo.other W16 (Or.inr (slot_ne (Or.inr (hw _ (List.mem_of_getElem? (i := 23) rfl))) (Or.inr (hw _ (List.mem_of_getElem? (i := 12) rfl))) (by decide) (t := (.array .int)) (t' := .int) (by decide) (by decide)))
  replace Fp := Fp.other W16 (Or.inr (slot_ne (Or.inr (hw _ (List.mem_of_getElem? (i := 31) rfl))) (Or.inr (hw _ (List.mem_of_getElem? (i := 12) rfl))) (by decide) (t := (.array .byte)) (t' := .int) (by decide) (by decide)))
  replace Jm := Jm.other W16 ne1
  replace Em := Em.wr W16
  replace Jp := Jp.other W16 ne2
  replace Ep := Ep.wr W16
  replace Z0 := Nat.le_trans Z0 (Nat.le_of_eq W16.size.symm)
  replace K0 := K0.wr W16 (Or.inl (by simp))
  refine GoOn.step st16 ?_
  show GoOn p e below _ (T16.setTop (mkF m 9 #[.val (.ref a), .val (.int me), .val (.ref ma), .val (.ref pa)] []))
  refine GoOn.step (fun t₀ k₀ => XS.aloadN X16.here hx rfl (hb hby d1_9) rfl rfl k₀) ?_
  show GoOn p e below _ (T16.setTop (mkF m 10 #[.val (.ref a), .val (.int me), .val (.ref ma), .val (.ref pa)] [(.ref a)]))
  refine GoOn.step (fun t₀ k₀ => XS.aloadN X16.here hx rfl (hb hby d1_10) rfl rfl k₀) ?_
  show GoOn p e below _ (T16.setTop (mkF m 11 #[.val (.ref a), .val (.int me), .val (.ref ma), .val (.ref pa)] [(.ref ma), (.ref a)]))
  obtain ⟨T17, h17, X17, e17, E17, A17, B17, st17⟩ := kClone X16 hx hZ hown (hw _ (List.mem_of_getElem? (i := 13) rfl)) (hw _ (List.mem_of_getElem? (i := 14) rfl)) (hw _ (List.mem_of_getElem? (i := 18) rfl)) (hw _ (List.mem_of_getElem? (i := 16) rfl)) (hw _ (List.mem_of_getElem? (i := 17) rfl)) (hw _ (List.mem_of_getElem? (i := 19) rfl)) e16 Jm Em (fun _ _ => rfl) (g := (mkF m 11 #[.val (.ref a), .val (.int me), .val (.ref ma), .val (.ref pa)] [(.ref ma), (.ref a)])) rfl (by rw [hml]; rfl) rfl (hb hby d1_11) (by decide) (W := 1) (cap := 3) (by show 2 * 0 + _ ≤ _; exact Nat.le_of_eq rfl) (by decide) hn (by decide) (by decide)
  obtain ⟨cm, g17⟩ : ∃ z, z = h16.size := ⟨_, rfl⟩
  rw [← g17] at A17 B17 st17
  have lt_a_cm : a < cm := by rw [g17]; exact Ex.lt
  have ne_a_cm : a ≠ cm := Nat.ne_of_lt lt_a_cm
  have lt_ma_cm : ma < cm := by rw [g17]; exact Jm.lt
  have ne_ma_cm : ma ≠ cm := Nat.ne_of_lt lt_ma_cm
  have lt_pa_cm : pa < cm := by rw [g17]; exact Jp.lt
  have ne_pa_cm : pa ≠ cm := Nat.ne_of_lt lt_pa_cm
  have le_cm : n0 ≤ cm := by rw [g17]; exact Z0
  have sz_cm : h0.size ≤ cm := by rw [g17]; exact K0.1
  replace Ex := Ex.ext E17
  replace Fm := Fm.ext E17
  replace Fo := Fo.ext E17
  replace Fp := Fp.ext E17
  replace Jm := Jm.ext E17
  replace Em := Em.ext E17
  replace Jp := Jp.ext E17
  replace Ep := Ep.ext E17
  replace Z0 := Nat.le_trans Z0 E17.1
  replace K0 := K0.ext E17
  have J_cm := A17
  have Ex_cm := B17
  refine GoOn.step st17 ?_
  show GoOn p e below _ (T17.setTop (mkF m 14 #[.val (.ref a), .val (.int me), .val (.ref ma), .val (.ref pa)] [(.ref cm), (.ref a)]))
  obtain ⟨T18, X18, e18, st18⟩ := castY X17 hx hZ hown (hw _ (List.mem_of_getElem? (i := 20) rfl)) e17 (Ins.self Ex_cm) (g := (mkF m 14 #[.val (.ref a), .val (.int me), .val (.ref ma), .val (.ref pa)] [(.ref cm), (.ref a)])) rfl rfl (hb hby d1_14)
  refine GoOn.step st18 ?_
  show GoOn p e below _ (T18.setTop (mkF m 17 #[.val (.ref a), .val (.int me), .val (.ref ma), .val (.ref pa)] [(.ref cm), (.ref a)]))
  obtain ⟨T19, h19, X19, e19, W19, st19⟩ := putF X18 hx hZ hown (host := "") (Or.inl (hw _ (List.mem_of_getElem? (i := 22) rfl))) Via.refl e18 Fo Ex (Or.inr ⟨(hw _ (List.mem_of_getElem? (i := 23) rfl)), rfl, hnm⟩) (hw _ (List.mem_of_getElem? (i := 2) rfl)) (ty := (.array .int)) (by decide) rfl rfl (g := (mkF m 17 #[.val (.ref a), .val (.int me), .val (.ref ma), .val (.ref pa)] [(.ref cm), (.ref a)])) rfl rfl (hb hby d1_17)
  replace N0 := Fr.snoc X19 N0 ga
  replace Ex := Ex.wr W19
  replace Fm := Fm.other W19 (Or.inr (slot_ne (Or.inr (hw _ (List.mem_of_getElem? (i := 12) rfl))) (Or.inr (hw _ (List.mem_of_getElem? (i := 23) rfl))) (by decide) (t := .int) (t' := (.array .int)) (by decide) (by decide)))
  replace Fo := Fld.same W19 Fo
  replace Fp := Fp.other W19 (Or.inr (slot_ne (Or.inr (hw _ (List.mem_of_getElem? (i := 31) rfl))) (Or.inr (hw _ (List.mem_of_getElem? (i := 23) rfl))) (by decide) (t := (.array .byte)) (t' := (.array .int)) (by decide) (by decide)))
  replace Jm := Jm.other W19 ne1
  replace Em := Em.wr W19
  replace Jp := Jp.other W19 ne2
  replace Ep := Ep.wr W19
  replace J_cm := J_cm.other W19 (Ne.symm ne_a_cm)
  replace Ex_cm := Ex_cm.wr W19
  replace Z0 := Nat.le_trans Z0 (Nat.le_of_eq W19.size.symm)
  replace K0 := K0.wr W19 (Or.inl (by simp))
  refine GoOn.step st19 ?_
  show GoOn p e below _ (T19.setTop (mkF m 20 #[.val (.ref a), .val (.int me), .val (.ref ma), .val (.ref pa)] []))
  refine GoOn.step (fun t₀ k₀ => XS.aloadN X19.here hx rfl (hb hby d1_20) rfl rfl k₀) ?_
  show GoOn p e below _ (T19.setTop (mkF m 21 #[.val (.ref a), .val (.int me), .val (.ref ma), .val (.ref pa)] [(.ref a)]))
  refine GoOn.step (fun t₀ k₀ => XS.aloadN X19.here hx rfl (hb hby d1_21) rfl rfl k₀) ?_
  show GoOn p e below _ (T19.setTop (mkF m 22 #[.val (.ref a), .val (.int me), .val (.ref ma), .val (.ref pa)] [(.ref pa), (.ref a)]))
  obtain ⟨T20, h20, X20, e20, E20, A20, B20, st20⟩ := kClone X19 hx hZ hown (hw _ (List.mem_of_getElem? (i := 24) rfl)) (hw _ (List.mem_of_getElem? (i := 25) rfl)) (hw _ (List.mem_of_getElem? (i := 18) rfl)) (hw _ (List.mem_of_getElem? (i := 16) rfl)) (hw _ (List.mem_of_getElem? (i := 26) rfl)) (hw _ (List.mem_of_getElem? (i := 27) rfl)) e19 Jp Ep (fun _ q => absurd q (Nat.not_lt_zero _)) (g := (mkF m 22 #[.val (.ref a), .val (.int me), .val (.ref ma), .val (.ref pa)] [(.ref pa), (.ref a)])) rfl (by rw [hml]; rfl) rfl (hb hby d1_22) (by decide) (W := 1) (cap := 0) (by show 2 * 0 + _ ≤ _; exact Nat.le_of_eq rfl) (by decide) (by decide) (by decide) (by decide)
  obtain ⟨cp, g20⟩ : ∃ z, z = h19.size := ⟨_, rfl⟩
  rw [← g20] at A20 B20 st20
  have lt_a_cp : a < cp := by rw [g20]; exact Ex.lt
  have ne_a_cp : a ≠ cp := Nat.ne_of_lt lt_a_cp
  have lt_ma_cp : ma < cp := by rw [g20]; exact Jm.lt
  have ne_ma_cp : ma ≠ cp := Nat.ne_of_lt lt_ma_cp
  have lt_pa_cp : pa < cp := by rw [g20]; exact Jp.lt
  have ne_pa_cp : pa ≠ cp := Nat.ne_of_lt lt_pa_cp
  have lt_cm_cp : cm < cp := by rw [g20]; exact J_cm.lt
  have ne_cm_cp : cm ≠ cp := Nat.ne_of_lt lt_cm_cp
  have le_cp : n0 ≤ cp := by rw [g20]; exact Z0
  have sz_cp : h0.size ≤ cp := by rw [g20]; exact K0.1
  replace Ex := Ex.ext E20
  replace Fm := Fm.ext E20
  replace Fo := Fo.ext E20
  replace Fp := Fp.ext E20
  replace Jm := Jm.ext E20
  replace Em := Em.ext E20
  replace Jp := Jp.ext E20
  replace Ep := Ep.ext E20
  replace J_cm := J_cm.ext E20
  replace Ex_cm := Ex_cm.ext E20
  replace Z0 := Nat.le_trans Z0 E20.1
  replace K0 := K0.ext E20
  have J_cp := A20
  have Ex_cp := B20
  refine GoOn.step st20 ?_
  show GoOn p e below _ (T20.setTop (mkF m 25 #[.val (.ref a), .val (.int me), .val (.ref ma), .val (.ref pa)] [(.ref cp), (.ref a)]))
  obtain ⟨T21, X21, e21, st21⟩ := castY X20 hx hZ hown (hw _ (List.mem_of_getElem? (i := 28) rfl)) e20 (Ins.self Ex_cp) (g := (mkF m 25 #[.val (.ref a), .val (.int me), .val (.ref ma), .val (.ref pa)] [(.ref cp), (.ref a)])) rfl rfl (hb hby d1_25)
  refine GoOn.step st21 ?_
  show GoOn p e below _ (T21.setTop (mkF m 28 #[.val (.ref a), .val (.int me), .val (.ref ma), .val (.ref pa)] [(.ref cp), (.ref a)]))
  obtain ⟨T22, h22, X22, e22, W22, st22⟩ := putF X21 hx hZ hown (host := "") (Or.inl (hw _ (List.mem_of_getElem? (i := 30) rfl))) Via.refl e21 Fp Ex (Or.inr ⟨(hw _ (List.mem_of_getElem? (i := 31) rfl)), rfl, hnm⟩) (hw _ (List.mem_of_getElem? (i := 2) rfl)) (ty := (.array .byte)) (by decide) rfl rfl (g := (mkF m 28 #[.val (.ref a), .val (.int me), .val (.ref ma), .val (.ref pa)] [(.ref cp), (.ref a)])) rfl rfl (hb hby d1_28)
  replace N0 := Fr.snoc X22 N0 ga
  replace Ex := Ex.wr W22
  replace Fm := Fm.other W22 (Or.inr (slot_ne (Or.inr (hw _ (List.mem_of_getElem? (i := 12) rfl))) (Or.inr (hw _ (List.mem_of_getElem? (i := 31) rfl))) (by decide) (t := .int) (t' := (.array .byte)) (by decide) (by decide)))
  replace Fo := Fo.other W22 (Or.inr (slot_ne (Or.inr (hw _ (List.mem_of_getElem? (i := 23) rfl))) (Or.inr (hw _ (List.mem_of_getElem? (i := 31) rfl))) (by decide) (t := (.array .int)) (t' := (.array .byte)) (by decide) (by decide)))
  replace Fp := Fld.same W22 Fp
  replace Jm := Jm.other W22 ne1
  replace Em := Em.wr W22
  replace Jp := Jp.other W22 ne2
  replace Ep := Ep.wr W22
  replace J_cm := J_cm.other W22 (Ne.symm ne_a_cm)
  replace Ex_cm := Ex_cm.wr W22
  replace J_cp := J_cp.other W22 (Ne.symm ne_a_cp)
  replace Ex_cp := Ex_cp.wr W22
  replace Z0 := Nat.le_trans Z0 (Nat.le_of_eq W22.size.symm)
  replace K0 := K0.wr W22 (Or.inl (by simp))
  refine GoOn.step st22 ?_
  show GoOn p e below _ (T22.setTop (mkF m 31 #[.val (.ref a), .val (.int me), .val (.ref ma), .val (.ref pa)] []))
  exact GoOn.ret0 X22 hx hrt hlk (hb hby d1_31) (by decide) (by decide) (by first | exact ⟨cm, rfl, N0, K0, Fo, J_cm⟩ | (rw [e22]; exact ⟨cm, rfl, N0, K0, Fo, J_cm⟩))
theorem ef_law_ok (m : MethodId) (x0 : Int32) (x1 : Int32) (x2 : Int32) (x3 : Int32) (x4 : Int32) : entryFrame m #[(.int x0), (.int x1), (.int x2), (.int x3), (.int x4)] maxLocals = mkF m 0 #[.val (.int x0), .val (.int x1), .val (.int x2), .val (.int x3), .val (.int x4), .unset, .unset, .unset, .unset, .unset, .unset] [] := by first | (simp [entryFrame, mkF, argsToLocals, Value.category, maxLocals]; done) | rfl
set_option maxRecDepth 65536 in
set_option maxHeartbeats 40000000 in
theorem law_ok (l : Launch) (Z : State) (a0 : Array Value) (hw : ∀ d ∈ tables_1, d.before a0 Z = true) (q0 q1 q2 q3 q4 : Int32) (h0 : Heap) (n0 : Nat) (Z0 : n0 ≤ h0.size)  :
    Con l Z x code maxLocals ret room_1 #[(.int q0), (.int q1), (.int q2), (.int q3), (.int q4)] h0 (LQ n0) := by
  refine Con.intro (plainFor_of_name pn_1) ?_
  intro p e s m below meth c s₁ hx hby hml hrt hlk hZ hown hnm X0 e0
  replace hown : s.vm.findClass "com/example/tidewire/tidewire/handshake/AuthRequestAcceptsModePinLaw" = some m.cls := hown
  have N0 := Fr.nil n0
  refine GoOn.cast (ef_law_ok m q0 q1 q2 q3 q4) ?_
  show GoOn p e below _ (s₁.setTop (mkF m 0 #[.val (.int q0), .val (.int q1), .val (.int q2), .val (.int q3), .val (.int q4), .unset, .unset, .unset, .unset, .unset, .unset] []))
  refine GoOn.step (fun t₀ k₀ => XS.iload X0.here hx rfl (hb hby at_0) rfl k₀) ?_
  show GoOn p e below _ (s₁.setTop (mkF m 2 #[.val (.int q0), .val (.int q1), .val (.int q2), .val (.int q3), .val (.int q4), .unset, .unset, .unset, .unset, .unset, .unset] [(.int q4)]))
  refine GoOn.step (fun t₀ k₀ => XS.iconst X0.here hx rfl (hb hby at_2) k₀) ?_
  show GoOn p e below _ (s₁.setTop (mkF m 3 #[.val (.int q0), .val (.int q1), .val (.int q2), .val (.int q3), .val (.int q4), .unset, .unset, .unset, .unset, .unset, .unset] [(.int (3 : Int32)), (.int q4)]))
  refine GoOn.step (fun t₀ k₀ => XS.iand X0.here hx rfl (hb hby at_3) rfl k₀) ?_
  show GoOn p e below _ (s₁.setTop (mkF m 4 #[.val (.int q0), .val (.int q1), .val (.int q2), .val (.int q3), .val (.int q4), .unset, .unset, .unset, .unset, .unset, .unset] [(.int (q4 &&& (3 : Int32)))]))
  have hm : (q4 &&& (3 : Int32)).toInt = q4.toInt % 4 := c_mask q4 3 2 (by decide) (by decide)
  generalize hv : (q4 &&& (3 : Int32)) = n
  have hvI := congrArg Int32.toInt hv
  refine GoOn.step (fun t₀ k₀ => XS.istore X0.here hx rfl (hb hby at_4) rfl (l' := #[.val (.int q0), .val (.int q1), .val (.int q2), .val (.int q3), .val (.int q4), .val (.int n), .unset, .unset, .unset, .unset, .unset]) rfl k₀) ?_
  show GoOn p e below _ (s₁.setTop (mkF m 6 #[.val (.int q0), .val (.int q1), .val (.int q2), .val (.int q3), .val (.int q4), .val (.int n), .unset, .unset, .unset, .unset, .unset] []))
  refine GoOn.step (fun t₀ k₀ => XS.iload X0.here hx rfl (hb hby at_6) rfl k₀) ?_
  show GoOn p e below _ (s₁.setTop (mkF m 8 #[.val (.int q0), .val (.int q1), .val (.int q2), .val (.int q3), .val (.int q4), .val (.int n), .unset, .unset, .unset, .unset, .unset] [(.int n)]))
  have hd : n = 0 ∨ n = 1 ∨ n = 2 ∨ n = 3 := by
    simp only [← Int32.toInt_inj, Int32.reduceToInt]; omega
  clear hm
  rcases hd with rfl | rfl | rfl | rfl
  · show GoOn p e below _ (s₁.setTop (mkF m 8 #[.val (.int q0), .val (.int q1), .val (.int q2), .val (.int q3), .val (.int q4), .val (.int (0 : Int32)), .unset, .unset, .unset, .unset, .unset] [(.int (0 : Int32))]))
    obtain ⟨T23, h23, k23, X23, e23, E23, A23, B23, st23⟩ := newPE X0 hx hZ (hw _ (List.mem_of_getElem? (i := 0) rfl)) e0 (g := (mkF m 8 #[.val (.int q0), .val (.int q1), .val (.int q2), .val (.int q3), .val (.int q4), .val (.int (0 : Int32)), .unset, .unset, .unset, .unset, .unset] [(.int (0 : Int32))])) rfl (hb hby at_8) rfl (by decide) (cap := 3) (by decide) (by decide) (by decide) (by decide) (ad := "[I") (by decide)
    obtain ⟨b, g23⟩ : ∃ z, z = h0.size := ⟨_, rfl⟩
    rw [← g23] at A23 B23 st23
    have le_b : n0 ≤ b := by rw [g23]; exact Z0
    replace Z0 := Nat.le_trans Z0 E23.1
    have J_b : Jar Z h23 b .int 0 (fun _ => defaultValue .int) := Jar.new A23 (by decide)
    have Ex_b : Exa Z h23 b "[I" := B23
    refine GoOn.step st23 ?_
    show GoOn p e below _ (T23.setTop (mkF m 10 #[.val (.int q0), .val (.int q1), .val (.int q2), .val (.int q3), .val (.int q4), .val (.int (0 : Int32)), .unset, .unset, .unset, .unset, .unset] [(.ref b)]))
    refine GoOn.step (fun t₀ k₀ => XS.astore X23.here hx rfl (hb hby at_10) rfl rfl (l' := #[.val (.int q0), .val (.int q1), .val (.int q2), .val (.int q3), .val (.int q4), .val (.int (0 : Int32)), .val (.ref b), .unset, .unset, .unset, .unset]) rfl k₀) ?_
    show GoOn p e below _ (T23.setTop (mkF m 12 #[.val (.int q0), .val (.int q1), .val (.int q2), .val (.int q3), .val (.int q4), .val (.int (0 : Int32)), .val (.ref b), .unset, .unset, .unset, .unset] []))
    refine GoOn.step (fun t₀ k₀ => XS.iload X23.here hx rfl (hb hby at_12) rfl k₀) ?_
    show GoOn p e below _ (T23.setTop (mkF m 14 #[.val (.int q0), .val (.int q1), .val (.int q2), .val (.int q3), .val (.int q4), .val (.int (0 : Int32)), .val (.ref b), .unset, .unset, .unset, .unset] [(.int (0 : Int32))]))
    refine GoOn.step (fun t₀ k₀ => XS.iconst X23.here hx rfl (hb hby at_14) k₀) ?_
    show GoOn p e below _ (T23.setTop (mkF m 15 #[.val (.int q0), .val (.int q1), .val (.int q2), .val (.int q3), .val (.int q4), .val (.int (0 : Int32)), .val (.ref b), .unset, .unset, .unset, .unset] [(.int (1 : Int32)), (.int (0 : Int32))]))
    have hf24 : (0 : Int32) < (1 : Int32) := (by decide)
    refine GoOn.step (fun t₀ k₀ => XS.icmpYes X23.here hx rfl (pc0 := 15) (pc' := 23) rfl (hb hby at_15) rfl (tlt hf24).1 (by decide) (by decide) k₀) ?_
    show GoOn p e below _ (T23.setTop (mkF m 23 #[.val (.int q0), .val (.int q1), .val (.int q2), .val (.int q3), .val (.int q4), .val (.int (0 : Int32)), .val (.ref b), .unset, .unset, .unset, .unset] []))
    refine GoOn.step (fun t₀ k₀ => XS.iload X23.here hx rfl (hb hby at_23) rfl k₀) ?_
    show GoOn p e below _ (T23.setTop (mkF m 25 #[.val (.int q0), .val (.int q1), .val (.int q2), .val (.int q3), .val (.int q4), .val (.int (0 : Int32)), .val (.ref b), .unset, .unset, .unset, .unset] [(.int (0 : Int32))]))
    refine GoOn.step (fun t₀ k₀ => XS.iconst X23.here hx rfl (hb hby at_25) k₀) ?_
    show GoOn p e below _ (T23.setTop (mkF m 26 #[.val (.int q0), .val (.int q1), .val (.int q2), .val (.int q3), .val (.int q4), .val (.int (0 : Int32)), .val (.ref b), .unset, .unset, .unset, .unset] [(.int (2 : Int32)), (.int (0 : Int32))]))
    have hf25 : (0 : Int32) < (2 : Int32) := (by decide)
    refine GoOn.step (fun t₀ k₀ => XS.icmpYes X23.here hx rfl (pc0 := 26) (pc' := 34) rfl (hb hby at_26) rfl (tlt hf25).1 (by decide) (by decide) k₀) ?_
    show GoOn p e below _ (T23.setTop (mkF m 34 #[.val (.int q0), .val (.int q1), .val (.int q2), .val (.int q3), .val (.int q4), .val (.int (0 : Int32)), .val (.ref b), .unset, .unset, .unset, .unset] []))
    refine GoOn.step (fun t₀ k₀ => XS.iload X23.here hx rfl (hb hby at_34) rfl k₀) ?_
    show GoOn p e below _ (T23.setTop (mkF m 36 #[.val (.int q0), .val (.int q1), .val (.int q2), .val (.int q3), .val (.int q4), .val (.int (0 : Int32)), .val (.ref b), .unset, .unset, .unset, .unset] [(.int (0 : Int32))]))
    refine GoOn.step (fun t₀ k₀ => XS.iconst X23.here hx rfl (hb hby at_36) k₀) ?_
    show GoOn p e below _ (T23.setTop (mkF m 37 #[.val (.int q0), .val (.int q1), .val (.int q2), .val (.int q3), .val (.int q4), .val (.int (0 : Int32)), .val (.ref b), .unset, .unset, .unset, .unset] [(.int (3 : Int32)), (.int (0 : Int32))]))
    have hf26 : (0 : Int32) < (3 : Int32) := (by decide)
    refine GoOn.step (fun t₀ k₀ => XS.icmpYes X23.here hx rfl (pc0 := 37) (pc' := 45) rfl (hb hby at_37) rfl (tlt hf26).1 (by decide) (by decide) k₀) ?_
    show GoOn p e below _ (T23.setTop (mkF m 45 #[.val (.int q0), .val (.int q1), .val (.int q2), .val (.int q3), .val (.int q4), .val (.int (0 : Int32)), .val (.ref b), .unset, .unset, .unset, .unset] []))
    have J : Jar Z h23 b .int 0 (fun i => .int (([] : List Int32).getD i 0)) := J_b.congr (fun i hi => match i, hi with  | k + 0, q => absurd q (by omega))
    clear J_b
    refine GoOn.step (fun t₀ k₀ => XS.iload X23.here hx rfl (hb hby at_45) rfl k₀) ?_
    show GoOn p e below _ (T23.setTop (mkF m 47 #[.val (.int q0), .val (.int q1), .val (.int q2), .val (.int q3), .val (.int q4), .val (.int (0 : Int32)), .val (.ref b), .unset, .unset, .unset, .unset] [(.int q4)]))
    refine GoOn.step (fun t₀ k₀ => XS.iconst X23.here hx rfl (hb hby at_47) k₀) ?_
    show GoOn p e below _ (T23.setTop (mkF m 48 #[.val (.int q0), .val (.int q1), .val (.int q2), .val (.int q3), .val (.int q4), .val (.int (0 : Int32)), .val (.ref b), .unset, .unset, .unset, .unset] [(.int (2 : Int32)), (.int q4)]))
    refine GoOn.step (fun t₀ k₀ => XS.iushr X23.here hx rfl (hb hby at_48) rfl k₀) ?_
    show GoOn p e below _ (T23.setTop (mkF m 49 #[.val (.int q0), .val (.int q1), .val (.int q2), .val (.int q3), .val (.int q4), .val (.int (0 : Int32)), .val (.ref b), .unset, .unset, .unset, .unset] [(.int ((q4.toUInt32 >>> ((2 : Int32) &&& 31).toUInt32).toInt32))]))
    refine GoOn.step (fun t₀ k₀ => XS.iconst X23.here hx rfl (hb hby at_49) k₀) ?_
    show GoOn p e below _ (T23.setTop (mkF m 50 #[.val (.int q0), .val (.int q1), .val (.int q2), .val (.int q3), .val (.int q4), .val (.int (0 : Int32)), .val (.ref b), .unset, .unset, .unset, .unset] [(.int (3 : Int32)), (.int ((q4.toUInt32 >>> ((2 : Int32) &&& 31).toUInt32).toInt32))]))
    refine GoOn.step (fun t₀ k₀ => XS.iand X23.here hx rfl (hb hby at_50) rfl k₀) ?_
    show GoOn p e below _ (T23.setTop (mkF m 51 #[.val (.int q0), .val (.int q1), .val (.int q2), .val (.int q3), .val (.int q4), .val (.int (0 : Int32)), .val (.ref b), .unset, .unset, .unset, .unset] [(.int (((q4.toUInt32 >>> ((2 : Int32) &&& 31).toUInt32).toInt32) &&& (3 : Int32)))]))
    generalize hk : (((q4.toUInt32 >>> ((2 : Int32) &&& 31).toUInt32).toInt32) &&& (3 : Int32)) = kk
    have hkI := congrArg Int32.toInt hk
    refine GoOn.step (fun t₀ k₀ => XS.istore X23.here hx rfl (hb hby at_51) rfl (l' := #[.val (.int q0), .val (.int q1), .val (.int q2), .val (.int q3), .val (.int q4), .val (.int (0 : Int32)), .val (.ref b), .val (.int kk), .unset, .unset, .unset]) rfl k₀) ?_
    show GoOn p e below _ (T23.setTop (mkF m 53 #[.val (.int q0), .val (.int q1), .val (.int q2), .val (.int q3), .val (.int q4), .val (.int (0 : Int32)), .val (.ref b), .val (.int kk), .unset, .unset, .unset] []))
    refine GoOn.step (fun t₀ k₀ => XS.iload X23.here hx rfl (hb hby at_53) rfl k₀) ?_
    show GoOn p e below _ (T23.setTop (mkF m 55 #[.val (.int q0), .val (.int q1), .val (.int q2), .val (.int q3), .val (.int q4), .val (.int (0 : Int32)), .val (.ref b), .val (.int kk), .unset, .unset, .unset] [(.int kk)]))
    have Jm : ∀ (mo : Int32), GoOn p e below (EndQ s room_1 (LQ n0)) (T23.setTop (mkF m 91 #[.val (.int q0), .val (.int q1), .val (.int q2), .val (.int q3), .val (.int q4), .val (.int (0 : Int32)), .val (.ref b), .val (.int kk), .val (.int mo), .unset, .unset] [])) := by
      intro mo
      obtain ⟨T27, h27, X27, e27, E27, A27, D27, -, st27⟩ := newO X23 hx hZ hown (hw _ (List.mem_of_getElem? (i := 1) rfl)) (hw _ (List.mem_of_getElem? (i := 2) rfl)) (hw _ (List.mem_of_getElem? (i := 3) rfl)) e23 (g := (mkF m 91 #[.val (.int q0), .val (.int q1), .val (.int q2), .val (.int q3), .val (.int q4), .val (.int (0 : Int32)), .val (.ref b), .val (.int kk), .val (.int mo), .unset, .unset] [])) rfl (hb hby at_91) (by decide) (by decide)
      obtain ⟨ob, g27⟩ : ∃ z, z = h23.size := ⟨_, rfl⟩
      rw [← g27] at A27 D27 st27
      have lt_b_ob : b < ob := by rw [g27]; exact Ex_b.lt
      have ne_b_ob : b ≠ ob := Nat.ne_of_lt lt_b_ob
      have le_ob : n0 ≤ ob := by rw [g27]; exact Z0
      replace Ex_b := Ex_b.ext E27
      replace J := J.ext E27
      replace Z0 := Nat.le_trans Z0 E27.1
      have Ex_ob : Exa Z h27 ob "com/example/tidewire/tidewire/handshake/AuthRequest" := A27
      have F_method_ob : Fld Z h27 ob "com/example/tidewire/tidewire/handshake/AuthRequest" "method" "I" (.int (0 : Int32)) := D27 (Or.inr (hw _ (List.mem_of_getElem? (i := 12) rfl))) (ty := .int) (by decide)
      have F_modes_ob : Fld Z h27 ob "com/example/tidewire/tidewire/handshake/AuthRequest" "modes" "[I" .null := D27 (Or.inr (hw _ (List.mem_of_getElem? (i := 23) rfl))) (ty := (.array .int)) (by decide)
      have F_methodPayload_ob : Fld Z h27 ob "com/example/tidewire/tidewire/handshake/AuthRequest" "methodPayload" "[B" .null := D27 (Or.inr (hw _ (List.mem_of_getElem? (i := 31) rfl))) (ty := (.array .byte)) (by decide)
      refine GoOn.step st27 ?_
      show GoOn p e below _ (T27.setTop (mkF m 94 #[.val (.int q0), .val (.int q1), .val (.int q2), .val (.int q3), .val (.int q4), .val (.int (0 : Int32)), .val (.ref b), .val (.int kk), .val (.int mo), .unset, .unset] [(.ref ob)]))
      refine GoOn.step (fun t₀ k₀ => XS.dup X27.here hx rfl (hb hby at_94) rfl rfl k₀) ?_
      show GoOn p e below _ (T27.setTop (mkF m 95 #[.val (.int q0), .val (.int q1), .val (.int q2), .val (.int q3), .val (.int q4), .val (.int (0 : Int32)), .val (.ref b), .val (.int kk), .val (.int mo), .unset, .unset] [(.ref ob), (.ref ob)]))
      refine GoOn.step (fun t₀ k₀ => XS.iload X27.here hx rfl (hb hby at_95) rfl k₀) ?_
      show GoOn p e below _ (T27.setTop (mkF m 97 #[.val (.int q0), .val (.int q1), .val (.int q2), .val (.int q3), .val (.int q4), .val (.int (0 : Int32)), .val (.ref b), .val (.int kk), .val (.int mo), .unset, .unset] [(.int q4), (.ref ob), (.ref ob)]))
      refine GoOn.step (fun t₀ k₀ => XS.aload X27.here hx rfl (hb hby at_97) rfl rfl k₀) ?_
      show GoOn p e below _ (T27.setTop (mkF m 99 #[.val (.int q0), .val (.int q1), .val (.int q2), .val (.int q3), .val (.int q4), .val (.int (0 : Int32)), .val (.ref b), .val (.int kk), .val (.int mo), .unset, .unset] [(.ref b), (.int q4), (.ref ob), (.ref ob)]))
      refine GoOn.step (fun t₀ k₀ => XS.iconst X27.here hx rfl (hb hby at_99) k₀) ?_
      show GoOn p e below _ (T27.setTop (mkF m 100 #[.val (.int q0), .val (.int q1), .val (.int q2), .val (.int q3), .val (.int q4), .val (.int (0 : Int32)), .val (.ref b), .val (.int kk), .val (.int mo), .unset, .unset] [(.int (0 : Int32)), (.ref b), (.int q4), (.ref ob), (.ref ob)]))
      obtain ⟨T28, h28, k28, X28, e28, E28, A28, B28, st28⟩ := newPE X27 hx hZ (hw _ (List.mem_of_getElem? (i := 4) rfl)) e27 (g := (mkF m 100 #[.val (.int q0), .val (.int q1), .val (.int q2), .val (.int q3), .val (.int q4), .val (.int (0 : Int32)), .val (.ref b), .val (.int kk), .val (.int mo), .unset, .unset] [(.int (0 : Int32)), (.ref b), (.int q4), (.ref ob), (.ref ob)])) rfl (hb hby at_100) rfl (by decide) (cap := 0) (by decide) (by decide) (by decide) (by decide) (ad := "[B") (by decide)
      obtain ⟨pb, g28⟩ : ∃ z, z = h27.size := ⟨_, rfl⟩
      rw [← g28] at A28 B28 st28
      have lt_b_pb : b < pb := by rw [g28]; exact Ex_b.lt
      have ne_b_pb : b ≠ pb := Nat.ne_of_lt lt_b_pb
      have lt_ob_pb : ob < pb := by rw [g28]; exact Ex_ob.lt
      have ne_ob_pb : ob ≠ pb := Nat.ne_of_lt lt_ob_pb
      have le_pb : n0 ≤ pb := by rw [g28]; exact Z0
      replace Ex_b := Ex_b.ext E28
      replace J := J.ext E28
      replace Ex_ob := Ex_ob.ext E28
      replace F_method_ob := F_method_ob.ext E28
      replace F_modes_ob := F_modes_ob.ext E28
      replace F_methodPayload_ob := F_methodPayload_ob.ext E28
      replace Z0 := Nat.le_trans Z0 E28.1
      have J_pb : Jar Z h28 pb .byte 0 (fun _ => defaultValue .byte) := Jar.new A28 (by decide)
      have Ex_pb : Exa Z h28 pb "[B" := B28
      refine GoOn.step st28 ?_
      show GoOn p e below _ (T28.setTop (mkF m 102 #[.val (.int q0), .val (.int q1), .val (.int q2), .val (.int q3), .val (.int q4), .val (.int (0 : Int32)), .val (.ref b), .val (.int kk), .val (.int mo), .unset, .unset] [(.ref pb), (.ref b), (.int q4), (.ref ob), (.ref ob)]))
      obtain ⟨_, T29, L29, X29, hQ29, st29⟩ := kCallI X28 hx hZ (a := ob) (argsL := [(.int q4), (.ref b), (.ref pb)]) (rest := [(.ref ob)]) (c_ini l Z a0 hw ob b pb q4 0 _ _ _ n0 Z0 Ex_ob F_method_ob F_modes_ob F_methodPayload_ob J Ex_b J_pb Ex_pb le_ob ne_b_ob (Ne.symm ne_ob_pb) (by decide)) rfl hown (hw _ (List.mem_of_getElem? (i := 5) rfl)) (hw _ (List.mem_of_getElem? (i := 6) rfl)) (hw _ (List.mem_of_getElem? (i := 3) rfl)) (hw _ (List.mem_of_getElem? (i := 7) rfl)) (by decide) e28 (g := (mkF m 102 #[.val (.int q0), .val (.int q1), .val (.int q2), .val (.int q3), .val (.int q4), .val (.int (0 : Int32)), .val (.ref b), .val (.int kk), .val (.int mo), .unset, .unset] [(.ref pb), (.ref b), (.int q4), (.ref ob), (.ref ob)])) rfl (by rw [hml]; rfl) (lenOf pd_0 rfl) rfl (W := 1) (by show 2 * 0 + _ ≤ _; exact Nat.le_of_eq rfl) (hb hby at_102) (by decide) (by decide) (by decide) (by decide)
      obtain ⟨cm, rfl, N29, K29, Fo, Jc⟩ := hQ29
      replace N0 := Fr.app N0 N29
      replace Ex_b := Ex_b.keep K29
      replace J := J.keep K29 (ninS ne_b_ob nin0)
      replace Ex_ob := Ex_ob.keep K29
      clear F_method_ob
      clear F_modes_ob
      clear F_methodPayload_ob
      replace J_pb := J_pb.keep K29 (ninS (Ne.symm ne_ob_pb) nin0)
      replace Ex_pb := Ex_pb.keep K29
      replace Z0 := Nat.le_trans Z0 K29.1
      refine GoOn.step st29 ?_
      show GoOn p e below _ (T29.setTop (mkF m 105 #[.val (.int q0), .val (.int q1), .val (.int q2), .val (.int q3), .val (.int q4), .val (.int (0 : Int32)), .val (.ref b), .val (.int kk), .val (.int mo), .unset, .unset] [(.ref ob)]))
      refine GoOn.step (fun t₀ k₀ => XS.astore X29.here hx rfl (hb hby at_105) rfl rfl (l' := #[.val (.int q0), .val (.int q1), .val (.int q2), .val (.int q3), .val (.int q4), .val (.int (0 : Int32)), .val (.ref b), .val (.int kk), .val (.int mo), .val (.ref ob), .unset]) rfl k₀) ?_
      show GoOn p e below _ (T29.setTop (mkF m 107 #[.val (.int q0), .val (.int q1), .val (.int q2), .val (.int q3), .val (.int q4), .val (.int (0 : Int32)), .val (.ref b), .val (.int kk), .val (.int mo), .val (.ref ob), .unset] []))
      refine GoOn.step (fun t₀ k₀ => XS.iload X29.here hx rfl (hb hby at_107) rfl k₀) ?_
      show GoOn p e below _ (T29.setTop (mkF m 109 #[.val (.int q0), .val (.int q1), .val (.int q2), .val (.int q3), .val (.int q4), .val (.int (0 : Int32)), .val (.ref b), .val (.int kk), .val (.int mo), .val (.ref ob), .unset] [(.int (0 : Int32))]))
      refine GoOn.step (fun t₀ k₀ => XS.iconst X29.here hx rfl (hb hby at_109) k₀) ?_
      show GoOn p e below _ (T29.setTop (mkF m 110 #[.val (.int q0), .val (.int q1), .val (.int q2), .val (.int q3), .val (.int q4), .val (.int (0 : Int32)), .val (.ref b), .val (.int kk), .val (.int mo), .val (.ref ob), .unset] [(.int (1 : Int32)), (.int (0 : Int32))]))
      have hf30 : (0 : Int32) < (1 : Int32) := (by decide)
      refine GoOn.step (fun t₀ k₀ => XS.icmpYes X29.here hx rfl (pc0 := 110) (pc' := 119) rfl (hb hby at_110) rfl (tlt hf30).1 (by decide) (by decide) k₀) ?_
      show GoOn p e below _ (T29.setTop (mkF m 119 #[.val (.int q0), .val (.int q1), .val (.int q2), .val (.int q3), .val (.int q4), .val (.int (0 : Int32)), .val (.ref b), .val (.int kk), .val (.int mo), .val (.ref ob), .unset] []))
      refine GoOn.step (fun t₀ k₀ => XS.iload X29.here hx rfl (hb hby at_119) rfl k₀) ?_
      show GoOn p e below _ (T29.setTop (mkF m 121 #[.val (.int q0), .val (.int q1), .val (.int q2), .val (.int q3), .val (.int q4), .val (.int (0 : Int32)), .val (.ref b), .val (.int kk), .val (.int mo), .val (.ref ob), .unset] [(.int (0 : Int32))]))
      refine GoOn.step (fun t₀ k₀ => XS.iconst X29.here hx rfl (hb hby at_121) k₀) ?_
      show GoOn p e below _ (T29.setTop (mkF m 122 #[.val (.int q0), .val (.int q1), .val (.int q2), .val (.int q3), .val (.int q4), .val (.int (0 : Int32)), .val (.ref b), .val (.int kk), .val (.int mo), .val (.ref ob), .unset] [(.int (2 : Int32)), (.int (0 : Int32))]))
      have hf31 : (0 : Int32) < (2 : Int32) := (by decide)
      refine GoOn.step (fun t₀ k₀ => XS.icmpYes X29.here hx rfl (pc0 := 122) (pc' := 131) rfl (hb hby at_122) rfl (tlt hf31).1 (by decide) (by decide) k₀) ?_
      show GoOn p e below _ (T29.setTop (mkF m 131 #[.val (.int q0), .val (.int q1), .val (.int q2), .val (.int q3), .val (.int q4), .val (.int (0 : Int32)), .val (.ref b), .val (.int kk), .val (.int mo), .val (.ref ob), .unset] []))
      refine GoOn.step (fun t₀ k₀ => XS.iload X29.here hx rfl (hb hby at_131) rfl k₀) ?_
      show GoOn p e below _ (T29.setTop (mkF m 133 #[.val (.int q0), .val (.int q1), .val (.int q2), .val (.int q3), .val (.int q4), .val (.int (0 : Int32)), .val (.ref b), .val (.int kk), .val (.int mo), .val (.ref ob), .unset] [(.int (0 : Int32))]))
      refine GoOn.step (fun t₀ k₀ => XS.iconst X29.here hx rfl (hb hby at_133) k₀) ?_
      show GoOn p e below _ (T29.setTop (mkF m 134 #[.val (.int q0), .val (.int q1), .val (.int q2), .val (.int q3), .val (.int q4), .val (.int (0 : Int32)), .val (.ref b), .val (.int kk), .val (.int mo), .val (.ref ob), .unset] [(.int (3 : Int32)), (.int (0 : Int32))]))
      have hf32 : (0 : Int32) < (3 : Int32) := (by decide)
      refine GoOn.step (fun t₀ k₀ => XS.icmpYes X29.here hx rfl (pc0 := 134) (pc' := 147) rfl (hb hby at_134) rfl (tlt hf32).1 (by decide) (by decide) k₀) ?_
      show GoOn p e below _ (T29.setTop (mkF m 147 #[.val (.int q0), .val (.int q1), .val (.int q2), .val (.int q3), .val (.int q4), .val (.int (0 : Int32)), .val (.ref b), .val (.int kk), .val (.int mo), .val (.ref ob), .unset] []))
      refine GoOn.step (fun t₀ k₀ => XS.iconst X29.here hx rfl (hb hby at_147) k₀) ?_
      show GoOn p e below _ (T29.setTop (mkF m 148 #[.val (.int q0), .val (.int q1), .val (.int q2), .val (.int q3), .val (.int q4), .val (.int (0 : Int32)), .val (.ref b), .val (.int kk), .val (.int mo), .val (.ref ob), .unset] [(.int (0 : Int32))]))
      refine GoOn.step (fun t₀ k₀ => XS.istore X29.here hx rfl (hb hby at_148) rfl (l' := #[.val (.int q0), .val (.int q1), .val (.int q2), .val (.int q3), .val (.int q4), .val (.int (0 : Int32)), .val (.ref b), .val (.int kk), .val (.int mo), .val (.ref ob), .val (.int (0 : Int32))]) rfl k₀) ?_
      show GoOn p e below _ (T29.setTop (mkF m 150 #[.val (.int q0), .val (.int q1), .val (.int q2), .val (.int q3), .val (.int q4), .val (.int (0 : Int32)), .val (.ref b), .val (.int kk), .val (.int mo), .val (.ref ob), .val (.int (0 : Int32))] []))
      refine GoOn.step (fun t₀ k₀ => XS.aload X29.here hx rfl (hb hby at_150) rfl rfl k₀) ?_
      show GoOn p e below _ (T29.setTop (mkF m 152 #[.val (.int q0), .val (.int q1), .val (.int q2), .val (.int q3), .val (.int q4), .val (.int (0 : Int32)), .val (.ref b), .val (.int kk), .val (.int mo), .val (.ref ob), .val (.int (0 : Int32))] [(.ref ob)]))
      refine GoOn.step (fun t₀ k₀ => XS.iload X29.here hx rfl (hb hby at_152) rfl k₀) ?_
      show GoOn p e below _ (T29.setTop (mkF m 154 #[.val (.int q0), .val (.int q1), .val (.int q2), .val (.int q3), .val (.int q4), .val (.int (0 : Int32)), .val (.ref b), .val (.int kk), .val (.int mo), .val (.ref ob), .val (.int (0 : Int32))] [(.int mo), (.ref ob)]))
      obtain ⟨_, T33, L33, X33, hQ33, st33⟩ := kCallV X29 hx hZ (a := ob) (argsL := [(.int mo)]) (rest := []) (c_acc0 l Z a0 hw ob cm mo _ Fo Jc) hown (hw _ (List.mem_of_getElem? (i := 32) rfl)) (hw _ (List.mem_of_getElem? (i := 33) rfl)) (notFace_of_selects (args := #[]) (mvT hZ (hw _ (List.mem_of_getElem? (i := 35) rfl)))) (hw _ (List.mem_of_getElem? (i := 35) rfl)) (hw _ (List.mem_of_getElem? (i := 34) rfl)) (hw _ (List.mem_of_getElem? (i := 3) rfl)) (hw _ (List.mem_of_getElem? (i := 36) rfl)) (by decide) rfl Ex_ob (g := (mkF m 154 #[.val (.int q0), .val (.int q1), .val (.int q2), .val (.int q3), .val (.int q4), .val (.int (0 : Int32)), .val (.ref b), .val (.int kk), .val (.int mo), .val (.ref ob), .val (.int (0 : Int32))] [(.int mo), (.ref ob)])) rfl (by rw [hml]; rfl) (lenOf pd_1 rfl) rfl (W := 0) (by show 2 * 0 + _ ≤ _; exact Nat.le_of_eq rfl) (hb hby at_154) (by decide) (by decide) (by decide) (by decide)
      obtain ⟨rfl, rfl, e33⟩ := hQ33
      rw [List.append_nil] at X33
      refine GoOn.step st33 ?_
      show GoOn p e below _ (T33.setTop (mkF m 157 #[.val (.int q0), .val (.int q1), .val (.int q2), .val (.int q3), .val (.int q4), .val (.int (0 : Int32)), .val (.ref b), .val (.int kk), .val (.int mo), .val (.ref ob), .val (.int (0 : Int32))] [(.int (0 : Int32))]))
      refine GoOn.step (fun t₀ k₀ => XS.iload X33.here hx rfl (hb hby at_157) rfl k₀) ?_
      show GoOn p e below _ (T33.setTop (mkF m 159 #[.val (.int q0), .val (.int q1), .val (.int q2), .val (.int q3), .val (.int q4), .val (.int (0 : Int32)), .val (.ref b), .val (.int kk), .val (.int mo), .val (.ref ob), .val (.int (0 : Int32))] [(.int (0 : Int32)), (.int (0 : Int32))]))
      have hf34 : (0 : Int32) = (0 : Int32) := rfl
      refine GoOn.step (fun t₀ k₀ => XS.icmpNo X33.here hx rfl (hb hby at_159) rfl (teq hf34).2 k₀) ?_
      show GoOn p e below _ (T33.setTop (mkF m 162 #[.val (.int q0), .val (.int q1), .val (.int q2), .val (.int q3), .val (.int q4), .val (.int (0 : Int32)), .val (.ref b), .val (.int kk), .val (.int mo), .val (.ref ob), .val (.int (0 : Int32))] []))
      refine GoOn.step (fun t₀ k₀ => XS.iconst X33.here hx rfl (hb hby at_162) k₀) ?_
      show GoOn p e below _ (T33.setTop (mkF m 163 #[.val (.int q0), .val (.int q1), .val (.int q2), .val (.int q3), .val (.int q4), .val (.int (0 : Int32)), .val (.ref b), .val (.int kk), .val (.int mo), .val (.ref ob), .val (.int (0 : Int32))] [(.int (1 : Int32))]))
      refine GoOn.step (fun t₀ k₀ => XS.goto X33.here hx rfl (pc0 := 163) (pc' := 167) rfl (hb hby at_163) (by decide) (by decide) k₀) ?_
      show GoOn p e below _ (T33.setTop (mkF m 167 #[.val (.int q0), .val (.int q1), .val (.int q2), .val (.int q3), .val (.int q4), .val (.int (0 : Int32)), .val (.ref b), .val (.int kk), .val (.int mo), .val (.ref ob), .val (.int (0 : Int32))] [(.int (1 : Int32))]))
      exact GoOn.retN X33 hx hrt hlk (by simp) (hb hby at_167) (by decide) (by decide) (by first | exact ⟨rfl, N0⟩ | (rw [e33]; exact ⟨rfl, N0⟩))
    by_cases k0 : kk = (0 : Int32)
    · refine GoOn.step (fun t₀ k₀ => XS.ifNo X23.here hx rfl (hb hby at_55) rfl ((if0 _ _).trans (teq k0).2) k₀) ?_
      show GoOn p e below _ (T23.setTop (mkF m 58 #[.val (.int q0), .val (.int q1), .val (.int q2), .val (.int q3), .val (.int q4), .val (.int (0 : Int32)), .val (.ref b), .val (.int kk), .unset, .unset, .unset] []))
      refine GoOn.step (fun t₀ k₀ => XS.iloadN X23.here hx rfl (hb hby at_58) rfl k₀) ?_
      show GoOn p e below _ (T23.setTop (mkF m 59 #[.val (.int q0), .val (.int q1), .val (.int q2), .val (.int q3), .val (.int q4), .val (.int (0 : Int32)), .val (.ref b), .val (.int kk), .unset, .unset, .unset] [(.int q3)]))
      refine GoOn.step (fun t₀ k₀ => XS.istore X23.here hx rfl (hb hby at_59) rfl (l' := #[.val (.int q0), .val (.int q1), .val (.int q2), .val (.int q3), .val (.int q4), .val (.int (0 : Int32)), .val (.ref b), .val (.int kk), .val (.int q3), .unset, .unset]) rfl k₀) ?_
      show GoOn p e below _ (T23.setTop (mkF m 61 #[.val (.int q0), .val (.int q1), .val (.int q2), .val (.int q3), .val (.int q4), .val (.int (0 : Int32)), .val (.ref b), .val (.int kk), .val (.int q3), .unset, .unset] []))
      refine GoOn.step (fun t₀ k₀ => XS.goto X23.here hx rfl (pc0 := 61) (pc' := 91) rfl (hb hby at_61) (by decide) (by decide) k₀) ?_
      show GoOn p e below _ (T23.setTop (mkF m 91 #[.val (.int q0), .val (.int q1), .val (.int q2), .val (.int q3), .val (.int q4), .val (.int (0 : Int32)), .val (.ref b), .val (.int kk), .val (.int q3), .unset, .unset] []))
      exact Jm _
    · refine GoOn.step (fun t₀ k₀ => XS.ifYes X23.here hx rfl (pc0 := 55) (pc' := 64) rfl (hb hby at_55) rfl ((if0 _ _).trans (feq k0).2) (by decide) (by decide) k₀) ?_
      show GoOn p e below _ (T23.setTop (mkF m 64 #[.val (.int q0), .val (.int q1), .val (.int q2), .val (.int q3), .val (.int q4), .val (.int (0 : Int32)), .val (.ref b), .val (.int kk), .unset, .unset, .unset] []))
      refine GoOn.step (fun t₀ k₀ => XS.iload X23.here hx rfl (hb hby at_64) rfl k₀) ?_
      show GoOn p e below _ (T23.setTop (mkF m 66 #[.val (.int q0), .val (.int q1), .val (.int q2), .val (.int q3), .val (.int q4), .val (.int (0 : Int32)), .val (.ref b), .val (.int kk), .unset, .unset, .unset] [(.int kk)]))
      refine GoOn.step (fun t₀ k₀ => XS.iconst X23.here hx rfl (hb hby at_66) k₀) ?_
      show GoOn p e below _ (T23.setTop (mkF m 67 #[.val (.int q0), .val (.int q1), .val (.int q2), .val (.int q3), .val (.int q4), .val (.int (0 : Int32)), .val (.ref b), .val (.int kk), .unset, .unset, .unset] [(.int (1 : Int32)), (.int kk)]))
      by_cases k1 : kk = (1 : Int32)
      · refine GoOn.step (fun t₀ k₀ => XS.icmpNo X23.here hx rfl (hb hby at_67) rfl (teq k1).2 k₀) ?_
        show GoOn p e below _ (T23.setTop (mkF m 70 #[.val (.int q0), .val (.int q1), .val (.int q2), .val (.int q3), .val (.int q4), .val (.int (0 : Int32)), .val (.ref b), .val (.int kk), .unset, .unset, .unset] []))
        refine GoOn.step (fun t₀ k₀ => XS.iloadN X23.here hx rfl (hb hby at_70) rfl k₀) ?_
        show GoOn p e below _ (T23.setTop (mkF m 71 #[.val (.int q0), .val (.int q1), .val (.int q2), .val (.int q3), .val (.int q4), .val (.int (0 : Int32)), .val (.ref b), .val (.int kk), .unset, .unset, .unset] [(.int q0)]))
        refine GoOn.step (fun t₀ k₀ => XS.istore X23.here hx rfl (hb hby at_71) rfl (l' := #[.val (.int q0), .val (.int q1), .val (.int q2), .val (.int q3), .val (.int q4), .val (.int (0 : Int32)), .val (.ref b), .val (.int kk), .val (.int q0), .unset, .unset]) rfl k₀) ?_
        show GoOn p e below _ (T23.setTop (mkF m 73 #[.val (.int q0), .val (.int q1), .val (.int q2), .val (.int q3), .val (.int q4), .val (.int (0 : Int32)), .val (.ref b), .val (.int kk), .val (.int q0), .unset, .unset] []))
        refine GoOn.step (fun t₀ k₀ => XS.goto X23.here hx rfl (pc0 := 73) (pc' := 91) rfl (hb hby at_73) (by decide) (by decide) k₀) ?_
        show GoOn p e below _ (T23.setTop (mkF m 91 #[.val (.int q0), .val (.int q1), .val (.int q2), .val (.int q3), .val (.int q4), .val (.int (0 : Int32)), .val (.ref b), .val (.int kk), .val (.int q0), .unset, .unset] []))
        exact Jm _
      · refine GoOn.step (fun t₀ k₀ => XS.icmpYes X23.here hx rfl (pc0 := 67) (pc' := 76) rfl (hb hby at_67) rfl (feq k1).2 (by decide) (by decide) k₀) ?_
        show GoOn p e below _ (T23.setTop (mkF m 76 #[.val (.int q0), .val (.int q1), .val (.int q2), .val (.int q3), .val (.int q4), .val (.int (0 : Int32)), .val (.ref b), .val (.int kk), .unset, .unset, .unset] []))
        refine GoOn.step (fun t₀ k₀ => XS.iload X23.here hx rfl (hb hby at_76) rfl k₀) ?_
        show GoOn p e below _ (T23.setTop (mkF m 78 #[.val (.int q0), .val (.int q1), .val (.int q2), .val (.int q3), .val (.int q4), .val (.int (0 : Int32)), .val (.ref b), .val (.int kk), .unset, .unset, .unset] [(.int kk)]))
        refine GoOn.step (fun t₀ k₀ => XS.iconst X23.here hx rfl (hb hby at_78) k₀) ?_
        show GoOn p e below _ (T23.setTop (mkF m 79 #[.val (.int q0), .val (.int q1), .val (.int q2), .val (.int q3), .val (.int q4), .val (.int (0 : Int32)), .val (.ref b), .val (.int kk), .unset, .unset, .unset] [(.int (2 : Int32)), (.int kk)]))
        by_cases k2 : kk = (2 : Int32)
        · refine GoOn.step (fun t₀ k₀ => XS.icmpNo X23.here hx rfl (hb hby at_79) rfl (teq k2).2 k₀) ?_
          show GoOn p e below _ (T23.setTop (mkF m 82 #[.val (.int q0), .val (.int q1), .val (.int q2), .val (.int q3), .val (.int q4), .val (.int (0 : Int32)), .val (.ref b), .val (.int kk), .unset, .unset, .unset] []))
          refine GoOn.step (fun t₀ k₀ => XS.iloadN X23.here hx rfl (hb hby at_82) rfl k₀) ?_
          show GoOn p e below _ (T23.setTop (mkF m 83 #[.val (.int q0), .val (.int q1), .val (.int q2), .val (.int q3), .val (.int q4), .val (.int (0 : Int32)), .val (.ref b), .val (.int kk), .unset, .unset, .unset] [(.int q1)]))
          refine GoOn.step (fun t₀ k₀ => XS.istore X23.here hx rfl (hb hby at_83) rfl (l' := #[.val (.int q0), .val (.int q1), .val (.int q2), .val (.int q3), .val (.int q4), .val (.int (0 : Int32)), .val (.ref b), .val (.int kk), .val (.int q1), .unset, .unset]) rfl k₀) ?_
          show GoOn p e below _ (T23.setTop (mkF m 85 #[.val (.int q0), .val (.int q1), .val (.int q2), .val (.int q3), .val (.int q4), .val (.int (0 : Int32)), .val (.ref b), .val (.int kk), .val (.int q1), .unset, .unset] []))
          refine GoOn.step (fun t₀ k₀ => XS.goto X23.here hx rfl (pc0 := 85) (pc' := 91) rfl (hb hby at_85) (by decide) (by decide) k₀) ?_
          show GoOn p e below _ (T23.setTop (mkF m 91 #[.val (.int q0), .val (.int q1), .val (.int q2), .val (.int q3), .val (.int q4), .val (.int (0 : Int32)), .val (.ref b), .val (.int kk), .val (.int q1), .unset, .unset] []))
          exact Jm _
        · refine GoOn.step (fun t₀ k₀ => XS.icmpYes X23.here hx rfl (pc0 := 79) (pc' := 88) rfl (hb hby at_79) rfl (feq k2).2 (by decide) (by decide) k₀) ?_
          show GoOn p e below _ (T23.setTop (mkF m 88 #[.val (.int q0), .val (.int q1), .val (.int q2), .val (.int q3), .val (.int q4), .val (.int (0 : Int32)), .val (.ref b), .val (.int kk), .unset, .unset, .unset] []))
          refine GoOn.step (fun t₀ k₀ => XS.iloadN X23.here hx rfl (hb hby at_88) rfl k₀) ?_
          show GoOn p e below _ (T23.setTop (mkF m 89 #[.val (.int q0), .val (.int q1), .val (.int q2), .val (.int q3), .val (.int q4), .val (.int (0 : Int32)), .val (.ref b), .val (.int kk), .unset, .unset, .unset] [(.int q2)]))
          refine GoOn.step (fun t₀ k₀ => XS.istore X23.here hx rfl (hb hby at_89) rfl (l' := #[.val (.int q0), .val (.int q1), .val (.int q2), .val (.int q3), .val (.int q4), .val (.int (0 : Int32)), .val (.ref b), .val (.int kk), .val (.int q2), .unset, .unset]) rfl k₀) ?_
          show GoOn p e below _ (T23.setTop (mkF m 91 #[.val (.int q0), .val (.int q1), .val (.int q2), .val (.int q3), .val (.int q4), .val (.int (0 : Int32)), .val (.ref b), .val (.int kk), .val (.int q2), .unset, .unset] []))
          exact Jm _
  · show GoOn p e below _ (s₁.setTop (mkF m 8 #[.val (.int q0), .val (.int q1), .val (.int q2), .val (.int q3), .val (.int q4), .val (.int (1 : Int32)), .unset, .unset, .unset, .unset, .unset] [(.int (1 : Int32))]))
    obtain ⟨T35, h35, k35, X35, e35, E35, A35, B35, st35⟩ := newPE X0 hx hZ (hw _ (List.mem_of_getElem? (i := 0) rfl)) e0 (g := (mkF m 8 #[.val (.int q0), .val (.int q1), .val (.int q2), .val (.int q3), .val (.int q4), .val (.int (1 : Int32)), .unset, .unset, .unset, .unset, .unset] [(.int (1 : Int32))])) rfl (hb hby at_8) rfl (by decide) (cap := 3) (by decide) (by decide) (by decide) (by decide) (ad := "[I") (by decide)
    obtain ⟨b, g35⟩ : ∃ z, z = h0.size := ⟨_, rfl⟩
    rw [← g35] at A35 B35 st35
    have le_b : n0 ≤ b := by rw [g35]; exact Z0
    replace Z0 := Nat.le_trans Z0 E35.1
    have J_b : Jar Z h35 b .int 1 (fun _ => defaultValue .int) := Jar.new A35 (by decide)
    have Ex_b : Exa Z h35 b "[I" := B35
    refine GoOn.step st35 ?_
    show GoOn p e below _ (T35.setTop (mkF m 10 #[.val (.int q0), .val (.int q1), .val (.int q2), .val (.int q3), .val (.int q4), .val (.int (1 : Int32)), .unset, .unset, .unset, .unset, .unset] [(.ref b)]))
    refine GoOn.step (fun t₀ k₀ => XS.astore X35.here hx rfl (hb hby at_10) rfl rfl (l' := #[.val (.int q0), .val (.int q1), .val (.int q2), .val (.int q3), .val (.int q4), .val (.int (1 : Int32)), .val (.ref b), .unset, .unset, .unset, .unset]) rfl k₀) ?_
    show GoOn p e below _ (T35.setTop (mkF m 12 #[.val (.int q0), .val (.int q1), .val (.int q2), .val (.int q3), .val (.int q4), .val (.int (1 : Int32)), .val (.ref b), .unset, .unset, .unset, .unset] []))
    refine GoOn.step (fun t₀ k₀ => XS.iload X35.here hx rfl (hb hby at_12) rfl k₀) ?_
    show GoOn p e below _ (T35.setTop (mkF m 14 #[.val (.int q0), .val (.int q1), .val (.int q2), .val (.int q3), .val (.int q4), .val (.int (1 : Int32)), .val (.ref b), .unset, .unset, .unset, .unset] [(.int (1 : Int32))]))
    refine GoOn.step (fun t₀ k₀ => XS.iconst X35.here hx rfl (hb hby at_14) k₀) ?_
    show GoOn p e below _ (T35.setTop (mkF m 15 #[.val (.int q0), .val (.int q1), .val (.int q2), .val (.int q3), .val (.int q4), .val (.int (1 : Int32)), .val (.ref b), .unset, .unset, .unset, .unset] [(.int (1 : Int32)), (.int (1 : Int32))]))
    have hf36 : ¬ ((1 : Int32) < (1 : Int32)) := (by decide)
    refine GoOn.step (fun t₀ k₀ => XS.icmpNo X35.here hx rfl (hb hby at_15) rfl (flt hf36).1 k₀) ?_
    show GoOn p e below _ (T35.setTop (mkF m 18 #[.val (.int q0), .val (.int q1), .val (.int q2), .val (.int q3), .val (.int q4), .val (.int (1 : Int32)), .val (.ref b), .unset, .unset, .unset, .unset] []))
    refine GoOn.step (fun t₀ k₀ => XS.aload X35.here hx rfl (hb hby at_18) rfl rfl k₀) ?_
    show GoOn p e below _ (T35.setTop (mkF m 20 #[.val (.int q0), .val (.int q1), .val (.int q2), .val (.int q3), .val (.int q4), .val (.int (1 : Int32)), .val (.ref b), .unset, .unset, .unset, .unset] [(.ref b)]))
    refine GoOn.step (fun t₀ k₀ => XS.iconst X35.here hx rfl (hb hby at_20) k₀) ?_
    show GoOn p e below _ (T35.setTop (mkF m 21 #[.val (.int q0), .val (.int q1), .val (.int q2), .val (.int q3), .val (.int q4), .val (.int (1 : Int32)), .val (.ref b), .unset, .unset, .unset, .unset] [(.int (0 : Int32)), (.ref b)]))
    refine GoOn.step (fun t₀ k₀ => XS.iloadN X35.here hx rfl (hb hby at_21) rfl k₀) ?_
    show GoOn p e below _ (T35.setTop (mkF m 22 #[.val (.int q0), .val (.int q1), .val (.int q2), .val (.int q3), .val (.int q4), .val (.int (1 : Int32)), .val (.ref b), .unset, .unset, .unset, .unset] [(.int q0), (.int (0 : Int32)), (.ref b)]))
    obtain ⟨T37, h37, X37, e37, W37, st37⟩ := kStI X35 hx hZ e35 J_b (j := (0 : Int32)) ⟨by decide, by decide⟩ (g := (mkF m 22 #[.val (.int q0), .val (.int q1), .val (.int q2), .val (.int q3), .val (.int q4), .val (.int (1 : Int32)), .val (.ref b), .unset, .unset, .unset, .unset] [(.int q0), (.int (0 : Int32)), (.ref b)])) rfl rfl (hb hby at_22)
    replace N0 := Fr.snoc X37 N0 le_b
    replace J_b := J_b.set W37
    replace Ex_b := Ex_b.wr W37
    replace Z0 := Nat.le_trans Z0 (Nat.le_of_eq W37.size.symm)
    refine GoOn.step st37 ?_
    show GoOn p e below _ (T37.setTop (mkF m 23 #[.val (.int q0), .val (.int q1), .val (.int q2), .val (.int q3), .val (.int q4), .val (.int (1 : Int32)), .val (.ref b), .unset, .unset, .unset, .unset] []))
    refine GoOn.step (fun t₀ k₀ => XS.iload X37.here hx rfl (hb hby at_23) rfl k₀) ?_
    show GoOn p e below _ (T37.setTop (mkF m 25 #[.val (.int q0), .val (.int q1), .val (.int q2), .val (.int q3), .val (.int q4), .val (.int (1 : Int32)), .val (.ref b), .unset, .unset, .unset, .unset] [(.int (1 : Int32))]))
    refine GoOn.step (fun t₀ k₀ => XS.iconst X37.here hx rfl (hb hby at_25) k₀) ?_
    show GoOn p e below _ (T37.setTop (mkF m 26 #[.val (.int q0), .val (.int q1), .val (.int q2), .val (.int q3), .val (.int q4), .val (.int (1 : Int32)), .val (.ref b), .unset, .unset, .unset, .unset] [(.int (2 : Int32)), (.int (1 : Int32))]))
    have hf38 : (1 : Int32) < (2 : Int32) := (by decide)
    refine GoOn.step (fun t₀ k₀ => XS.icmpYes X37.here hx rfl (pc0 := 26) (pc' := 34) rfl (hb hby at_26) rfl (tlt hf38).1 (by decide) (by decide) k₀) ?_
    show GoOn p e below _ (T37.setTop (mkF m 34 #[.val (.int q0), .val (.int q1), .val (.int q2), .val (.int q3), .val (.int q4), .val (.int (1 : Int32)), .val (.ref b), .unset, .unset, .unset, .unset] []))
    refine GoOn.step (fun t₀ k₀ => XS.iload X37.here hx rfl (hb hby at_34) rfl k₀) ?_
    show GoOn p e below _ (T37.setTop (mkF m 36 #[.val (.int q0), .val (.int q1), .val (.int q2), .val (.int q3), .val (.int q4), .val (.int (1 : Int32)), .val (.ref b), .unset, .unset, .unset, .unset] [(.int (1 : Int32))]))
    refine GoOn.step (fun t₀ k₀ => XS.iconst X37.here hx rfl (hb hby at_36) k₀) ?_
    show GoOn p e below _ (T37.setTop (mkF m 37 #[.val (.int q0), .val (.int q1), .val (.int q2), .val (.int q3), .val (.int q4), .val (.int (1 : Int32)), .val (.ref b), .unset, .unset, .unset, .unset] [(.int (3 : Int32)), (.int (1 : Int32))]))
    have hf39 : (1 : Int32) < (3 : Int32) := (by decide)
    refine GoOn.step (fun t₀ k₀ => XS.icmpYes X37.here hx rfl (pc0 := 37) (pc' := 45) rfl (hb hby at_37) rfl (tlt hf39).1 (by decide) (by decide) k₀) ?_
    show GoOn p e below _ (T37.setTop (mkF m 45 #[.val (.int q0), .val (.int q1), .val (.int q2), .val (.int q3), .val (.int q4), .val (.int (1 : Int32)), .val (.ref b), .unset, .unset, .unset, .unset] []))
    have J : Jar Z h37 b .int 1 (fun i => .int ([q0].getD i 0)) := J_b.congr (fun i hi => match i, hi with | 0, _ => rfl | k + 1, q => absurd q (by omega))
    clear J_b
    refine GoOn.step (fun t₀ k₀ => XS.iload X37.here hx rfl (hb hby at_45) rfl k₀) ?_
    show GoOn p e below _ (T37.setTop (mkF m 47 #[.val (.int q0), .val (.int q1), .val (.int q2), .val (.int q3), .val (.int q4), .val (.int (1 : Int32)), .val (.ref b), .unset, .unset, .unset, .unset] [(.int q4)]))
    refine GoOn.step (fun t₀ k₀ => XS.iconst X37.here hx rfl (hb hby at_47) k₀) ?_
    show GoOn p e below _ (T37.setTop (mkF m 48 #[.val (.int q0), .val (.int q1), .val (.int q2), .val (.int q3), .val (.int q4), .val (.int (1 : Int32)), .val (.ref b), .unset, .unset, .unset, .unset] [(.int (2 : Int32)), (.int q4)]))
    refine GoOn.step (fun t₀ k₀ => XS.iushr X37.here hx rfl (hb hby at_48) rfl k₀) ?_
    show GoOn p e below _ (T37.setTop (mkF m 49 #[.val (.int q0), .val (.int q1), .val (.int q2), .val (.int q3), .val (.int q4), .val (.int (1 : Int32)), .val (.ref b), .unset, .unset, .unset, .unset] [(.int ((q4.toUInt32 >>> ((2 : Int32) &&& 31).toUInt32).toInt32))]))
    refine GoOn.step (fun t₀ k₀ => XS.iconst X37.here hx rfl (hb hby at_49) k₀) ?_
    show GoOn p e below _ (T37.setTop (mkF m 50 #[.val (.int q0), .val (.int q1), .val (.int q2), .val (.int q3), .val (.int q4), .val (.int (1 : Int32)), .val (.ref b), .unset, .unset, .unset, .unset] [(.int (3 : Int32)), (.int ((q4.toUInt32 >>> ((2 : Int32) &&& 31).toUInt32).toInt32))]))
    refine GoOn.step (fun t₀ k₀ => XS.iand X37.here hx rfl (hb hby at_50) rfl k₀) ?_
    show GoOn p e below _ (T37.setTop (mkF m 51 #[.val (.int q0), .val (.int q1), .val (.int q2), .val (.int q3), .val (.int q4), .val (.int (1 : Int32)), .val (.ref b), .unset, .unset, .unset, .unset] [(.int (((q4.toUInt32 >>> ((2 : Int32) &&& 31).toUInt32).toInt32) &&& (3 : Int32)))]))
    generalize hk : (((q4.toUInt32 >>> ((2 : Int32) &&& 31).toUInt32).toInt32) &&& (3 : Int32)) = kk
    have hkI := congrArg Int32.toInt hk
    refine GoOn.step (fun t₀ k₀ => XS.istore X37.here hx rfl (hb hby at_51) rfl (l' := #[.val (.int q0), .val (.int q1), .val (.int q2), .val (.int q3), .val (.int q4), .val (.int (1 : Int32)), .val (.ref b), .val (.int kk), .unset, .unset, .unset]) rfl k₀) ?_
    show GoOn p e below _ (T37.setTop (mkF m 53 #[.val (.int q0), .val (.int q1), .val (.int q2), .val (.int q3), .val (.int q4), .val (.int (1 : Int32)), .val (.ref b), .val (.int kk), .unset, .unset, .unset] []))
    refine GoOn.step (fun t₀ k₀ => XS.iload X37.here hx rfl (hb hby at_53) rfl k₀) ?_
    show GoOn p e below _ (T37.setTop (mkF m 55 #[.val (.int q0), .val (.int q1), .val (.int q2), .val (.int q3), .val (.int q4), .val (.int (1 : Int32)), .val (.ref b), .val (.int kk), .unset, .unset, .unset] [(.int kk)]))
    have Jm : ∀ (mo : Int32), GoOn p e below (EndQ s room_1 (LQ n0)) (T37.setTop (mkF m 91 #[.val (.int q0), .val (.int q1), .val (.int q2), .val (.int q3), .val (.int q4), .val (.int (1 : Int32)), .val (.ref b), .val (.int kk), .val (.int mo), .unset, .unset] [])) := by
      intro mo
      obtain ⟨T40, h40, X40, e40, E40, A40, D40, -, st40⟩ := newO X37 hx hZ hown (hw _ (List.mem_of_getElem? (i := 1) rfl)) (hw _ (List.mem_of_getElem? (i := 2) rfl)) (hw _ (List.mem_of_getElem? (i := 3) rfl)) e37 (g := (mkF m 91 #[.val (.int q0), .val (.int q1), .val (.int q2), .val (.int q3), .val (.int q4), .val (.int (1 : Int32)), .val (.ref b), .val (.int kk), .val (.int mo), .unset, .unset] [])) rfl (hb hby at_91) (by decide) (by decide)
      obtain ⟨ob, g40⟩ : ∃ z, z = h37.size := ⟨_, rfl⟩
      rw [← g40] at A40 D40 st40
      have lt_b_ob : b < ob := by rw [g40]; exact Ex_b.lt
      have ne_b_ob : b ≠ ob := Nat.ne_of_lt lt_b_ob
      have le_ob : n0 ≤ ob := by rw [g40]; exact Z0
      replace Ex_b := Ex_b.ext E40
      replace J := J.ext E40
      replace Z0 := Nat.le_trans Z0 E40.1
      have Ex_ob : Exa Z h40 ob "com/example/tidewire/tidewire/handshake/AuthRequest" := A40
      have F_method_ob : Fld Z h40 ob "com/example/tidewire/tidewire/handshake/AuthRequest" "method" "I" (.int (0 : Int32)) := D40 (Or.inr (hw _ (List.mem_of_getElem? (i := 12) rfl))) (ty := .int) (by decide)
      have F_modes_ob : Fld Z h40 ob "com/example/tidewire/tidewire/handshake/AuthRequest" "modes" "[I" .null := D40 (Or.inr (hw _ (List.mem_of_getElem? (i := 23) rfl))) (ty := (.array .int)) (by decide)
      have F_methodPayload_ob : Fld Z h40 ob "com/example/tidewire/tidewire/handshake/AuthRequest" "methodPayload" "[B" .null := D40 (Or.inr (hw _ (List.mem_of_getElem? (i := 31) rfl))) (ty := (.array .byte)) (by decide)
      refine GoOn.step st40 ?_
      show GoOn p e below _ (T40.setTop (mkF m 94 #[.val (.int q0), .val (.int q1), .val (.int q2), .val (.int q3), .val (.int q4), .val (.int (1 : Int32)), .val (.ref b), .val (.int kk), .val (.int mo), .unset, .unset] [(.ref ob)]))
      refine GoOn.step (fun t₀ k₀ => XS.dup X40.here hx rfl (hb hby at_94) rfl rfl k₀) ?_
      show GoOn p e below _ (T40.setTop (mkF m 95 #[.val (.int q0), .val (.int q1), .val (.int q2), .val (.int q3), .val (.int q4), .val (.int (1 : Int32)), .val (.ref b), .val (.int kk), .val (.int mo), .unset, .unset] [(.ref ob), (.ref ob)]))
      refine GoOn.step (fun t₀ k₀ => XS.iload X40.here hx rfl (hb hby at_95) rfl k₀) ?_
      show GoOn p e below _ (T40.setTop (mkF m 97 #[.val (.int q0), .val (.int q1), .val (.int q2), .val (.int q3), .val (.int q4), .val (.int (1 : Int32)), .val (.ref b), .val (.int kk), .val (.int mo), .unset, .unset] [(.int q4), (.ref ob), (.ref ob)]))
      refine GoOn.step (fun t₀ k₀ => XS.aload X40.here hx rfl (hb hby at_97) rfl rfl k₀) ?_
      show GoOn p e below _ (T40.setTop (mkF m 99 #[.val (.int q0), .val (.int q1), .val (.int q2), .val (.int q3), .val (.int q4), .val (.int (1 : Int32)), .val (.ref b), .val (.int kk), .val (.int mo), .unset, .unset] [(.ref b), (.int q4), (.ref ob), (.ref ob)]))
      refine GoOn.step (fun t₀ k₀ => XS.iconst X40.here hx rfl (hb hby at_99) k₀) ?_
      show GoOn p e below _ (T40.setTop (mkF m 100 #[.val (.int q0), .val (.int q1), .val (.int q2), .val (.int q3), .val (.int q4), .val (.int (1 : Int32)), .val (.ref b), .val (.int kk), .val (.int mo), .unset, .unset] [(.int (0 : Int32)), (.ref b), (.int q4), (.ref ob), (.ref ob)]))
      obtain ⟨T41, h41, k41, X41, e41, E41, A41, B41, st41⟩ := newPE X40 hx hZ (hw _ (List.mem_of_getElem? (i := 4) rfl)) e40 (g := (mkF m 100 #[.val (.int q0), .val (.int q1), .val (.int q2), .val (.int q3), .val (.int q4), .val (.int (1 : Int32)), .val (.ref b), .val (.int kk), .val (.int mo), .unset, .unset] [(.int (0 : Int32)), (.ref b), (.int q4), (.ref ob), (.ref ob)])) rfl (hb hby at_100) rfl (by decide) (cap := 0) (by decide) (by decide) (by decide) (by decide) (ad := "[B") (by decide)
      obtain ⟨pb, g41⟩ : ∃ z, z = h40.size := ⟨_, rfl⟩
      rw [← g41] at A41 B41 st41
      have lt_b_pb : b < pb := by rw [g41]; exact Ex_b.lt
      have ne_b_pb : b ≠ pb := Nat.ne_of_lt lt_b_pb
      have lt_ob_pb : ob < pb := by rw [g41]; exact Ex_ob.lt
      have ne_ob_pb : ob ≠ pb := Nat.ne_of_lt lt_ob_pb
      have le_pb : n0 ≤ pb := by rw [g41]; exact Z0
      replace Ex_b := Ex_b.ext E41
      replace J := J.ext E41
      replace Ex_ob := Ex_ob.ext E41
      replace F_method_ob := F_method_ob.ext E41
      replace F_modes_ob := F_modes_ob.ext E41
      replace F_methodPayload_ob := F_methodPayload_ob.ext E41
      replace Z0 := Nat.le_trans Z0 E41.1
      have J_pb : Jar Z h41 pb .byte 0 (fun _ => defaultValue .byte) := Jar.new A41 (by decide)
      have Ex_pb : Exa Z h41 pb "[B" := B41
      refine GoOn.step st41 ?_
      show GoOn p e below _ (T41.setTop (mkF m 102 #[.val (.int q0), .val (.int q1), .val (.int q2), .val (.int q3), .val (.int q4), .val (.int (1 : Int32)), .val (.ref b), .val (.int kk), .val (.int mo), .unset, .unset] [(.ref pb), (.ref b), (.int q4), (.ref ob), (.ref ob)]))
      obtain ⟨_, T42, L42, X42, hQ42, st42⟩ := kCallI X41 hx hZ (a := ob) (argsL := [(.int q4), (.ref b), (.ref pb)]) (rest := [(.ref ob)]) (c_ini l Z a0 hw ob b pb q4 1 _ _ _ n0 Z0 Ex_ob F_method_ob F_modes_ob F_methodPayload_ob J Ex_b J_pb Ex_pb le_ob ne_b_ob (Ne.symm ne_ob_pb) (by decide)) rfl hown (hw _ (List.mem_of_getElem? (i := 5) rfl)) (hw _ (List.mem_of_getElem? (i := 6) rfl)) (hw _ (List.mem_of_getElem? (i := 3) rfl)) (hw _ (List.mem_of_getElem? (i := 7) rfl)) (by decide) e41 (g := (mkF m 102 #[.val (.int q0), .val (.int q1), .val (.int q2), .val (.int q3), .val (.int q4), .val (.int (1 : Int32)), .val (.ref b), .val (.int kk), .val (.int mo), .unset, .unset] [(.ref pb), (.ref b), (.int q4), (.ref ob), (.ref ob)])) rfl (by rw [hml]; rfl) (lenOf pd_0 rfl) rfl (W := 1) (by show 2 * 0 + _ ≤ _; exact Nat.le_of_eq rfl) (hb hby at_102) (by decide) (by decide) (by decide) (by decide)
      obtain ⟨cm, rfl, N42, K42, Fo, Jc⟩ := hQ42
      replace N0 := Fr.app N0 N42
      replace Ex_b := Ex_b.keep K42
      replace J := J.keep K42 (ninS ne_b_ob nin0)
      replace Ex_ob := Ex_ob.keep K42
      clear F_method_ob
      clear F_modes_ob
      clear F_methodPayload_ob
      replace J_pb := J_pb.keep K42 (ninS (Ne.symm ne_ob_pb) nin0)
      replace Ex_pb := Ex_pb.keep K42
      replace Z0 := Nat.le_trans Z0 K42.1
      refine GoOn.step st42 ?_
      show GoOn p e below _ (T42.setTop (mkF m 105 #[.val (.int q0), .val (.int q1), .val (.int q2), .val (.int q3), .val (.int q4), .val (.int (1 : Int32)), .val (.ref b), .val (.int kk), .val (.int mo), .unset, .unset] [(.ref ob)]))
      refine GoOn.step (fun t₀ k₀ => XS.astore X42.here hx rfl (hb hby at_105) rfl rfl (l' := #[.val (.int q0), .val (.int q1), .val (.int q2), .val (.int q3), .val (.int q4), .val (.int (1 : Int32)), .val (.ref b), .val (.int kk), .val (.int mo), .val (.ref ob), .unset]) rfl k₀) ?_
      show GoOn p e below _ (T42.setTop (mkF m 107 #[.val (.int q0), .val (.int q1), .val (.int q2), .val (.int q3), .val (.int q4), .val (.int (1 : Int32)), .val (.ref b), .val (.int kk), .val (.int mo), .val (.ref ob), .unset] []))
      refine GoOn.step (fun t₀ k₀ => XS.iload X42.here hx rfl (hb hby at_107) rfl k₀) ?_
      show GoOn p e below _ (T42.setTop (mkF m 109 #[.val (.int q0), .val (.int q1), .val (.int q2), .val (.int q3), .val (.int q4), .val (.int (1 : Int32)), .val (.ref b), .val (.int kk), .val (.int mo), .val (.ref ob), .unset] [(.int (1 : Int32))]))
      refine GoOn.step (fun t₀ k₀ => XS.iconst X42.here hx rfl (hb hby at_109) k₀) ?_
      show GoOn p e below _ (T42.setTop (mkF m 110 #[.val (.int q0), .val (.int q1), .val (.int q2), .val (.int q3), .val (.int q4), .val (.int (1 : Int32)), .val (.ref b), .val (.int kk), .val (.int mo), .val (.ref ob), .unset] [(.int (1 : Int32)), (.int (1 : Int32))]))
      have hf43 : ¬ ((1 : Int32) < (1 : Int32)) := (by decide)
      refine GoOn.step (fun t₀ k₀ => XS.icmpNo X42.here hx rfl (hb hby at_110) rfl (flt hf43).1 k₀) ?_
      show GoOn p e below _ (T42.setTop (mkF m 113 #[.val (.int q0), .val (.int q1), .val (.int q2), .val (.int q3), .val (.int q4), .val (.int (1 : Int32)), .val (.ref b), .val (.int kk), .val (.int mo), .val (.ref ob), .unset] []))
      refine GoOn.step (fun t₀ k₀ => XS.iloadN X42.here hx rfl (hb hby at_113) rfl k₀) ?_
      show GoOn p e below _ (T42.setTop (mkF m 114 #[.val (.int q0), .val (.int q1), .val (.int q2), .val (.int q3), .val (.int q4), .val (.int (1 : Int32)), .val (.ref b), .val (.int kk), .val (.int mo), .val (.ref ob), .unset] [(.int q0)]))
      refine GoOn.step (fun t₀ k₀ => XS.iload X42.here hx rfl (hb hby at_114) rfl k₀) ?_
      show GoOn p e below _ (T42.setTop (mkF m 116 #[.val (.int q0), .val (.int q1), .val (.int q2), .val (.int q3), .val (.int q4), .val (.int (1 : Int32)), .val (.ref b), .val (.int kk), .val (.int mo), .val (.ref ob), .unset] [(.int mo), (.int q0)]))
      by_cases e0 : q0 = mo
      · refine GoOn.step (fun t₀ k₀ => XS.icmpYes X42.here hx rfl (pc0 := 116) (pc' := 143) rfl (hb hby at_116) rfl (teq e0).1 (by decide) (by decide) k₀) ?_
        show GoOn p e below _ (T42.setTop (mkF m 143 #[.val (.int q0), .val (.int q1), .val (.int q2), .val (.int q3), .val (.int q4), .val (.int (1 : Int32)), .val (.ref b), .val (.int kk), .val (.int mo), .val (.ref ob), .unset] []))
        refine GoOn.step (fun t₀ k₀ => XS.iconst X42.here hx rfl (hb hby at_143) k₀) ?_
        show GoOn p e below _ (T42.setTop (mkF m 144 #[.val (.int q0), .val (.int q1), .val (.int q2), .val (.int q3), .val (.int q4), .val (.int (1 : Int32)), .val (.ref b), .val (.int kk), .val (.int mo), .val (.ref ob), .unset] [(.int (1 : Int32))]))
        refine GoOn.step (fun t₀ k₀ => XS.goto X42.here hx rfl (pc0 := 144) (pc' := 148) rfl (hb hby at_144) (by decide) (by decide) k₀) ?_
        show GoOn p e below _ (T42.setTop (mkF m 148 #[.val (.int q0), .val (.int q1), .val (.int q2), .val (.int q3), .val (.int q4), .val (.int (1 : Int32)), .val (.ref b), .val (.int kk), .val (.int mo), .val (.ref ob), .unset] [(.int (1 : Int32))]))
        refine GoOn.step (fun t₀ k₀ => XS.istore X42.here hx rfl (hb hby at_148) rfl (l' := #[.val (.int q0), .val (.int q1), .val (.int q2), .val (.int q3), .val (.int q4), .val (.int (1 : Int32)), .val (.ref b), .val (.int kk), .val (.int mo), .val (.ref ob), .val (.int (1 : Int32))]) rfl k₀) ?_
        show GoOn p e below _ (T42.setTop (mkF m 150 #[.val (.int q0), .val (.int q1), .val (.int q2), .val (.int q3), .val (.int q4), .val (.int (1 : Int32)), .val (.ref b), .val (.int kk), .val (.int mo), .val (.ref ob), .val (.int (1 : Int32))] []))
        refine GoOn.step (fun t₀ k₀ => XS.aload X42.here hx rfl (hb hby at_150) rfl rfl k₀) ?_
        show GoOn p e below _ (T42.setTop (mkF m 152 #[.val (.int q0), .val (.int q1), .val (.int q2), .val (.int q3), .val (.int q4), .val (.int (1 : Int32)), .val (.ref b), .val (.int kk), .val (.int mo), .val (.ref ob), .val (.int (1 : Int32))] [(.ref ob)]))
        refine GoOn.step (fun t₀ k₀ => XS.iload X42.here hx rfl (hb hby at_152) rfl k₀) ?_
        show GoOn p e below _ (T42.setTop (mkF m 154 #[.val (.int q0), .val (.int q1), .val (.int q2), .val (.int q3), .val (.int q4), .val (.int (1 : Int32)), .val (.ref b), .val (.int kk), .val (.int mo), .val (.ref ob), .val (.int (1 : Int32))] [(.int mo), (.ref ob)]))
        obtain ⟨_, T44, L44, X44, hQ44, st44⟩ := kCallV X42 hx hZ (a := ob) (argsL := [(.int mo)]) (rest := []) (c_acc1 l Z a0 hw ob cm mo q0 _ Fo Jc) hown (hw _ (List.mem_of_getElem? (i := 32) rfl)) (hw _ (List.mem_of_getElem? (i := 33) rfl)) (notFace_of_selects (args := #[]) (mvT hZ (hw _ (List.mem_of_getElem? (i := 35) rfl)))) (hw _ (List.mem_of_getElem? (i := 35) rfl)) (hw _ (List.mem_of_getElem? (i := 34) rfl)) (hw _ (List.mem_of_getElem? (i := 3) rfl)) (hw _ (List.mem_of_getElem? (i := 36) rfl)) (by decide) rfl Ex_ob (g := (mkF m 154 #[.val (.int q0), .val (.int q1), .val (.int q2), .val (.int q3), .val (.int q4), .val (.int (1 : Int32)), .val (.ref b), .val (.int kk), .val (.int mo), .val (.ref ob), .val (.int (1 : Int32))] [(.int mo), (.ref ob)])) rfl (by rw [hml]; rfl) (lenOf pd_1 rfl) rfl (W := 0) (by show 2 * 0 + _ ≤ _; exact Nat.le_of_eq rfl) (hb hby at_154) (by decide) (by decide) (by decide) (by decide)
        obtain ⟨rfl, rfl, e44⟩ := hQ44
        rw [List.append_nil] at X44
        refine GoOn.step st44 ?_
        show GoOn p e below _ (T44.setTop (mkF m 157 #[.val (.int q0), .val (.int q1), .val (.int q2), .val (.int q3), .val (.int q4), .val (.int (1 : Int32)), .val (.ref b), .val (.int kk), .val (.int mo), .val (.ref ob), .val (.int (1 : Int32))] [(.int (if q0 = mo then (1 : Int32) else (0 : Int32)))]))
        refine GoOn.step (fun t₀ k₀ => XS.iload X44.here hx rfl (hb hby at_157) rfl k₀) ?_
        show GoOn p e below _ (T44.setTop (mkF m 159 #[.val (.int q0), .val (.int q1), .val (.int q2), .val (.int q3), .val (.int q4), .val (.int (1 : Int32)), .val (.ref b), .val (.int kk), .val (.int mo), .val (.ref ob), .val (.int (1 : Int32))] [(.int (1 : Int32)), (.int (if q0 = mo then (1 : Int32) else (0 : Int32)))]))
        have hf45 : (if q0 = mo then (1 : Int32) else (0 : Int32)) = (1 : Int32) := (by rw [if_pos e0])
        refine GoOn.step (fun t₀ k₀ => XS.icmpNo X44.here hx rfl (hb hby at_159) rfl (teq hf45).2 k₀) ?_
        show GoOn p e below _ (T44.setTop (mkF m 162 #[.val (.int q0), .val (.int q1), .val (.int q2), .val (.int q3), .val (.int q4), .val (.int (1 : Int32)), .val (.ref b), .val (.int kk), .val (.int mo), .val (.ref ob), .val (.int (1 : Int32))] []))
        refine GoOn.step (fun t₀ k₀ => XS.iconst X44.here hx rfl (hb hby at_162) k₀) ?_
        show GoOn p e below _ (T44.setTop (mkF m 163 #[.val (.int q0), .val (.int q1), .val (.int q2), .val (.int q3), .val (.int q4), .val (.int (1 : Int32)), .val (.ref b), .val (.int kk), .val (.int mo), .val (.ref ob), .val (.int (1 : Int32))] [(.int (1 : Int32))]))
        refine GoOn.step (fun t₀ k₀ => XS.goto X44.here hx rfl (pc0 := 163) (pc' := 167) rfl (hb hby at_163) (by decide) (by decide) k₀) ?_
        show GoOn p e below _ (T44.setTop (mkF m 167 #[.val (.int q0), .val (.int q1), .val (.int q2), .val (.int q3), .val (.int q4), .val (.int (1 : Int32)), .val (.ref b), .val (.int kk), .val (.int mo), .val (.ref ob), .val (.int (1 : Int32))] [(.int (1 : Int32))]))
        exact GoOn.retN X44 hx hrt hlk (by simp) (hb hby at_167) (by decide) (by decide) (by first | exact ⟨rfl, N0⟩ | (rw [e44]; exact ⟨rfl, N0⟩))
      · refine GoOn.step (fun t₀ k₀ => XS.icmpNo X42.here hx rfl (hb hby at_116) rfl (feq e0).1 k₀) ?_
        show GoOn p e below _ (T42.setTop (mkF m 119 #[.val (.int q0), .val (.int q1), .val (.int q2), .val (.int q3), .val (.int q4), .val (.int (1 : Int32)), .val (.ref b), .val (.int kk), .val (.int mo), .val (.ref ob), .unset] []))
        refine GoOn.step (fun t₀ k₀ => XS.iload X42.here hx rfl (hb hby at_119) rfl k₀) ?_
        show GoOn p e below _ (T42.setTop (mkF m 121 #[.val (.int q0), .val (.int q1), .val (.int q2), .val (.int q3), .val (.int q4), .val (.int (1 : Int32)), .val (.ref b), .val (.int kk), .val (.int mo), .val (.ref ob), .unset] [(.int (1 : Int32))]))
        refine GoOn.step (fun t₀ k₀ => XS.iconst X42.here hx rfl (hb hby at_121) k₀) ?_
        show GoOn p e below _ (T42.setTop (mkF m 122 #[.val (.int q0), .val (.int q1), .val (.int q2), .val (.int q3), .val (.int q4), .val (.int (1 : Int32)), .val (.ref b), .val (.int kk), .val (.int mo), .val (.ref ob), .unset] [(.int (2 : Int32)), (.int (1 : Int32))]))
        have hf46 : (1 : Int32) < (2 : Int32) := (by decide)
        refine GoOn.step (fun t₀ k₀ => XS.icmpYes X42.here hx rfl (pc0 := 122) (pc' := 131) rfl (hb hby at_122) rfl (tlt hf46).1 (by decide) (by decide) k₀) ?_
        show GoOn p e below _ (T42.setTop (mkF m 131 #[.val (.int q0), .val (.int q1), .val (.int q2), .val (.int q3), .val (.int q4), .val (.int (1 : Int32)), .val (.ref b), .val (.int kk), .val (.int mo), .val (.ref ob), .unset] []))
        refine GoOn.step (fun t₀ k₀ => XS.iload X42.here hx rfl (hb hby at_131) rfl k₀) ?_
        show GoOn p e below _ (T42.setTop (mkF m 133 #[.val (.int q0), .val (.int q1), .val (.int q2), .val (.int q3), .val (.int q4), .val (.int (1 : Int32)), .val (.ref b), .val (.int kk), .val (.int mo), .val (.ref ob), .unset] [(.int (1 : Int32))]))
        refine GoOn.step (fun t₀ k₀ => XS.iconst X42.here hx rfl (hb hby at_133) k₀) ?_
        show GoOn p e below _ (T42.setTop (mkF m 134 #[.val (.int q0), .val (.int q1), .val (.int q2), .val (.int q3), .val (.int q4), .val (.int (1 : Int32)), .val (.ref b), .val (.int kk), .val (.int mo), .val (.ref ob), .unset] [(.int (3 : Int32)), (.int (1 : Int32))]))
        have hf47 : (1 : Int32) < (3 : Int32) := (by decide)
        refine GoOn.step (fun t₀ k₀ => XS.icmpYes X42.here hx rfl (pc0 := 134) (pc' := 147) rfl (hb hby at_134) rfl (tlt hf47).1 (by decide) (by decide) k₀) ?_
        show GoOn p e below _ (T42.setTop (mkF m 147 #[.val (.int q0), .val (.int q1), .val (.int q2), .val (.int q3), .val (.int q4), .val (.int (1 : Int32)), .val (.ref b), .val (.int kk), .val (.int mo), .val (.ref ob), .unset] []))
        refine GoOn.step (fun t₀ k₀ => XS.iconst X42.here hx rfl (hb hby at_147) k₀) ?_
        show GoOn p e below _ (T42.setTop (mkF m 148 #[.val (.int q0), .val (.int q1), .val (.int q2), .val (.int q3), .val (.int q4), .val (.int (1 : Int32)), .val (.ref b), .val (.int kk), .val (.int mo), .val (.ref ob), .unset] [(.int (0 : Int32))]))
        refine GoOn.step (fun t₀ k₀ => XS.istore X42.here hx rfl (hb hby at_148) rfl (l' := #[.val (.int q0), .val (.int q1), .val (.int q2), .val (.int q3), .val (.int q4), .val (.int (1 : Int32)), .val (.ref b), .val (.int kk), .val (.int mo), .val (.ref ob), .val (.int (0 : Int32))]) rfl k₀) ?_
        show GoOn p e below _ (T42.setTop (mkF m 150 #[.val (.int q0), .val (.int q1), .val (.int q2), .val (.int q3), .val (.int q4), .val (.int (1 : Int32)), .val (.ref b), .val (.int kk), .val (.int mo), .val (.ref ob), .val (.int (0 : Int32))] []))
        refine GoOn.step (fun t₀ k₀ => XS.aload X42.here hx rfl (hb hby at_150) rfl rfl k₀) ?_
        show GoOn p e below _ (T42.setTop (mkF m 152 #[.val (.int q0), .val (.int q1), .val (.int q2), .val (.int q3), .val (.int q4), .val (.int (1 : Int32)), .val (.ref b), .val (.int kk), .val (.int mo), .val (.ref ob), .val (.int (0 : Int32))] [(.ref ob)]))
        refine GoOn.step (fun t₀ k₀ => XS.iload X42.here hx rfl (hb hby at_152) rfl k₀) ?_
        show GoOn p e below _ (T42.setTop (mkF m 154 #[.val (.int q0), .val (.int q1), .val (.int q2), .val (.int q3), .val (.int q4), .val (.int (1 : Int32)), .val (.ref b), .val (.int kk), .val (.int mo), .val (.ref ob), .val (.int (0 : Int32))] [(.int mo), (.ref ob)]))
        obtain ⟨_, T48, L48, X48, hQ48, st48⟩ := kCallV X42 hx hZ (a := ob) (argsL := [(.int mo)]) (rest := []) (c_acc1 l Z a0 hw ob cm mo q0 _ Fo Jc) hown (hw _ (List.mem_of_getElem? (i := 32) rfl)) (hw _ (List.mem_of_getElem? (i := 33) rfl)) (notFace_of_selects (args := #[]) (mvT hZ (hw _ (List.mem_of_getElem? (i := 35) rfl)))) (hw _ (List.mem_of_getElem? (i := 35) rfl)) (hw _ (List.mem_of_getElem? (i := 34) rfl)) (hw _ (List.mem_of_getElem? (i := 3) rfl)) (hw _ (List.mem_of_getElem? (i := 36) rfl)) (by decide) rfl Ex_ob (g := (mkF m 154 #[.val (.int q0), .val (.int q1), .val (.int q2), .val (.int q3), .val (.int q4), .val (.int (1 : Int32)), .val (.ref b), .val (.int kk), .val (.int mo), .val (.ref ob), .val (.int (0 : Int32))] [(.int mo), (.ref ob)])) rfl (by rw [hml]; rfl) (lenOf pd_1 rfl) rfl (W := 0) (by show 2 * 0 + _ ≤ _; exact Nat.le_of_eq rfl) (hb hby at_154) (by decide) (by decide) (by decide) (by decide)
        obtain ⟨rfl, rfl, e48⟩ := hQ48
        rw [List.append_nil] at X48
        refine GoOn.step st48 ?_
        show GoOn p e below _ (T48.setTop (mkF m 157 #[.val (.int q0), .val (.int q1), .val (.int q2), .val (.int q3), .val (.int q4), .val (.int (1 : Int32)), .val (.ref b), .val (.int kk), .val (.int mo), .val (.ref ob), .val (.int (0 : Int32))] [(.int (if q0 = mo then (1 : Int32) else (0 : Int32)))]))
        refine GoOn.step (fun t₀ k₀ => XS.iload X48.here hx rfl (hb hby at_157) rfl k₀) ?_
        show GoOn p e below _ (T48.setTop (mkF m 159 #[.val (.int q0), .val (.int q1), .val (.int q2), .val (.int q3), .val (.int q4), .val (.int (1 : Int32)), .val (.ref b), .val (.int kk), .val (.int mo), .val (.ref ob), .val (.int (0 : Int32))] [(.int (0 : Int32)), (.int (if q0 = mo then (1 : Int32) else (0 : Int32)))]))
        have hf49 : (if q0 = mo then (1 : Int32) else (0 : Int32)) = (0 : Int32) := (by rw [if_neg e0])
        refine GoOn.step (fun t₀ k₀ => XS.icmpNo X48.here hx rfl (hb hby at_159) rfl (teq hf49).2 k₀) ?_
        show GoOn p e below _ (T48.setTop (mkF m 162 #[.val (.int q0), .val (.int q1), .val (.int q2), .val (.int q3), .val (.int q4), .val (.int (1 : Int32)), .val (.ref b), .val (.int kk), .val (.int mo), .val (.ref ob), .val (.int (0 : Int32))] []))
        refine GoOn.step (fun t₀ k₀ => XS.iconst X48.here hx rfl (hb hby at_162) k₀) ?_
        show GoOn p e below _ (T48.setTop (mkF m 163 #[.val (.int q0), .val (.int q1), .val (.int q2), .val (.int q3), .val (.int q4), .val (.int (1 : Int32)), .val (.ref b), .val (.int kk), .val (.int mo), .val (.ref ob), .val (.int (0 : Int32))] [(.int (1 : Int32))]))
        refine GoOn.step (fun t₀ k₀ => XS.goto X48.here hx rfl (pc0 := 163) (pc' := 167) rfl (hb hby at_163) (by decide) (by decide) k₀) ?_
        show GoOn p e below _ (T48.setTop (mkF m 167 #[.val (.int q0), .val (.int q1), .val (.int q2), .val (.int q3), .val (.int q4), .val (.int (1 : Int32)), .val (.ref b), .val (.int kk), .val (.int mo), .val (.ref ob), .val (.int (0 : Int32))] [(.int (1 : Int32))]))
        exact GoOn.retN X48 hx hrt hlk (by simp) (hb hby at_167) (by decide) (by decide) (by first | exact ⟨rfl, N0⟩ | (rw [e48]; exact ⟨rfl, N0⟩))
    by_cases k0 : kk = (0 : Int32)
    · refine GoOn.step (fun t₀ k₀ => XS.ifNo X37.here hx rfl (hb hby at_55) rfl ((if0 _ _).trans (teq k0).2) k₀) ?_
      show GoOn p e below _ (T37.setTop (mkF m 58 #[.val (.int q0), .val (.int q1), .val (.int q2), .val (.int q3), .val (.int q4), .val (.int (1 : Int32)), .val (.ref b), .val (.int kk), .unset, .unset, .unset] []))
      refine GoOn.step (fun t₀ k₀ => XS.iloadN X37.here hx rfl (hb hby at_58) rfl k₀) ?_
      show GoOn p e below _ (T37.setTop (mkF m 59 #[.val (.int q0), .val (.int q1), .val (.int q2), .val (.int q3), .val (.int q4), .val (.int (1 : Int32)), .val (.ref b), .val (.int kk), .unset, .unset, .unset] [(.int q3)]))
      refine GoOn.step (fun t₀ k₀ => XS.istore X37.here hx rfl (hb hby at_59) rfl (l' := #[.val (.int q0), .val (.int q1), .val (.int q2), .val (.int q3), .val (.int q4), .val (.int (1 : Int32)), .val (.ref b), .val (.int kk), .val (.int q3), .unset, .unset]) rfl k₀) ?_
      show GoOn p e below _ (T37.setTop (mkF m 61 #[.val (.int q0), .val (.int q1), .val (.int q2), .val (.int q3), .val (.int q4), .val (.int (1 : Int32)), .val (.ref b), .val (.int kk), .val (.int q3), .unset, .unset] []))
      refine GoOn.step (fun t₀ k₀ => XS.goto X37.here hx rfl (pc0 := 61) (pc' := 91) rfl (hb hby at_61) (by decide) (by decide) k₀) ?_
      show GoOn p e below _ (T37.setTop (mkF m 91 #[.val (.int q0), .val (.int q1), .val (.int q2), .val (.int q3), .val (.int q4), .val (.int (1 : Int32)), .val (.ref b), .val (.int kk), .val (.int q3), .unset, .unset] []))
      exact Jm _
    · refine GoOn.step (fun t₀ k₀ => XS.ifYes X37.here hx rfl (pc0 := 55) (pc' := 64) rfl (hb hby at_55) rfl ((if0 _ _).trans (feq k0).2) (by decide) (by decide) k₀) ?_
      show GoOn p e below _ (T37.setTop (mkF m 64 #[.val (.int q0), .val (.int q1), .val (.int q2), .val (.int q3), .val (.int q4), .val (.int (1 : Int32)), .val (.ref b), .val (.int kk), .unset, .unset, .unset] []))
      refine GoOn.step (fun t₀ k₀ => XS.iload X37.here hx rfl (hb hby at_64) rfl k₀) ?_
      show GoOn p e below _ (T37.setTop (mkF m 66 #[.val (.int q0), .val (.int q1), .val (.int q2), .val (.int q3), .val (.int q4), .val (.int (1 : Int32)), .val (.ref b), .val (.int kk), .unset, .unset, .unset] [(.int kk)]))
      refine GoOn.step (fun t₀ k₀ => XS.iconst X37.here hx rfl (hb hby at_66) k₀) ?_
      show GoOn p e below _ (T37.setTop (mkF m 67 #[.val (.int q0), .val (.int q1), .val (.int q2), .val (.int q3), .val (.int q4), .val (.int (1 : Int32)), .val (.ref b), .val (.int kk), .unset, .unset, .unset] [(.int (1 : Int32)), (.int kk)]))
      by_cases k1 : kk = (1 : Int32)
      · refine GoOn.step (fun t₀ k₀ => XS.icmpNo X37.here hx rfl (hb hby at_67) rfl (teq k1).2 k₀) ?_
        show GoOn p e below _ (T37.setTop (mkF m 70 #[.val (.int q0), .val (.int q1), .val (.int q2), .val (.int q3), .val (.int q4), .val (.int (1 : Int32)), .val (.ref b), .val (.int kk), .unset, .unset, .unset] []))
        refine GoOn.step (fun t₀ k₀ => XS.iloadN X37.here hx rfl (hb hby at_70) rfl k₀) ?_
        show GoOn p e below _ (T37.setTop (mkF m 71 #[.val (.int q0), .val (.int q1), .val (.int q2), .val (.int q3), .val (.int q4), .val (.int (1 : Int32)), .val (.ref b), .val (.int kk), .unset, .unset, .unset] [(.int q0)]))
        refine GoOn.step (fun t₀ k₀ => XS.istore X37.here hx rfl (hb hby at_71) rfl (l' := #[.val (.int q0), .val (.int q1), .val (.int q2), .val (.int q3), .val (.int q4), .val (.int (1 : Int32)), .val (.ref b), .val (.int kk), .val (.int q0), .unset, .unset]) rfl k₀) ?_
        show GoOn p e below _ (T37.setTop (mkF m 73 #[.val (.int q0), .val (.int q1), .val (.int q2), .val (.int q3), .val (.int q4), .val (.int (1 : Int32)), .val (.ref b), .val (.int kk), .val (.int q0), .unset, .unset] []))
        refine GoOn.step (fun t₀ k₀ => XS.goto X37.here hx rfl (pc0 := 73) (pc' := 91) rfl (hb hby at_73) (by decide) (by decide) k₀) ?_
        show GoOn p e below _ (T37.setTop (mkF m 91 #[.val (.int q0), .val (.int q1), .val (.int q2), .val (.int q3), .val (.int q4), .val (.int (1 : Int32)), .val (.ref b), .val (.int kk), .val (.int q0), .unset, .unset] []))
        exact Jm _
      · refine GoOn.step (fun t₀ k₀ => XS.icmpYes X37.here hx rfl (pc0 := 67) (pc' := 76) rfl (hb hby at_67) rfl (feq k1).2 (by decide) (by decide) k₀) ?_
        show GoOn p e below _ (T37.setTop (mkF m 76 #[.val (.int q0), .val (.int q1), .val (.int q2), .val (.int q3), .val (.int q4), .val (.int (1 : Int32)), .val (.ref b), .val (.int kk), .unset, .unset, .unset] []))
        refine GoOn.step (fun t₀ k₀ => XS.iload X37.here hx rfl (hb hby at_76) rfl k₀) ?_
        show GoOn p e below _ (T37.setTop (mkF m 78 #[.val (.int q0), .val (.int q1), .val (.int q2), .val (.int q3), .val (.int q4), .val (.int (1 : Int32)), .val (.ref b), .val (.int kk), .unset, .unset, .unset] [(.int kk)]))
        refine GoOn.step (fun t₀ k₀ => XS.iconst X37.here hx rfl (hb hby at_78) k₀) ?_
        show GoOn p e below _ (T37.setTop (mkF m 79 #[.val (.int q0), .val (.int q1), .val (.int q2), .val (.int q3), .val (.int q4), .val (.int (1 : Int32)), .val (.ref b), .val (.int kk), .unset, .unset, .unset] [(.int (2 : Int32)), (.int kk)]))
        by_cases k2 : kk = (2 : Int32)
        · refine GoOn.step (fun t₀ k₀ => XS.icmpNo X37.here hx rfl (hb hby at_79) rfl (teq k2).2 k₀) ?_
          show GoOn p e below _ (T37.setTop (mkF m 82 #[.val (.int q0), .val (.int q1), .val (.int q2), .val (.int q3), .val (.int q4), .val (.int (1 : Int32)), .val (.ref b), .val (.int kk), .unset, .unset, .unset] []))
          refine GoOn.step (fun t₀ k₀ => XS.iloadN X37.here hx rfl (hb hby at_82) rfl k₀) ?_
          show GoOn p e below _ (T37.setTop (mkF m 83 #[.val (.int q0), .val (.int q1), .val (.int q2), .val (.int q3), .val (.int q4), .val (.int (1 : Int32)), .val (.ref b), .val (.int kk), .unset, .unset, .unset] [(.int q1)]))
          refine GoOn.step (fun t₀ k₀ => XS.istore X37.here hx rfl (hb hby at_83) rfl (l' := #[.val (.int q0), .val (.int q1), .val (.int q2), .val (.int q3), .val (.int q4), .val (.int (1 : Int32)), .val (.ref b), .val (.int kk), .val (.int q1), .unset, .unset]) rfl k₀) ?_
          show GoOn p e below _ (T37.setTop (mkF m 85 #[.val (.int q0), .val (.int q1), .val (.int q2), .val (.int q3), .val (.int q4), .val (.int (1 : Int32)), .val (.ref b), .val (.int kk), .val (.int q1), .unset, .unset] []))
          refine GoOn.step (fun t₀ k₀ => XS.goto X37.here hx rfl (pc0 := 85) (pc' := 91) rfl (hb hby at_85) (by decide) (by decide) k₀) ?_
          show GoOn p e below _ (T37.setTop (mkF m 91 #[.val (.int q0), .val (.int q1), .val (.int q2), .val (.int q3), .val (.int q4), .val (.int (1 : Int32)), .val (.ref b), .val (.int kk), .val (.int q1), .unset, .unset] []))
          exact Jm _
        · refine GoOn.step (fun t₀ k₀ => XS.icmpYes X37.here hx rfl (pc0 := 79) (pc' := 88) rfl (hb hby at_79) rfl (feq k2).2 (by decide) (by decide) k₀) ?_
          show GoOn p e below _ (T37.setTop (mkF m 88 #[.val (.int q0), .val (.int q1), .val (.int q2), .val (.int q3), .val (.int q4), .val (.int (1 : Int32)), .val (.ref b), .val (.int kk), .unset, .unset, .unset] []))
          refine GoOn.step (fun t₀ k₀ => XS.iloadN X37.here hx rfl (hb hby at_88) rfl k₀) ?_
          show GoOn p e below _ (T37.setTop (mkF m 89 #[.val (.int q0), .val (.int q1), .val (.int q2), .val (.int q3), .val (.int q4), .val (.int (1 : Int32)), .val (.ref b), .val (.int kk), .unset, .unset, .unset] [(.int q2)]))
          refine GoOn.step (fun t₀ k₀ => XS.istore X37.here hx rfl (hb hby at_89) rfl (l' := #[.val (.int q0), .val (.int q1), .val (.int q2), .val (.int q3), .val (.int q4), .val (.int (1 : Int32)), .val (.ref b), .val (.int kk), .val (.int q2), .unset, .unset]) rfl k₀) ?_
          show GoOn p e below _ (T37.setTop (mkF m 91 #[.val (.int q0), .val (.int q1), .val (.int q2), .val (.int q3), .val (.int q4), .val (.int (1 : Int32)), .val (.ref b), .val (.int kk), .val (.int q2), .unset, .unset] []))
          exact Jm _
  · show GoOn p e below _ (s₁.setTop (mkF m 8 #[.val (.int q0), .val (.int q1), .val (.int q2), .val (.int q3), .val (.int q4), .val (.int (2 : Int32)), .unset, .unset, .unset, .unset, .unset] [(.int (2 : Int32))]))
    obtain ⟨T50, h50, k50, X50, e50, E50, A50, B50, st50⟩ := newPE X0 hx hZ (hw _ (List.mem_of_getElem? (i := 0) rfl)) e0 (g := (mkF m 8 #[.val (.int q0), .val (.int q1), .val (.int q2), .val (.int q3), .val (.int q4), .val (.int (2 : Int32)), .unset, .unset, .unset, .unset, .unset] [(.int (2 : Int32))])) rfl (hb hby at_8) rfl (by decide) (cap := 3) (by decide) (by decide) (by decide) (by decide) (ad := "[I") (by decide)
    obtain ⟨b, g50⟩ : ∃ z, z = h0.size := ⟨_, rfl⟩
    rw [← g50] at A50 B50 st50
    have le_b : n0 ≤ b := by rw [g50]; exact Z0
    replace Z0 := Nat.le_trans Z0 E50.1
    have J_b : Jar Z h50 b .int 2 (fun _ => defaultValue .int) := Jar.new A50 (by decide)
    have Ex_b : Exa Z h50 b "[I" := B50
    refine GoOn.step st50 ?_
    show GoOn p e below _ (T50.setTop (mkF m 10 #[.val (.int q0), .val (.int q1), .val (.int q2), .val (.int q3), .val (.int q4), .val (.int (2 : Int32)), .unset, .unset, .unset, .unset, .unset] [(.ref b)]))
    refine GoOn.step (fun t₀ k₀ => XS.astore X50.here hx rfl (hb hby at_10) rfl rfl (l' := #[.val (.int q0), .val (.int q1), .val (.int q2), .val (.int q3), .val (.int q4), .val (.int (2 : Int32)), .val (.ref b), .unset, .unset, .unset, .unset]) rfl k₀) ?_
    show GoOn p e below _ (T50.setTop (mkF m 12 #[.val (.int q0), .val (.int q1), .val (.int q2), .val (.int q3), .val (.int q4), .val (.int (2 : Int32)), .val (.ref b), .unset, .unset, .unset, .unset] []))
    refine GoOn.step (fun t₀ k₀ => XS.iload X50.here hx rfl (hb hby at_12) rfl k₀) ?_
    show GoOn p e below _ (T50.setTop (mkF m 14 #[.val (.int q0), .val (.int q1), .val (.int q2), .val (.int q3), .val (.int q4), .val (.int (2 : Int32)), .val (.ref b), .unset, .unset, .unset, .unset] [(.int (2 : Int32))]))
    refine GoOn.step (fun t₀ k₀ => XS.iconst X50.here hx rfl (hb hby at_14) k₀) ?_
    show GoOn p e below _ (T50.setTop (mkF m 15 #[.val (.int q0), .val (.int q1), .val (.int q2), .val (.int q3), .val (.int q4), .val (.int (2 : Int32)), .val (.ref b), .unset, .unset, .unset, .unset] [(.int (1 : Int32)), (.int (2 : Int32))]))
    have hf51 : ¬ ((2 : Int32) < (1 : Int32)) := (by decide)
    refine GoOn.step (fun t₀ k₀ => XS.icmpNo X50.here hx rfl (hb hby at_15) rfl (flt hf51).1 k₀) ?_
    show GoOn p e below _ (T50.setTop (mkF m 18 #[.val (.int q0), .val (.int q1), .val (.int q2), .val (.int q3), .val (.int q4), .val (.int (2 : Int32)), .val (.ref b), .unset, .unset, .unset, .unset] []))
    refine GoOn.step (fun t₀ k₀ => XS.aload X50.here hx rfl (hb hby at_18) rfl rfl k₀) ?_
    show GoOn p e below _ (T50.setTop (mkF m 20 #[.val (.int q0), .val (.int q1), .val (.int q2), .val (.int q3), .val (.int q4), .val (.int (2 : Int32)), .val (.ref b), .unset, .unset, .unset, .unset] [(.ref b)]))
    refine GoOn.step (fun t₀ k₀ => XS.iconst X50.here hx rfl (hb hby at_20) k₀) ?_
    show GoOn p e below _ (T50.setTop (mkF m 21 #[.val (.int q0), .val (.int q1), .val (.int q2), .val (.int q3), .val (.int q4), .val (.int (2 : Int32)), .val (.ref b), .unset, .unset, .unset, .unset] [(.int (0 : Int32)), (.ref b)]))
    refine GoOn.step (fun t₀ k₀ => XS.iloadN X50.here hx rfl (hb hby at_21) rfl k₀) ?_
    show GoOn p e below _ (T50.setTop (mkF m 22 #[.val (.int q0), .val (.int q1), .val (.int q2), .val (.int q3), .val (.int q4), .val (.int (2 : Int32)), .val (.ref b), .unset, .unset, .unset, .unset] [(.int q0), (.int (0 : Int32)), (.ref b)]))
    obtain ⟨T52, h52, X52, e52, W52, st52⟩ := kStI X50 hx hZ e50 J_b (j := (0 : Int32)) ⟨by decide, by decide⟩ (g := (mkF m 22 #[.val (.int q0), .val (.int q1), .val (.int q2), .val (.int q3), .val (.int q4), .val (.int (2 : Int32)), .val (.ref b), .unset, .unset, .unset, .unset] [(.int q0), (.int (0 : Int32)), (.ref b)])) rfl rfl (hb hby at_22)
    replace N0 := Fr.snoc X52 N0 le_b
    replace J_b := J_b.set W52
    replace Ex_b := Ex_b.wr W52
    replace Z0 := Nat.le_trans Z0 (Nat.le_of_eq W52.size.symm)
    refine GoOn.step st52 ?_
    show GoOn p e below _ (T52.setTop (mkF m 23 #[.val (.int q0), .val (.int q1), .val (.int q2), .val (.int q3), .val (.int q4), .val (.int (2 : Int32)), .val (.ref b), .unset, .unset, .unset, .unset] []))
    refine GoOn.step (fun t₀ k₀ => XS.iload X52.here hx rfl (hb hby at_23) rfl k₀) ?_
    show GoOn p e below _ (T52.setTop (mkF m 25 #[.val (.int q0), .val (.int q1), .val (.int q2), .val (.int q3), .val (.int q4), .val (.int (2 : Int32)), .val (.ref b), .unset, .unset, .unset, .unset] [(.int (2 : Int32))]))
    refine GoOn.step (fun t₀ k₀ => XS.iconst X52.here hx rfl (hb hby at_25) k₀) ?_
    show GoOn p e below _ (T52.setTop (mkF m 26 #[.val (.int q0), .val (.int q1), .val (.int q2), .val (.int q3), .val (.int q4), .val (.int (2 : Int32)), .val (.ref b), .unset, .unset, .unset, .unset] [(.int (2 : Int32)), (.int (2 : Int32))]))
    have hf53 : ¬ ((2 : Int32) < (2 : Int32)) := (by decide)
    refine GoOn.step (fun t₀ k₀ => XS.icmpNo X52.here hx rfl (hb hby at_26) rfl (flt hf53).1 k₀) ?_
    show GoOn p e below _ (T52.setTop (mkF m 29 #[.val (.int q0), .val (.int q1), .val (.int q2), .val (.int q3), .val (.int q4), .val (.int (2 : Int32)), .val (.ref b), .unset, .unset, .unset, .unset] []))
    refine GoOn.step (fun t₀ k₀ => XS.aload X52.here hx rfl (hb hby at_29) rfl rfl k₀) ?_
    show GoOn p e below _ (T52.setTop (mkF m 31 #[.val (.int q0), .val (.int q1), .val (.int q2), .val (.int q3), .val (.int q4), .val (.int (2 : Int32)), .val (.ref b), .unset, .unset, .unset, .unset] [(.ref b)]))
    refine GoOn.step (fun t₀ k₀ => XS.iconst X52.here hx rfl (hb hby at_31) k₀) ?_
    show GoOn p e below _ (T52.setTop (mkF m 32 #[.val (.int q0), .val (.int q1), .val (.int q2), .val (.int q3), .val (.int q4), .val (.int (2 : Int32)), .val (.ref b), .unset, .unset, .unset, .unset] [(.int (1 : Int32)), (.ref b)]))
    refine GoOn.step (fun t₀ k₀ => XS.iloadN X52.here hx rfl (hb hby at_32) rfl k₀) ?_
    show GoOn p e below _ (T52.setTop (mkF m 33 #[.val (.int q0), .val (.int q1), .val (.int q2), .val (.int q3), .val (.int q4), .val (.int (2 : Int32)), .val (.ref b), .unset, .unset, .unset, .unset] [(.int q1), (.int (1 : Int32)), (.ref b)]))
    obtain ⟨T54, h54, X54, e54, W54, st54⟩ := kStI X52 hx hZ e52 J_b (j := (1 : Int32)) ⟨by decide, by decide⟩ (g := (mkF m 33 #[.val (.int q0), .val (.int q1), .val (.int q2), .val (.int q3), .val (.int q4), .val (.int (2 : Int32)), .val (.ref b), .unset, .unset, .unset, .unset] [(.int q1), (.int (1 : Int32)), (.ref b)])) rfl rfl (hb hby at_33)
    replace N0 := Fr.snoc X54 N0 le_b
    replace J_b := J_b.set W54
    replace Ex_b := Ex_b.wr W54
    replace Z0 := Nat.le_trans Z0 (Nat.le_of_eq W54.size.symm)
    refine GoOn.step st54 ?_
    show GoOn p e below _ (T54.setTop (mkF m 34 #[.val (.int q0), .val (.int q1), .val (.int q2), .val (.int q3), .val (.int q4), .val (.int (2 : Int32)), .val (.ref b), .unset, .unset, .unset, .unset] []))
    refine GoOn.step (fun t₀ k₀ => XS.iload X54.here hx rfl (hb hby at_34) rfl k₀) ?_
    show GoOn p e below _ (T54.setTop (mkF m 36 #[.val (.int q0), .val (.int q1), .val (.int q2), .val (.int q3), .val (.int q4), .val (.int (2 : Int32)), .val (.ref b), .unset, .unset, .unset, .unset] [(.int (2 : Int32))]))
    refine GoOn.step (fun t₀ k₀ => XS.iconst X54.here hx rfl (hb hby at_36) k₀) ?_
    show GoOn p e below _ (T54.setTop (mkF m 37 #[.val (.int q0), .val (.int q1), .val (.int q2), .val (.int q3), .val (.int q4), .val (.int (2 : Int32)), .val (.ref b), .unset, .unset, .unset, .unset] [(.int (3 : Int32)), (.int (2 : Int32))]))
    have hf55 : (2 : Int32) < (3 : Int32) := (by decide)
    refine GoOn.step (fun t₀ k₀ => XS.icmpYes X54.here hx rfl (pc0 := 37) (pc' := 45) rfl (hb hby at_37) rfl (tlt hf55).1 (by decide) (by decide) k₀) ?_
    show GoOn p e below _ (T54.setTop (mkF m 45 #[.val (.int q0), .val (.int q1), .val (.int q2), .val (.int q3), .val (.int q4), .val (.int (2 : Int32)), .val (.ref b), .unset, .unset, .unset, .unset] []))
    have J : Jar Z h54 b .int 2 (fun i => .int ([q0, q1].getD i 0)) := J_b.congr (fun i hi => match i, hi with | 0, _ => rfl | 1, _ => rfl | k + 2, q => absurd q (by omega))
    clear J_b
    refine GoOn.step (fun t₀ k₀ => XS.iload X54.here hx rfl (hb hby at_45) rfl k₀) ?_
    show GoOn p e below _ (T54.setTop (mkF m 47 #[.val (.int q0), .val (.int q1), .val (.int q2), .val (.int q3), .val (.int q4), .val (.int (2 : Int32)), .val (.ref b), .unset, .unset, .unset, .unset] [(.int q4)]))
    refine GoOn.step (fun t₀ k₀ => XS.iconst X54.here hx rfl (hb hby at_47) k₀) ?_
    show GoOn p e below _ (T54.setTop (mkF m 48 #[.val (.int q0), .val (.int q1), .val (.int q2), .val (.int q3), .val (.int q4), .val (.int (2 : Int32)), .val (.ref b), .unset, .unset, .unset, .unset] [(.int (2 : Int32)), (.int q4)]))
    refine GoOn.step (fun t₀ k₀ => XS.iushr X54.here hx rfl (hb hby at_48) rfl k₀) ?_
    show GoOn p e below _ (T54.setTop (mkF m 49 #[.val (.int q0), .val (.int q1), .val (.int q2), .val (.int q3), .val (.int q4), .val (.int (2 : Int32)), .val (.ref b), .unset, .unset, .unset, .unset] [(.int ((q4.toUInt32 >>> ((2 : Int32) &&& 31).toUInt32).toInt32))]))
    refine GoOn.step (fun t₀ k₀ => XS.iconst X54.here hx rfl (hb hby at_49) k₀) ?_
    show GoOn p e below _ (T54.setTop (mkF m 50 #[.val (.int q0), .val (.int q1), .val (.int q2), .val (.int q3), .val (.int q4), .val (.int (2 : Int32)), .val (.ref b), .unset, .unset, .unset, .unset] [(.int (3 : Int32)), (.int ((q4.toUInt32 >>> ((2 : Int32) &&& 31).toUInt32).toInt32))]))
    refine GoOn.step (fun t₀ k₀ => XS.iand X54.here hx rfl (hb hby at_50) rfl k₀) ?_
    show GoOn p e below _ (T54.setTop (mkF m 51 #[.val (.int q0), .val (.int q1), .val (.int q2), .val (.int q3), .val (.int q4), .val (.int (2 : Int32)), .val (.ref b), .unset, .unset, .unset, .unset] [(.int (((q4.toUInt32 >>> ((2 : Int32) &&& 31).toUInt32).toInt32) &&& (3 : Int32)))]))
    generalize hk : (((q4.toUInt32 >>> ((2 : Int32) &&& 31).toUInt32).toInt32) &&& (3 : Int32)) = kk
    have hkI := congrArg Int32.toInt hk
    refine GoOn.step (fun t₀ k₀ => XS.istore X54.here hx rfl (hb hby at_51) rfl (l' := #[.val (.int q0), .val (.int q1), .val (.int q2), .val (.int q3), .val (.int q4), .val (.int (2 : Int32)), .val (.ref b), .val (.int kk), .unset, .unset, .unset]) rfl k₀) ?_
    show GoOn p e below _ (T54.setTop (mkF m 53 #[.val (.int q0), .val (.int q1), .val (.int q2), .val (.int q3), .val (.int q4), .val (.int (2 : Int32)), .val (.ref b), .val (.int kk), .unset, .unset, .unset] []))
    refine GoOn.step (fun t₀ k₀ => XS.iload X54.here hx rfl (hb hby at_53) rfl k₀) ?_
    show GoOn p e below _ (T54.setTop (mkF m 55 #[.val (.int q0), .val (.int q1), .val (.int q2), .val (.int q3), .val (.int q4), .val (.int (2 : Int32)), .val (.ref b), .val (.int kk), .unset, .unset, .unset] [(.int kk)]))
    have Jm : ∀ (mo : Int32), GoOn p e below (EndQ s room_1 (LQ n0)) (T54.setTop (mkF m 91 #[.val (.int q0), .val (.int q1), .val (.int q2), .val (.int q3), .val (.int q4), .val (.int (2 : Int32)), .val (.ref b), .val (.int kk), .val (.int mo), .unset, .unset] [])) := by
      intro mo
      obtain ⟨T56, h56, X56, e56, E56, A56, D56, -, st56⟩ := newO X54 hx hZ hown (hw _ (List.mem_of_getElem? (i := 1) rfl)) (hw _ (List.mem_of_getElem? (i := 2) rfl)) (hw _ (List.mem_of_getElem? (i := 3) rfl)) e54 (g := (mkF m 91 #[.val (.int q0), .val (.int q1), .val (.int q2), .val (.int q3), .val (.int q4), .val (.int (2 : Int32)), .val (.ref b), .val (.int kk), .val (.int mo), .unset, .unset] [])) rfl (hb hby at_91) (by decide) (by decide)
      obtain ⟨ob, g56⟩ : ∃ z, z = h54.size := ⟨_, rfl⟩
      rw [← g56] at A56 D56 st56
      have lt_b_ob : b < ob := by rw [g56]; exact Ex_b.lt
      have ne_b_ob : b ≠ ob := Nat.ne_of_lt lt_b_ob
      have le_ob : n0 ≤ ob := by rw [g56]; exact Z0
      replace Ex_b := Ex_b.ext E56
      replace J := J.ext E56
      replace Z0 := Nat.le_trans Z0 E56.1
      have Ex_ob : Exa Z h56 ob "com/example/tidewire/tidewire/handshake/AuthRequest" := A56
      have F_method_ob : Fld Z h56 ob "com/example/tidewire/tidewire/handshake/AuthRequest" "method" "I" (.int (0 : Int32)) := D56 (Or.inr (hw _ (List.mem_of_getElem? (i := 12) rfl))) (ty := .int) (by decide)
      have F_modes_ob : Fld Z h56 ob "com/example/tidewire/tidewire/handshake/AuthRequest" "modes" "[I" .null := D56 (Or.inr (hw _ (List.mem_of_getElem? (i := 23) rfl))) (ty := (.array .int)) (by decide)
      have F_methodPayload_ob : Fld Z h56 ob "com/example/tidewire/tidewire/handshake/AuthRequest" "methodPayload" "[B" .null := D56 (Or.inr (hw _ (List.mem_of_getElem? (i := 31) rfl))) (ty := (.array .byte)) (by decide)
      refine GoOn.step st56 ?_
      show GoOn p e below _ (T56.setTop (mkF m 94 #[.val (.int q0), .val (.int q1), .val (.int q2), .val (.int q3), .val (.int q4), .val (.int (2 : Int32)), .val (.ref b), .val (.int kk), .val (.int mo), .unset, .unset] [(.ref ob)]))
      refine GoOn.step (fun t₀ k₀ => XS.dup X56.here hx rfl (hb hby at_94) rfl rfl k₀) ?_
      show GoOn p e below _ (T56.setTop (mkF m 95 #[.val (.int q0), .val (.int q1), .val (.int q2), .val (.int q3), .val (.int q4), .val (.int (2 : Int32)), .val (.ref b), .val (.int kk), .val (.int mo), .unset, .unset] [(.ref ob), (.ref ob)]))
      refine GoOn.step (fun t₀ k₀ => XS.iload X56.here hx rfl (hb hby at_95) rfl k₀) ?_
      show GoOn p e below _ (T56.setTop (mkF m 97 #[.val (.int q0), .val (.int q1), .val (.int q2), .val (.int q3), .val (.int q4), .val (.int (2 : Int32)), .val (.ref b), .val (.int kk), .val (.int mo), .unset, .unset] [(.int q4), (.ref ob), (.ref ob)]))
      refine GoOn.step (fun t₀ k₀ => XS.aload X56.here hx rfl (hb hby at_97) rfl rfl k₀) ?_
      show GoOn p e below _ (T56.setTop (mkF m 99 #[.val (.int q0), .val (.int q1), .val (.int q2), .val (.int q3), .val (.int q4), .val (.int (2 : Int32)), .val (.ref b), .val (.int kk), .val (.int mo), .unset, .unset] [(.ref b), (.int q4), (.ref ob), (.ref ob)]))
      refine GoOn.step (fun t₀ k₀ => XS.iconst X56.here hx rfl (hb hby at_99) k₀) ?_
      show GoOn p e below _ (T56.setTop (mkF m 100 #[.val (.int q0), .val (.int q1), .val (.int q2), .val (.int q3), .val (.int q4), .val (.int (2 : Int32)), .val (.ref b), .val (.int kk), .val (.int mo), .unset, .unset] [(.int (0 : Int32)), (.ref b), (.int q4), (.ref ob), (.ref ob)]))
      obtain ⟨T57, h57, k57, X57, e57, E57, A57, B57, st57⟩ := newPE X56 hx hZ (hw _ (List.mem_of_getElem? (i := 4) rfl)) e56 (g := (mkF m 100 #[.val (.int q0), .val (.int q1), .val (.int q2), .val (.int q3), .val (.int q4), .val (.int (2 : Int32)), .val (.ref b), .val (.int kk), .val (.int mo), .unset, .unset] [(.int (0 : Int32)), (.ref b), (.int q4), (.ref ob), (.ref ob)])) rfl (hb hby at_100) rfl (by decide) (cap := 0) (by decide) (by decide) (by decide) (by decide) (ad := "[B") (by decide)
      obtain ⟨pb, g57⟩ : ∃ z, z = h56.size := ⟨_, rfl⟩
      rw [← g57] at A57 B57 st57
      have lt_b_pb : b < pb := by rw [g57]; exact Ex_b.lt
      have ne_b_pb : b ≠ pb := Nat.ne_of_lt lt_b_pb
      have lt_ob_pb : ob < pb := by rw [g57]; exact Ex_ob.lt
      have ne_ob_pb : ob ≠ pb := Nat.ne_of_lt lt_ob_pb
      have le_pb : n0 ≤ pb := by rw [g57]; exact Z0
      replace Ex_b := Ex_b.ext E57
      replace J := J.ext E57
      replace Ex_ob := Ex_ob.ext E57
      replace F_method_ob := F_method_ob.ext E57
      replace F_modes_ob := F_modes_ob.ext E57
      replace F_methodPayload_ob := F_methodPayload_ob.ext E57
      replace Z0 := Nat.le_trans Z0 E57.1
      have J_pb : Jar Z h57 pb .byte 0 (fun _ => defaultValue .byte) := Jar.new A57 (by decide)
      have Ex_pb : Exa Z h57 pb "[B" := B57
      refine GoOn.step st57 ?_
      show GoOn p e below _ (T57.setTop (mkF m 102 #[.val (.int q0), .val (.int q1), .val (.int q2), .val (.int q3), .val (.int q4), .val (.int (2 : Int32)), .val (.ref b), .val (.int kk), .val (.int mo), .unset, .unset] [(.ref pb), (.ref b), (.int q4), (.ref ob), (.ref ob)]))
      obtain ⟨_, T58, L58, X58, hQ58, st58⟩ := kCallI X57 hx hZ (a := ob) (argsL := [(.int q4), (.ref b), (.ref pb)]) (rest := [(.ref ob)]) (c_ini l Z a0 hw ob b pb q4 2 _ _ _ n0 Z0 Ex_ob F_method_ob F_modes_ob F_methodPayload_ob J Ex_b J_pb Ex_pb le_ob ne_b_ob (Ne.symm ne_ob_pb) (by decide)) rfl hown (hw _ (List.mem_of_getElem? (i := 5) rfl)) (hw _ (List.mem_of_getElem? (i := 6) rfl)) (hw _ (List.mem_of_getElem? (i := 3) rfl)) (hw _ (List.mem_of_getElem? (i := 7) rfl)) (by decide) e57 (g := (mkF m 102 #[.val (.int q0), .val (.int q1), .val (.int q2), .val (.int q3), .val (.int q4), .val (.int (2 : Int32)), .val (.ref b), .val (.int kk), .val (.int mo), .unset, .unset] [(.ref pb), (.ref b), (.int q4), (.ref ob), (.ref ob)])) rfl (by rw [hml]; rfl) (lenOf pd_0 rfl) rfl (W := 1) (by show 2 * 0 + _ ≤ _; exact Nat.le_of_eq rfl) (hb hby at_102) (by decide) (by decide) (by decide) (by decide)
      obtain ⟨cm, rfl, N58, K58, Fo, Jc⟩ := hQ58
      replace N0 := Fr.app N0 N58
      replace Ex_b := Ex_b.keep K58
      replace J := J.keep K58 (ninS ne_b_ob nin0)
      replace Ex_ob := Ex_ob.keep K58
      clear F_method_ob
      clear F_modes_ob
      clear F_methodPayload_ob
      replace J_pb := J_pb.keep K58 (ninS (Ne.symm ne_ob_pb) nin0)
      replace Ex_pb := Ex_pb.keep K58
      replace Z0 := Nat.le_trans Z0 K58.1
      refine GoOn.step st58 ?_
      show GoOn p e below _ (T58.setTop (mkF m 105 #[.val (.int q0), .val (.int q1), .val (.int q2), .val (.int q3), .val (.int q4), .val (.int (2 : Int32)), .val (.ref b), .val (.int kk), .val (.int mo), .unset, .unset] [(.ref ob)]))
      refine GoOn.step (fun t₀ k₀ => XS.astore X58.here hx rfl (hb hby at_105) rfl rfl (l' := #[.val (.int q0), .val (.int q1), .val (.int q2), .val (.int q3), .val (.int q4), .val (.int (2 : Int32)), .val (.ref b), .val (.int kk), .val (.int mo), .val (.ref ob), .unset]) rfl k₀) ?_
      show GoOn p e below _ (T58.setTop (mkF m 107 #[.val (.int q0), .val (.int q1), .val (.int q2), .val (.int q3), .val (.int q4), .val (.int (2 : Int32)), .val (.ref b), .val (.int kk), .val (.int mo), .val (.ref ob), .unset] []))
      refine GoOn.step (fun t₀ k₀ => XS.iload X58.here hx rfl (hb hby at_107) rfl k₀) ?_
      show GoOn p e below _ (T58.setTop (mkF m 109 #[.val (.int q0), .val (.int q1), .val (.int q2), .val (.int q3), .val (.int q4), .val (.int (2 : Int32)), .val (.ref b), .val (.int kk), .val (.int mo), .val (.ref ob), .unset] [(.int (2 : Int32))]))
      refine GoOn.step (fun t₀ k₀ => XS.iconst X58.here hx rfl (hb hby at_109) k₀) ?_
      show GoOn p e below _ (T58.setTop (mkF m 110 #[.val (.int q0), .val (.int q1), .val (.int q2), .val (.int q3), .val (.int q4), .val (.int (2 : Int32)), .val (.ref b), .val (.int kk), .val (.int mo), .val (.ref ob), .unset] [(.int (1 : Int32)), (.int (2 : Int32))]))
      have hf59 : ¬ ((2 : Int32) < (1 : Int32)) := (by decide)
      refine GoOn.step (fun t₀ k₀ => XS.icmpNo X58.here hx rfl (hb hby at_110) rfl (flt hf59).1 k₀) ?_
      show GoOn p e below _ (T58.setTop (mkF m 113 #[.val (.int q0), .val (.int q1), .val (.int q2), .val (.int q3), .val (.int q4), .val (.int (2 : Int32)), .val (.ref b), .val (.int kk), .val (.int mo), .val (.ref ob), .unset] []))
      refine GoOn.step (fun t₀ k₀ => XS.iloadN X58.here hx rfl (hb hby at_113) rfl k₀) ?_
      show GoOn p e below _ (T58.setTop (mkF m 114 #[.val (.int q0), .val (.int q1), .val (.int q2), .val (.int q3), .val (.int q4), .val (.int (2 : Int32)), .val (.ref b), .val (.int kk), .val (.int mo), .val (.ref ob), .unset] [(.int q0)]))
      refine GoOn.step (fun t₀ k₀ => XS.iload X58.here hx rfl (hb hby at_114) rfl k₀) ?_
      show GoOn p e below _ (T58.setTop (mkF m 116 #[.val (.int q0), .val (.int q1), .val (.int q2), .val (.int q3), .val (.int q4), .val (.int (2 : Int32)), .val (.ref b), .val (.int kk), .val (.int mo), .val (.ref ob), .unset] [(.int mo), (.int q0)]))
      by_cases e0 : q0 = mo
      · refine GoOn.step (fun t₀ k₀ => XS.icmpYes X58.here hx rfl (pc0 := 116) (pc' := 143) rfl (hb hby at_116) rfl (teq e0).1 (by decide) (by decide) k₀) ?_
        show GoOn p e below _ (T58.setTop (mkF m 143 #[.val (.int q0), .val (.int q1), .val (.int q2), .val (.int q3), .val (.int q4), .val (.int (2 : Int32)), .val (.ref b), .val (.int kk), .val (.int mo), .val (.ref ob), .unset] []))
        refine GoOn.step (fun t₀ k₀ => XS.iconst X58.here hx rfl (hb hby at_143) k₀) ?_
        show GoOn p e below _ (T58.setTop (mkF m 144 #[.val (.int q0), .val (.int q1), .val (.int q2), .val (.int q3), .val (.int q4), .val (.int (2 : Int32)), .val (.ref b), .val (.int kk), .val (.int mo), .val (.ref ob), .unset] [(.int (1 : Int32))]))
        refine GoOn.step (fun t₀ k₀ => XS.goto X58.here hx rfl (pc0 := 144) (pc' := 148) rfl (hb hby at_144) (by decide) (by decide) k₀) ?_
        show GoOn p e below _ (T58.setTop (mkF m 148 #[.val (.int q0), .val (.int q1), .val (.int q2), .val (.int q3), .val (.int q4), .val (.int (2 : Int32)), .val (.ref b), .val (.int kk), .val (.int mo), .val (.ref ob), .unset] [(.int (1 : Int32))]))
        refine GoOn.step (fun t₀ k₀ => XS.istore X58.here hx rfl (hb hby at_148) rfl (l' := #[.val (.int q0), .val (.int q1), .val (.int q2), .val (.int q3), .val (.int q4), .val (.int (2 : Int32)), .val (.ref b), .val (.int kk), .val (.int mo), .val (.ref ob), .val (.int (1 : Int32))]) rfl k₀) ?_
        show GoOn p e below _ (T58.setTop (mkF m 150 #[.val (.int q0), .val (.int q1), .val (.int q2), .val (.int q3), .val (.int q4), .val (.int (2 : Int32)), .val (.ref b), .val (.int kk), .val (.int mo), .val (.ref ob), .val (.int (1 : Int32))] []))
        refine GoOn.step (fun t₀ k₀ => XS.aload X58.here hx rfl (hb hby at_150) rfl rfl k₀) ?_
        show GoOn p e below _ (T58.setTop (mkF m 152 #[.val (.int q0), .val (.int q1), .val (.int q2), .val (.int q3), .val (.int q4), .val (.int (2 : Int32)), .val (.ref b), .val (.int kk), .val (.int mo), .val (.ref ob), .val (.int (1 : Int32))] [(.ref ob)]))
        refine GoOn.step (fun t₀ k₀ => XS.iload X58.here hx rfl (hb hby at_152) rfl k₀) ?_
        show GoOn p e below _ (T58.setTop (mkF m 154 #[.val (.int q0), .val (.int q1), .val (.int q2), .val (.int q3), .val (.int q4), .val (.int (2 : Int32)), .val (.ref b), .val (.int kk), .val (.int mo), .val (.ref ob), .val (.int (1 : Int32))] [(.int mo), (.ref ob)]))
        obtain ⟨_, T60, L60, X60, hQ60, st60⟩ := kCallV X58 hx hZ (a := ob) (argsL := [(.int mo)]) (rest := []) (c_acc2 l Z a0 hw ob cm mo q0 q1 _ Fo Jc) hown (hw _ (List.mem_of_getElem? (i := 32) rfl)) (hw _ (List.mem_of_getElem? (i := 33) rfl)) (notFace_of_selects (args := #[]) (mvT hZ (hw _ (List.mem_of_getElem? (i := 35) rfl)))) (hw _ (List.mem_of_getElem? (i := 35) rfl)) (hw _ (List.mem_of_getElem? (i := 34) rfl)) (hw _ (List.mem_of_getElem? (i := 3) rfl)) (hw _ (List.mem_of_getElem? (i := 36) rfl)) (by decide) rfl Ex_ob (g := (mkF m 154 #[.val (.int q0), .val (.int q1), .val (.int q2), .val (.int q3), .val (.int q4), .val (.int (2 : Int32)), .val (.ref b), .val (.int kk), .val (.int mo), .val (.ref ob), .val (.int (1 : Int32))] [(.int mo), (.ref ob)])) rfl (by rw [hml]; rfl) (lenOf pd_1 rfl) rfl (W := 0) (by show 2 * 0 + _ ≤ _; exact Nat.le_of_eq rfl) (hb hby at_154) (by decide) (by decide) (by decide) (by decide)
        obtain ⟨rfl, rfl, e60⟩ := hQ60
        rw [List.append_nil] at X60
        refine GoOn.step st60 ?_
        show GoOn p e below _ (T60.setTop (mkF m 157 #[.val (.int q0), .val (.int q1), .val (.int q2), .val (.int q3), .val (.int q4), .val (.int (2 : Int32)), .val (.ref b), .val (.int kk), .val (.int mo), .val (.ref ob), .val (.int (1 : Int32))] [(.int (if q0 = mo then (1 : Int32) else (if q1 = mo then (1 : Int32) else (0 : Int32))))]))
        refine GoOn.step (fun t₀ k₀ => XS.iload X60.here hx rfl (hb hby at_157) rfl k₀) ?_
        show GoOn p e below _ (T60.setTop (mkF m 159 #[.val (.int q0), .val (.int q1), .val (.int q2), .val (.int q3), .val (.int q4), .val (.int (2 : Int32)), .val (.ref b), .val (.int kk), .val (.int mo), .val (.ref ob), .val (.int (1 : Int32))] [(.int (1 : Int32)), (.int (if q0 = mo then (1 : Int32) else (if q1 = mo then (1 : Int32) else (0 : Int32))))]))
        have hf61 : (if q0 = mo then (1 : Int32) else (if q1 = mo then (1 : Int32) else (0 : Int32))) = (1 : Int32) := (by rw [if_pos e0])
        refine GoOn.step (fun t₀ k₀ => XS.icmpNo X60.here hx rfl (hb hby at_159) rfl (teq hf61).2 k₀) ?_
        show GoOn p e below _ (T60.setTop (mkF m 162 #[.val (.int q0), .val (.int q1), .val (.int q2), .val (.int q3), .val (.int q4), .val (.int (2 : Int32)), .val (.ref b), .val (.int kk), .val (.int mo), .val (.ref ob), .val (.int (1 : Int32))] []))
        refine GoOn.step (fun t₀ k₀ => XS.iconst X60.here hx rfl (hb hby at_162) k₀) ?_
        show GoOn p e below _ (T60.setTop (mkF m 163 #[.val (.int q0), .val (.int q1), .val (.int q2), .val (.int q3), .val (.int q4), .val (.int (2 : Int32)), .val (.ref b), .val (.int kk), .val (.int mo), .val (.ref ob), .val (.int (1 : Int32))] [(.int (1 : Int32))]))
        refine GoOn.step (fun t₀ k₀ => XS.goto X60.here hx rfl (pc0 := 163) (pc' := 167) rfl (hb hby at_163) (by decide) (by decide) k₀) ?_
        show GoOn p e below _ (T60.setTop (mkF m 167 #[.val (.int q0), .val (.int q1), .val (.int q2), .val (.int q3), .val (.int q4), .val (.int (2 : Int32)), .val (.ref b), .val (.int kk), .val (.int mo), .val (.ref ob), .val (.int (1 : Int32))] [(.int (1 : Int32))]))
        exact GoOn.retN X60 hx hrt hlk (by simp) (hb hby at_167) (by decide) (by decide) (by first | exact ⟨rfl, N0⟩ | (rw [e60]; exact ⟨rfl, N0⟩))
      · refine GoOn.step (fun t₀ k₀ => XS.icmpNo X58.here hx rfl (hb hby at_116) rfl (feq e0).1 k₀) ?_
        show GoOn p e below _ (T58.setTop (mkF m 119 #[.val (.int q0), .val (.int q1), .val (.int q2), .val (.int q3), .val (.int q4), .val (.int (2 : Int32)), .val (.ref b), .val (.int kk), .val (.int mo), .val (.ref ob), .unset] []))
        refine GoOn.step (fun t₀ k₀ => XS.iload X58.here hx rfl (hb hby at_119) rfl k₀) ?_
        show GoOn p e below _ (T58.setTop (mkF m 121 #[.val (.int q0), .val (.int q1), .val (.int q2), .val (.int q3), .val (.int q4), .val (.int (2 : Int32)), .val (.ref b), .val (.int kk), .val (.int mo), .val (.ref ob), .unset] [(.int (2 : Int32))]))
        refine GoOn.step (fun t₀ k₀ => XS.iconst X58.here hx rfl (hb hby at_121) k₀) ?_
        show GoOn p e below _ (T58.setTop (mkF m 122 #[.val (.int q0), .val (.int q1), .val (.int q2), .val (.int q3), .val (.int q4), .val (.int (2 : Int32)), .val (.ref b), .val (.int kk), .val (.int mo), .val (.ref ob), .unset] [(.int (2 : Int32)), (.int (2 : Int32))]))
        have hf62 : ¬ ((2 : Int32) < (2 : Int32)) := (by decide)
        refine GoOn.step (fun t₀ k₀ => XS.icmpNo X58.here hx rfl (hb hby at_122) rfl (flt hf62).1 k₀) ?_
        show GoOn p e below _ (T58.setTop (mkF m 125 #[.val (.int q0), .val (.int q1), .val (.int q2), .val (.int q3), .val (.int q4), .val (.int (2 : Int32)), .val (.ref b), .val (.int kk), .val (.int mo), .val (.ref ob), .unset] []))
        refine GoOn.step (fun t₀ k₀ => XS.iloadN X58.here hx rfl (hb hby at_125) rfl k₀) ?_
        show GoOn p e below _ (T58.setTop (mkF m 126 #[.val (.int q0), .val (.int q1), .val (.int q2), .val (.int q3), .val (.int q4), .val (.int (2 : Int32)), .val (.ref b), .val (.int kk), .val (.int mo), .val (.ref ob), .unset] [(.int q1)]))
        refine GoOn.step (fun t₀ k₀ => XS.iload X58.here hx rfl (hb hby at_126) rfl k₀) ?_
        show GoOn p e below _ (T58.setTop (mkF m 128 #[.val (.int q0), .val (.int q1), .val (.int q2), .val (.int q3), .val (.int q4), .val (.int (2 : Int32)), .val (.ref b), .val (.int kk), .val (.int mo), .val (.ref ob), .unset] [(.int mo), (.int q1)]))
        by_cases e1 : q1 = mo
        · refine GoOn.step (fun t₀ k₀ => XS.icmpYes X58.here hx rfl (pc0 := 128) (pc' := 143) rfl (hb hby at_128) rfl (teq e1).1 (by decide) (by decide) k₀) ?_
          show GoOn p e below _ (T58.setTop (mkF m 143 #[.val (.int q0), .val (.int q1), .val (.int q2), .val (.int q3), .val (.int q4), .val (.int (2 : Int32)), .val (.ref b), .val (.int kk), .val (.int mo), .val (.ref ob), .unset] []))
          refine GoOn.step (fun t₀ k₀ => XS.iconst X58.here hx rfl (hb hby at_143) k₀) ?_
          show GoOn p e below _ (T58.setTop (mkF m 144 #[.val (.int q0), .val (.int q1), .val (.int q2), .val (.int q3), .val (.int q4), .val (.int (2 : Int32)), .val (.ref b), .val (.int kk), .val (.int mo), .val (.ref ob), .unset] [(.int (1 : Int32))]))
          refine GoOn.step (fun t₀ k₀ => XS.goto X58.here hx rfl (pc0 := 144) (pc' := 148) rfl (hb hby at_144) (by decide) (by decide) k₀) ?_
          show GoOn p e below _ (T58.setTop (mkF m 148 #[.val (.int q0), .val (.int q1), .val (.int q2), .val (.int q3), .val (.int q4), .val (.int (2 : Int32)), .val (.ref b), .val (.int kk), .val (.int mo), .val (.ref ob), .unset] [(.int (1 : Int32))]))
          refine GoOn.step (fun t₀ k₀ => XS.istore X58.here hx rfl (hb hby at_148) rfl (l' := #[.val (.int q0), .val (.int q1), .val (.int q2), .val (.int q3), .val (.int q4), .val (.int (2 : Int32)), .val (.ref b), .val (.int kk), .val (.int mo), .val (.ref ob), .val (.int (1 : Int32))]) rfl k₀) ?_
          show GoOn p e below _ (T58.setTop (mkF m 150 #[.val (.int q0), .val (.int q1), .val (.int q2), .val (.int q3), .val (.int q4), .val (.int (2 : Int32)), .val (.ref b), .val (.int kk), .val (.int mo), .val (.ref ob), .val (.int (1 : Int32))] []))
          refine GoOn.step (fun t₀ k₀ => XS.aload X58.here hx rfl (hb hby at_150) rfl rfl k₀) ?_
          show GoOn p e below _ (T58.setTop (mkF m 152 #[.val (.int q0), .val (.int q1), .val (.int q2), .val (.int q3), .val (.int q4), .val (.int (2 : Int32)), .val (.ref b), .val (.int kk), .val (.int mo), .val (.ref ob), .val (.int (1 : Int32))] [(.ref ob)]))
          refine GoOn.step (fun t₀ k₀ => XS.iload X58.here hx rfl (hb hby at_152) rfl k₀) ?_
          show GoOn p e below _ (T58.setTop (mkF m 154 #[.val (.int q0), .val (.int q1), .val (.int q2), .val (.int q3), .val (.int q4), .val (.int (2 : Int32)), .val (.ref b), .val (.int kk), .val (.int mo), .val (.ref ob), .val (.int (1 : Int32))] [(.int mo), (.ref ob)]))
          obtain ⟨_, T63, L63, X63, hQ63, st63⟩ := kCallV X58 hx hZ (a := ob) (argsL := [(.int mo)]) (rest := []) (c_acc2 l Z a0 hw ob cm mo q0 q1 _ Fo Jc) hown (hw _ (List.mem_of_getElem? (i := 32) rfl)) (hw _ (List.mem_of_getElem? (i := 33) rfl)) (notFace_of_selects (args := #[]) (mvT hZ (hw _ (List.mem_of_getElem? (i := 35) rfl)))) (hw _ (List.mem_of_getElem? (i := 35) rfl)) (hw _ (List.mem_of_getElem? (i := 34) rfl)) (hw _ (List.mem_of_getElem? (i := 3) rfl)) (hw _ (List.mem_of_getElem? (i := 36) rfl)) (by decide) rfl Ex_ob (g := (mkF m 154 #[.val (.int q0), .val (.int q1), .val (.int q2), .val (.int q3), .val (.int q4), .val (.int (2 : Int32)), .val (.ref b), .val (.int kk), .val (.int mo), .val (.ref ob), .val (.int (1 : Int32))] [(.int mo), (.ref ob)])) rfl (by rw [hml]; rfl) (lenOf pd_1 rfl) rfl (W := 0) (by show 2 * 0 + _ ≤ _; exact Nat.le_of_eq rfl) (hb hby at_154) (by decide) (by decide) (by decide) (by decide)
          obtain ⟨rfl, rfl, e63⟩ := hQ63
          rw [List.append_nil] at X63
          refine GoOn.step st63 ?_
          show GoOn p e below _ (T63.setTop (mkF m 157 #[.val (.int q0), .val (.int q1), .val (.int q2), .val (.int q3), .val (.int q4), .val (.int (2 : Int32)), .val (.ref b), .val (.int kk), .val (.int mo), .val (.ref ob), .val (.int (1 : Int32))] [(.int (if q0 = mo then (1 : Int32) else (if q1 = mo then (1 : Int32) else (0 : Int32))))]))
          refine GoOn.step (fun t₀ k₀ => XS.iload X63.here hx rfl (hb hby at_157) rfl k₀) ?_
          show GoOn p e below _ (T63.setTop (mkF m 159 #[.val (.int q0), .val (.int q1), .val (.int q2), .val (.int q3), .val (.int q4), .val (.int (2 : Int32)), .val (.ref b), .val (.int kk), .val (.int mo), .val (.ref ob), .val (.int (1 : Int32))] [(.int (1 : Int32)), (.int (if q0 = mo then (1 : Int32) else (if q1 = mo then (1 : Int32) else (0 : Int32))))]))
          have hf64 : (if q0 = mo then (1 : Int32) else (if q1 = mo then (1 : Int32) else (0 : Int32))) = (1 : Int32) := (by rw [if_neg e0, if_pos e1])
          refine GoOn.step (fun t₀ k₀ => XS.icmpNo X63.here hx rfl (hb hby at_159) rfl (teq hf64).2 k₀) ?_
          show GoOn p e below _ (T63.setTop (mkF m 162 #[.val (.int q0), .val (.int q1), .val (.int q2), .val (.int q3), .val (.int q4), .val (.int (2 : Int32)), .val (.ref b), .val (.int kk), .val (.int mo), .val (.ref ob), .val (.int (1 : Int32))] []))
          refine GoOn.step (fun t₀ k₀ => XS.iconst X63.here hx rfl (hb hby at_162) k₀) ?_
          show GoOn p e below _ (T63.setTop (mkF m 163 #[.val (.int q0), .val (.int q1), .val (.int q2), .val (.int q3), .val (.int q4), .val (.int (2 : Int32)), .val (.ref b), .val (.int kk), .val (.int mo), .val (.ref ob), .val (.int (1 : Int32))] [(.int (1 : Int32))]))
          refine GoOn.step (fun t₀ k₀ => XS.goto X63.here hx rfl (pc0 := 163) (pc' := 167) rfl (hb hby at_163) (by decide) (by decide) k₀) ?_
          show GoOn p e below _ (T63.setTop (mkF m 167 #[.val (.int q0), .val (.int q1), .val (.int q2), .val (.int q3), .val (.int q4), .val (.int (2 : Int32)), .val (.ref b), .val (.int kk), .val (.int mo), .val (.ref ob), .val (.int (1 : Int32))] [(.int (1 : Int32))]))
          exact GoOn.retN X63 hx hrt hlk (by simp) (hb hby at_167) (by decide) (by decide) (by first | exact ⟨rfl, N0⟩ | (rw [e63]; exact ⟨rfl, N0⟩))
        · refine GoOn.step (fun t₀ k₀ => XS.icmpNo X58.here hx rfl (hb hby at_128) rfl (feq e1).1 k₀) ?_
          show GoOn p e below _ (T58.setTop (mkF m 131 #[.val (.int q0), .val (.int q1), .val (.int q2), .val (.int q3), .val (.int q4), .val (.int (2 : Int32)), .val (.ref b), .val (.int kk), .val (.int mo), .val (.ref ob), .unset] []))
          refine GoOn.step (fun t₀ k₀ => XS.iload X58.here hx rfl (hb hby at_131) rfl k₀) ?_
          show GoOn p e below _ (T58.setTop (mkF m 133 #[.val (.int q0), .val (.int q1), .val (.int q2), .val (.int q3), .val (.int q4), .val (.int (2 : Int32)), .val (.ref b), .val (.int kk), .val (.int mo), .val (.ref ob), .unset] [(.int (2 : Int32))]))
          refine GoOn.step (fun t₀ k₀ => XS.iconst X58.here hx rfl (hb hby at_133) k₀) ?_
          show GoOn p e below _ (T58.setTop (mkF m 134 #[.val (.int q0), .val (.int q1), .val (.int q2), .val (.int q3), .val (.int q4), .val (.int (2 : Int32)), .val (.ref b), .val (.int kk), .val (.int mo), .val (.ref ob), .unset] [(.int (3 : Int32)), (.int (2 : Int32))]))
          have hf65 : (2 : Int32) < (3 : Int32) := (by decide)
          refine GoOn.step (fun t₀ k₀ => XS.icmpYes X58.here hx rfl (pc0 := 134) (pc' := 147) rfl (hb hby at_134) rfl (tlt hf65).1 (by decide) (by decide) k₀) ?_
          show GoOn p e below _ (T58.setTop (mkF m 147 #[.val (.int q0), .val (.int q1), .val (.int q2), .val (.int q3), .val (.int q4), .val (.int (2 : Int32)), .val (.ref b), .val (.int kk), .val (.int mo), .val (.ref ob), .unset] []))
          refine GoOn.step (fun t₀ k₀ => XS.iconst X58.here hx rfl (hb hby at_147) k₀) ?_
          show GoOn p e below _ (T58.setTop (mkF m 148 #[.val (.int q0), .val (.int q1), .val (.int q2), .val (.int q3), .val (.int q4), .val (.int (2 : Int32)), .val (.ref b), .val (.int kk), .val (.int mo), .val (.ref ob), .unset] [(.int (0 : Int32))]))
          refine GoOn.step (fun t₀ k₀ => XS.istore X58.here hx rfl (hb hby at_148) rfl (l' := #[.val (.int q0), .val (.int q1), .val (.int q2), .val (.int q3), .val (.int q4), .val (.int (2 : Int32)), .val (.ref b), .val (.int kk), .val (.int mo), .val (.ref ob), .val (.int (0 : Int32))]) rfl k₀) ?_
          show GoOn p e below _ (T58.setTop (mkF m 150 #[.val (.int q0), .val (.int q1), .val (.int q2), .val (.int q3), .val (.int q4), .val (.int (2 : Int32)), .val (.ref b), .val (.int kk), .val (.int mo), .val (.ref ob), .val (.int (0 : Int32))] []))
          refine GoOn.step (fun t₀ k₀ => XS.aload X58.here hx rfl (hb hby at_150) rfl rfl k₀) ?_
          show GoOn p e below _ (T58.setTop (mkF m 152 #[.val (.int q0), .val (.int q1), .val (.int q2), .val (.int q3), .val (.int q4), .val (.int (2 : Int32)), .val (.ref b), .val (.int kk), .val (.int mo), .val (.ref ob), .val (.int (0 : Int32))] [(.ref ob)]))
          refine GoOn.step (fun t₀ k₀ => XS.iload X58.here hx rfl (hb hby at_152) rfl k₀) ?_
          show GoOn p e below _ (T58.setTop (mkF m 154 #[.val (.int q0), .val (.int q1), .val (.int q2), .val (.int q3), .val (.int q4), .val (.int (2 : Int32)), .val (.ref b), .val (.int kk), .val (.int mo), .val (.ref ob), .val (.int (0 : Int32))] [(.int mo), (.ref ob)]))
          obtain ⟨_, T66, L66, X66, hQ66, st66⟩ := kCallV X58 hx hZ (a := ob) (argsL := [(.int mo)]) (rest := []) (c_acc2 l Z a0 hw ob cm mo q0 q1 _ Fo Jc) hown (hw _ (List.mem_of_getElem? (i := 32) rfl)) (hw _ (List.mem_of_getElem? (i := 33) rfl)) (notFace_of_selects (args := #[]) (mvT hZ (hw _ (List.mem_of_getElem? (i := 35) rfl)))) (hw _ (List.mem_of_getElem? (i := 35) rfl)) (hw _ (List.mem_of_getElem? (i := 34) rfl)) (hw _ (List.mem_of_getElem? (i := 3) rfl)) (hw _ (List.mem_of_getElem? (i := 36) rfl)) (by decide) rfl Ex_ob (g := (mkF m 154 #[.val (.int q0), .val (.int q1), .val (.int q2), .val (.int q3), .val (.int q4), .val (.int (2 : Int32)), .val (.ref b), .val (.int kk), .val (.int mo), .val (.ref ob), .val (.int (0 : Int32))] [(.int mo), (.ref ob)])) rfl (by rw [hml]; rfl) (lenOf pd_1 rfl) rfl (W := 0) (by show 2 * 0 + _ ≤ _; exact Nat.le_of_eq rfl) (hb hby at_154) (by decide) (by decide) (by decide) (by decide)
          obtain ⟨rfl, rfl, e66⟩ := hQ66
          rw [List.append_nil] at X66
          refine GoOn.step st66 ?_
          show GoOn p e below _ (T66.setTop (mkF m 157 #[.val (.int q0), .val (.int q1), .val (.int q2), .val (.int q3), .val (.int q4), .val (.int (2 : Int32)), .val (.ref b), .val (.int kk), .val (.int mo), .val (.ref ob), .val (.int (0 : Int32))] [(.int (if q0 = mo then (1 : Int32) else (if q1 = mo then (1 : Int32) else (0 : Int32))))]))
          refine GoOn.step (fun t₀ k₀ => XS.iload X66.here hx rfl (hb hby at_157) rfl k₀) ?_
          show GoOn p e below _ (T66.setTop (mkF m 159 #[.val (.int q0), .val (.int q1), .val (.int q2), .val (.int q3), .val (.int q4), .val (.int (2 : Int32)), .val (.ref b), .val (.int kk), .val (.int mo), .val (.ref ob), .val (.int (0 : Int32))] [(.int (0 : Int32)), (.int (if q0 = mo then (1 : Int32) else (if q1 = mo then (1 : Int32) else (0 : Int32))))]))
          have hf67 : (if q0 = mo then (1 : Int32) else (if q1 = mo then (1 : Int32) else (0 : Int32))) = (0 : Int32) := (by rw [if_neg e0, if_neg e1])
          refine GoOn.step (fun t₀ k₀ => XS.icmpNo X66.here hx rfl (hb hby at_159) rfl (teq hf67).2 k₀) ?_
          show GoOn p e below _ (T66.setTop (mkF m 162 #[.val (.int q0), .val (.int q1), .val (.int q2), .val (.int q3), .val (.int q4), .val (.int (2 : Int32)), .val (.ref b), .val (.int kk), .val (.int mo), .val (.ref ob), .val (.int (0 : Int32))] []))
          refine GoOn.step (fun t₀ k₀ => XS.iconst X66.here hx rfl (hb hby at_162) k₀) ?_
          show GoOn p e below _ (T66.setTop (mkF m 163 #[.val (.int q0), .val (.int q1), .val (.int q2), .val (.int q3), .val (.int q4), .val (.int (2 : Int32)), .val (.ref b), .val (.int kk), .val (.int mo), .val (.ref ob), .val (.int (0 : Int32))] [(.int (1 : Int32))]))
          refine GoOn.step (fun t₀ k₀ => XS.goto X66.here hx rfl (pc0 := 163) (pc' := 167) rfl (hb hby at_163) (by decide) (by decide) k₀) ?_
          show GoOn p e below _ (T66.setTop (mkF m 167 #[.val (.int q0), .val (.int q1), .val (.int q2), .val (.int q3), .val (.int q4), .val (.int (2 : Int32)), .val (.ref b), .val (.int kk), .val (.int mo), .val (.ref ob), .val (.int (0 : Int32))] [(.int (1 : Int32))]))
          exact GoOn.retN X66 hx hrt hlk (by simp) (hb hby at_167) (by decide) (by decide) (by first | exact ⟨rfl, N0⟩ | (rw [e66]; exact ⟨rfl, N0⟩))
    by_cases k0 : kk = (0 : Int32)
    · refine GoOn.step (fun t₀ k₀ => XS.ifNo X54.here hx rfl (hb hby at_55) rfl ((if0 _ _).trans (teq k0).2) k₀) ?_
      show GoOn p e below _ (T54.setTop (mkF m 58 #[.val (.int q0), .val (.int q1), .val (.int q2), .val (.int q3), .val (.int q4), .val (.int (2 : Int32)), .val (.ref b), .val (.int kk), .unset, .unset, .unset] []))
      refine GoOn.step (fun t₀ k₀ => XS.iloadN X54.here hx rfl (hb hby at_58) rfl k₀) ?_
      show GoOn p e below _ (T54.setTop (mkF m 59 #[.val (.int q0), .val (.int q1), .val (.int q2), .val (.int q3), .val (.int q4), .val (.int (2 : Int32)), .val (.ref b), .val (.int kk), .unset, .unset, .unset] [(.int q3)]))
      refine GoOn.step (fun t₀ k₀ => XS.istore X54.here hx rfl (hb hby at_59) rfl (l' := #[.val (.int q0), .val (.int q1), .val (.int q2), .val (.int q3), .val (.int q4), .val (.int (2 : Int32)), .val (.ref b), .val (.int kk), .val (.int q3), .unset, .unset]) rfl k₀) ?_
      show GoOn p e below _ (T54.setTop (mkF m 61 #[.val (.int q0), .val (.int q1), .val (.int q2), .val (.int q3), .val (.int q4), .val (.int (2 : Int32)), .val (.ref b), .val (.int kk), .val (.int q3), .unset, .unset] []))
      refine GoOn.step (fun t₀ k₀ => XS.goto X54.here hx rfl (pc0 := 61) (pc' := 91) rfl (hb hby at_61) (by decide) (by decide) k₀) ?_
      show GoOn p e below _ (T54.setTop (mkF m 91 #[.val (.int q0), .val (.int q1), .val (.int q2), .val (.int q3), .val (.int q4), .val (.int (2 : Int32)), .val (.ref b), .val (.int kk), .val (.int q3), .unset, .unset] []))
      exact Jm _
    · refine GoOn.step (fun t₀ k₀ => XS.ifYes X54.here hx rfl (pc0 := 55) (pc' := 64) rfl (hb hby at_55) rfl ((if0 _ _).trans (feq k0).2) (by decide) (by decide) k₀) ?_
      show GoOn p e below _ (T54.setTop (mkF m 64 #[.val (.int q0), .val (.int q1), .val (.int q2), .val (.int q3), .val (.int q4), .val (.int (2 : Int32)), .val (.ref b), .val (.int kk), .unset, .unset, .unset] []))
      refine GoOn.step (fun t₀ k₀ => XS.iload X54.here hx rfl (hb hby at_64) rfl k₀) ?_
      show GoOn p e below _ (T54.setTop (mkF m 66 #[.val (.int q0), .val (.int q1), .val (.int q2), .val (.int q3), .val (.int q4), .val (.int (2 : Int32)), .val (.ref b), .val (.int kk), .unset, .unset, .unset] [(.int kk)]))
      refine GoOn.step (fun t₀ k₀ => XS.iconst X54.here hx rfl (hb hby at_66) k₀) ?_
      show GoOn p e below _ (T54.setTop (mkF m 67 #[.val (.int q0), .val (.int q1), .val (.int q2), .val (.int q3), .val (.int q4), .val (.int (2 : Int32)), .val (.ref b), .val (.int kk), .unset, .unset, .unset] [(.int (1 : Int32)), (.int kk)]))
      by_cases k1 : kk = (1 : Int32)
      · refine GoOn.step (fun t₀ k₀ => XS.icmpNo X54.here hx rfl (hb hby at_67) rfl (teq k1).2 k₀) ?_
        show GoOn p e below _ (T54.setTop (mkF m 70 #[.val (.int q0), .val (.int q1), .val (.int q2), .val (.int q3), .val (.int q4), .val (.int (2 : Int32)), .val (.ref b), .val (.int kk), .unset, .unset, .unset] []))
        refine GoOn.step (fun t₀ k₀ => XS.iloadN X54.here hx rfl (hb hby at_70) rfl k₀) ?_
        show GoOn p e below _ (T54.setTop (mkF m 71 #[.val (.int q0), .val (.int q1), .val (.int q2), .val (.int q3), .val (.int q4), .val (.int (2 : Int32)), .val (.ref b), .val (.int kk), .unset, .unset, .unset] [(.int q0)]))
        refine GoOn.step (fun t₀ k₀ => XS.istore X54.here hx rfl (hb hby at_71) rfl (l' := #[.val (.int q0), .val (.int q1), .val (.int q2), .val (.int q3), .val (.int q4), .val (.int (2 : Int32)), .val (.ref b), .val (.int kk), .val (.int q0), .unset, .unset]) rfl k₀) ?_
        show GoOn p e below _ (T54.setTop (mkF m 73 #[.val (.int q0), .val (.int q1), .val (.int q2), .val (.int q3), .val (.int q4), .val (.int (2 : Int32)), .val (.ref b), .val (.int kk), .val (.int q0), .unset, .unset] []))
        refine GoOn.step (fun t₀ k₀ => XS.goto X54.here hx rfl (pc0 := 73) (pc' := 91) rfl (hb hby at_73) (by decide) (by decide) k₀) ?_
        show GoOn p e below _ (T54.setTop (mkF m 91 #[.val (.int q0), .val (.int q1), .val (.int q2), .val (.int q3), .val (.int q4), .val (.int (2 : Int32)), .val (.ref b), .val (.int kk), .val (.int q0), .unset, .unset] []))
        exact Jm _
      · refine GoOn.step (fun t₀ k₀ => XS.icmpYes X54.here hx rfl (pc0 := 67) (pc' := 76) rfl (hb hby at_67) rfl (feq k1).2 (by decide) (by decide) k₀) ?_
        show GoOn p e below _ (T54.setTop (mkF m 76 #[.val (.int q0), .val (.int q1), .val (.int q2), .val (.int q3), .val (.int q4), .val (.int (2 : Int32)), .val (.ref b), .val (.int kk), .unset, .unset, .unset] []))
        refine GoOn.step (fun t₀ k₀ => XS.iload X54.here hx rfl (hb hby at_76) rfl k₀) ?_
        show GoOn p e below _ (T54.setTop (mkF m 78 #[.val (.int q0), .val (.int q1), .val (.int q2), .val (.int q3), .val (.int q4), .val (.int (2 : Int32)), .val (.ref b), .val (.int kk), .unset, .unset, .unset] [(.int kk)]))
        refine GoOn.step (fun t₀ k₀ => XS.iconst X54.here hx rfl (hb hby at_78) k₀) ?_
        show GoOn p e below _ (T54.setTop (mkF m 79 #[.val (.int q0), .val (.int q1), .val (.int q2), .val (.int q3), .val (.int q4), .val (.int (2 : Int32)), .val (.ref b), .val (.int kk), .unset, .unset, .unset] [(.int (2 : Int32)), (.int kk)]))
        by_cases k2 : kk = (2 : Int32)
        · refine GoOn.step (fun t₀ k₀ => XS.icmpNo X54.here hx rfl (hb hby at_79) rfl (teq k2).2 k₀) ?_
          show GoOn p e below _ (T54.setTop (mkF m 82 #[.val (.int q0), .val (.int q1), .val (.int q2), .val (.int q3), .val (.int q4), .val (.int (2 : Int32)), .val (.ref b), .val (.int kk), .unset, .unset, .unset] []))
          refine GoOn.step (fun t₀ k₀ => XS.iloadN X54.here hx rfl (hb hby at_82) rfl k₀) ?_
          show GoOn p e below _ (T54.setTop (mkF m 83 #[.val (.int q0), .val (.int q1), .val (.int q2), .val (.int q3), .val (.int q4), .val (.int (2 : Int32)), .val (.ref b), .val (.int kk), .unset, .unset, .unset] [(.int q1)]))
          refine GoOn.step (fun t₀ k₀ => XS.istore X54.here hx rfl (hb hby at_83) rfl (l' := #[.val (.int q0), .val (.int q1), .val (.int q2), .val (.int q3), .val (.int q4), .val (.int (2 : Int32)), .val (.ref b), .val (.int kk), .val (.int q1), .unset, .unset]) rfl k₀) ?_
          show GoOn p e below _ (T54.setTop (mkF m 85 #[.val (.int q0), .val (.int q1), .val (.int q2), .val (.int q3), .val (.int q4), .val (.int (2 : Int32)), .val (.ref b), .val (.int kk), .val (.int q1), .unset, .unset] []))
          refine GoOn.step (fun t₀ k₀ => XS.goto X54.here hx rfl (pc0 := 85) (pc' := 91) rfl (hb hby at_85) (by decide) (by decide) k₀) ?_
          show GoOn p e below _ (T54.setTop (mkF m 91 #[.val (.int q0), .val (.int q1), .val (.int q2), .val (.int q3), .val (.int q4), .val (.int (2 : Int32)), .val (.ref b), .val (.int kk), .val (.int q1), .unset, .unset] []))
          exact Jm _
        · refine GoOn.step (fun t₀ k₀ => XS.icmpYes X54.here hx rfl (pc0 := 79) (pc' := 88) rfl (hb hby at_79) rfl (feq k2).2 (by decide) (by decide) k₀) ?_
          show GoOn p e below _ (T54.setTop (mkF m 88 #[.val (.int q0), .val (.int q1), .val (.int q2), .val (.int q3), .val (.int q4), .val (.int (2 : Int32)), .val (.ref b), .val (.int kk), .unset, .unset, .unset] []))
          refine GoOn.step (fun t₀ k₀ => XS.iloadN X54.here hx rfl (hb hby at_88) rfl k₀) ?_
          show GoOn p e below _ (T54.setTop (mkF m 89 #[.val (.int q0), .val (.int q1), .val (.int q2), .val (.int q3), .val (.int q4), .val (.int (2 : Int32)), .val (.ref b), .val (.int kk), .unset, .unset, .unset] [(.int q2)]))
          refine GoOn.step (fun t₀ k₀ => XS.istore X54.here hx rfl (hb hby at_89) rfl (l' := #[.val (.int q0), .val (.int q1), .val (.int q2), .val (.int q3), .val (.int q4), .val (.int (2 : Int32)), .val (.ref b), .val (.int kk), .val (.int q2), .unset, .unset]) rfl k₀) ?_
          show GoOn p e below _ (T54.setTop (mkF m 91 #[.val (.int q0), .val (.int q1), .val (.int q2), .val (.int q3), .val (.int q4), .val (.int (2 : Int32)), .val (.ref b), .val (.int kk), .val (.int q2), .unset, .unset] []))
          exact Jm _
  · show GoOn p e below _ (s₁.setTop (mkF m 8 #[.val (.int q0), .val (.int q1), .val (.int q2), .val (.int q3), .val (.int q4), .val (.int (3 : Int32)), .unset, .unset, .unset, .unset, .unset] [(.int (3 : Int32))]))
    obtain ⟨T68, h68, k68, X68, e68, E68, A68, B68, st68⟩ := newPE X0 hx hZ (hw _ (List.mem_of_getElem? (i := 0) rfl)) e0 (g := (mkF m 8 #[.val (.int q0), .val (.int q1), .val (.int q2), .val (.int q3), .val (.int q4), .val (.int (3 : Int32)), .unset, .unset, .unset, .unset, .unset] [(.int (3 : Int32))])) rfl (hb hby at_8) rfl (by decide) (cap := 3) (by decide) (by decide) (by decide) (by decide) (ad := "[I") (by decide)
    obtain ⟨b, g68⟩ : ∃ z, z = h0.size := ⟨_, rfl⟩
    rw [← g68] at A68 B68 st68
    have le_b : n0 ≤ b := by rw [g68]; exact Z0
    replace Z0 := Nat.le_trans Z0 E68.1
    have J_b : Jar Z h68 b .int 3 (fun _ => defaultValue .int) := Jar.new A68 (by decide)
    have Ex_b : Exa Z h68 b "[I" := B68
    refine GoOn.step st68 ?_
    show GoOn p e below _ (T68.setTop (mkF m 10 #[.val (.int q0), .val (.int q1), .val (.int q2), .val (.int q3), .val (.int q4), .val (.int (3 : Int32)), .unset, .unset, .unset, .unset, .unset] [(.ref b)]))
    refine GoOn.step (fun t₀ k₀ => XS.astore X68.here hx rfl (hb hby at_10) rfl rfl (l' := #[.val (.int q0), .val (.int q1), .val (.int q2), .val (.int q3), .val (.int q4), .val (.int (3 : Int32)), .val (.ref b), .unset, .unset, .unset, .unset]) rfl k₀) ?_
    show GoOn p e below _ (T68.setTop (mkF m 12 #[.val (.int q0), .val (.int q1), .val (.int q2), .val (.int q3), .val (.int q4), .val (.int (3 : Int32)), .val (.ref b), .unset, .unset, .unset, .unset] []))
    refine GoOn.step (fun t₀ k₀ => XS.iload X68.here hx rfl (hb hby at_12) rfl k₀) ?_
    show GoOn p e below _ (T68.setTop (mkF m 14 #[.val (.int q0), .val (.int q1), .val (.int q2), .val (.int q3), .val (.int q4), .val (.int (3 : Int32)), .val (.ref b), .unset, .unset, .unset, .unset] [(.int (3 : Int32))]))
    refine GoOn.step (fun t₀ k₀ => XS.iconst X68.here hx rfl (hb hby at_14) k₀) ?_
    show GoOn p e below _ (T68.setTop (mkF m 15 #[.val (.int q0), .val (.int q1), .val (.int q2), .val (.int q3), .val (.int q4), .val (.int (3 : Int32)), .val (.ref b), .unset, .unset, .unset, .unset] [(.int (1 : Int32)), (.int (3 : Int32))]))
    have hf69 : ¬ ((3 : Int32) < (1 : Int32)) := (by decide)
    refine GoOn.step (fun t₀ k₀ => XS.icmpNo X68.here hx rfl (hb hby at_15) rfl (flt hf69).1 k₀) ?_
    show GoOn p e below _ (T68.setTop (mkF m 18 #[.val (.int q0), .val (.int q1), .val (.int q2), .val (.int q3), .val (.int q4), .val (.int (3 : Int32)), .val (.ref b), .unset, .unset, .unset, .unset] []))
    refine GoOn.step (fun t₀ k₀ => XS.aload X68.here hx rfl (hb hby at_18) rfl rfl k₀) ?_
    show GoOn p e below _ (T68.setTop (mkF m 20 #[.val (.int q0), .val (.int q1), .val (.int q2), .val (.int q3), .val (.int q4), .val (.int (3 : Int32)), .val (.ref b), .unset, .unset, .unset, .unset] [(.ref b)]))
    refine GoOn.step (fun t₀ k₀ => XS.iconst X68.here hx rfl (hb hby at_20) k₀) ?_
    show GoOn p e below _ (T68.setTop (mkF m 21 #[.val (.int q0), .val (.int q1), .val (.int q2), .val (.int q3), .val (.int q4), .val (.int (3 : Int32)), .val (.ref b), .unset, .unset, .unset, .unset] [(.int (0 : Int32)), (.ref b)]))
    refine GoOn.step (fun t₀ k₀ => XS.iloadN X68.here hx rfl (hb hby at_21) rfl k₀) ?_
    show GoOn p e below _ (T68.setTop (mkF m 22 #[.val (.int q0), .val (.int q1), .val (.int q2), .val (.int q3), .val (.int q4), .val (.int (3 : Int32)), .val (.ref b), .unset, .unset, .unset, .unset] [(.int q0), (.int (0 : Int32)), (.ref b)]))
    obtain ⟨T70, h70, X70, e70, W70, st70⟩ := kStI X68 hx hZ e68 J_b (j := (0 : Int32)) ⟨by decide, by decide⟩ (g := (mkF m 22 #[.val (.int q0), .val (.int q1), .val (.int q2), .val (.int q3), .val (.int q4), .val (.int (3 : Int32)), .val (.ref b), .unset, .unset, .unset, .unset] [(.int q0), (.int (0 : Int32)), (.ref b)])) rfl rfl (hb hby at_22)
    replace N0 := Fr.snoc X70 N0 le_b
    replace J_b := J_b.set W70
    replace Ex_b := Ex_b.wr W70
    replace Z0 := Nat.le_trans Z0 (Nat.le_of_eq W70.size.symm)
    refine GoOn.step st70 ?_
    show GoOn p e below _ (T70.setTop (mkF m 23 #[.val (.int q0), .val (.int q1), .val (.int q2), .val (.int q3), .val (.int q4), .val (.int (3 : Int32)), .val (.ref b), .unset, .unset, .unset, .unset] []))
    refine GoOn.step (fun t₀ k₀ => XS.iload X70.here hx rfl (hb hby at_23) rfl k₀) ?_
    show GoOn p e below _ (T70.setTop (mkF m 25 #[.val (.int q0), .val (.int q1), .val (.int q2), .val (.int q3), .val (.int q4), .val (.int (3 : Int32)), .val (.ref b), .unset, .unset, .unset, .unset] [(.int (3 : Int32))]))
    refine GoOn.step (fun t₀ k₀ => XS.iconst X70.here hx rfl (hb hby at_25) k₀) ?_
    show GoOn p e below _ (T70.setTop (mkF m 26 #[.val (.int q0), .val (.int q1), .val (.int q2), .val (.int q3), .val (.int q4), .val (.int (3 : Int32)), .val (.ref b), .unset, .unset, .unset, .unset] [(.int (2 : Int32)), (.int (3 : Int32))]))
    have hf71 : ¬ ((3 : Int32) < (2 : Int32)) := (by decide)
    refine GoOn.step (fun t₀ k₀ => XS.icmpNo X70.here hx rfl (hb hby at_26) rfl (flt hf71).1 k₀) ?_
    show GoOn p e below _ (T70.setTop (mkF m 29 #[.val (.int q0), .val (.int q1), .val (.int q2), .val (.int q3), .val (.int q4), .val (.int (3 : Int32)), .val (.ref b), .unset, .unset, .unset, .unset] []))
    refine GoOn.step (fun t₀ k₀ => XS.aload X70.here hx rfl (hb hby at_29) rfl rfl k₀) ?_
    show GoOn p e below _ (T70.setTop (mkF m 31 #[.val (.int q0), .val (.int q1), .val (.int q2), .val (.int q3), .val (.int q4), .val (.int (3 : Int32)), .val (.ref b), .unset, .unset, .unset, .unset] [(.ref b)]))
    refine GoOn.step (fun t₀ k₀ => XS.iconst X70.here hx rfl (hb hby at_31) k₀) ?_
    show GoOn p e below _ (T70.setTop (mkF m 32 #[.val (.int q0), .val (.int q1), .val (.int q2), .val (.int q3), .val (.int q4), .val (.int (3 : Int32)), .val (.ref b), .unset, .unset, .unset, .unset] [(.int (1 : Int32)), (.ref b)]))
    refine GoOn.step (fun t₀ k₀ => XS.iloadN X70.here hx rfl (hb hby at_32) rfl k₀) ?_
    show GoOn p e below _ (T70.setTop (mkF m 33 #[.val (.int q0), .val (.int q1), .val (.int q2), .val (.int q3), .val (.int q4), .val (.int (3 : Int32)), .val (.ref b), .unset, .unset, .unset, .unset] [(.int q1), (.int (1 : Int32)), (.ref b)]))
    obtain ⟨T72, h72, X72, e72, W72, st72⟩ := kStI X70 hx hZ e70 J_b (j := (1 : Int32)) ⟨by decide, by decide⟩ (g := (mkF m 33 #[.val (.int q0), .val (.int q1), .val (.int q2), .val (.int q3), .val (.int q4), .val (.int (3 : Int32)), .val (.ref b), .unset, .unset, .unset, .unset] [(.int q1), (.int (1 : Int32)), (.ref b)])) rfl rfl (hb hby at_33)
    replace N0 := Fr.snoc X72 N0 le_b
    replace J_b := J_b.set W72
    replace Ex_b := Ex_b.wr W72
    replace Z0 := Nat.le_trans Z0 (Nat.le_of_eq W72.size.symm)
    refine GoOn.step st72 ?_
    show GoOn p e below _ (T72.setTop (mkF m 34 #[.val (.int q0), .val (.int q1), .val (.int q2), .val (.int q3), .val (.int q4), .val (.int (3 : Int32)), .val (.ref b), .unset, .unset, .unset, .unset] []))
    refine GoOn.step (fun t₀ k₀ => XS.iload X72.here hx rfl (hb hby at_34) rfl k₀) ?_
    show GoOn p e below _ (T72.setTop (mkF m 36 #[.val (.int q0), .val (.int q1), .val (.int q2), .val (.int q3), .val (.int q4), .val (.int (3 : Int32)), .val (.ref b), .unset, .unset, .unset, .unset] [(.int (3 : Int32))]))
    refine GoOn.step (fun t₀ k₀ => XS.iconst X72.here hx rfl (hb hby at_36) k₀) ?_
    show GoOn p e below _ (T72.setTop (mkF m 37 #[.val (.int q0), .val (.int q1), .val (.int q2), .val (.int q3), .val (.int q4), .val (.int (3 : Int32)), .val (.ref b), .unset, .unset, .unset, .unset] [(.int (3 : Int32)), (.int (3 : Int32))]))
    have hf73 : ¬ ((3 : Int32) < (3 : Int32)) := (by decide)
    refine GoOn.step (fun t₀ k₀ => XS.icmpNo X72.here hx rfl (hb hby at_37) rfl (flt hf73).1 k₀) ?_
    show GoOn p e below _ (T72.setTop (mkF m 40 #[.val (.int q0), .val (.int q1), .val (.int q2), .val (.int q3), .val (.int q4), .val (.int (3 : Int32)), .val (.ref b), .unset, .unset, .unset, .unset] []))
    refine GoOn.step (fun t₀ k₀ => XS.aload X72.here hx rfl (hb hby at_40) rfl rfl k₀) ?_
    show GoOn p e below _ (T72.setTop (mkF m 42 #[.val (.int q0), .val (.int q1), .val (.int q2), .val (.int q3), .val (.int q4), .val (.int (3 : Int32)), .val (.ref b), .unset, .unset, .unset, .unset] [(.ref b)]))
    refine GoOn.step (fun t₀ k₀ => XS.iconst X72.here hx rfl (hb hby at_42) k₀) ?_
    show GoOn p e below _ (T72.setTop (mkF m 43 #[.val (.int q0), .val (.int q1), .val (.int q2), .val (.int q3), .val (.int q4), .val (.int (3 : Int32)), .val (.ref b), .unset, .unset, .unset, .unset] [(.int (2 : Int32)), (.ref b)]))
    refine GoOn.step (fun t₀ k₀ => XS.iloadN X72.here hx rfl (hb hby at_43) rfl k₀) ?_
    show GoOn p e below _ (T72.setTop (mkF m 44 #[.val (.int q0), .val (.int q1), .val (.int q2), .val (.int q3), .val (.int q4), .val (.int (3 : Int32)), .val (.ref b), .unset, .unset, .unset, .unset] [(.int q2), (.int (2 : Int32)), (.ref b)]))
    obtain ⟨T74, h74, X74, e74, W74, st74⟩ := kStI X72 hx hZ e72 J_b (j := (2 : Int32)) ⟨by decide, by decide⟩ (g := (mkF m 44 #[.val (.int q0), .val (.int q1), .val (.int q2), .val (.int q3), .val (.int q4), .val (.int (3 : Int32)), .val (.ref b), .unset, .unset, .unset, .unset] [(.int q2), (.int (2 : Int32)), (.ref b)])) rfl rfl (hb hby at_44)
    replace N0 := Fr.snoc X74 N0 le_b
    replace J_b := J_b.set W74
    replace Ex_b := Ex_b.wr W74
    replace Z0 := Nat.le_trans Z0 (Nat.le_of_eq W74.size.symm)
    refine GoOn.step st74 ?_
    show GoOn p e below _ (T74.setTop (mkF m 45 #[.val (.int q0), .val (.int q1), .val (.int q2), .val (.int q3), .val (.int q4), .val (.int (3 : Int32)), .val (.ref b), .unset, .unset, .unset, .unset] []))
    have J : Jar Z h74 b .int 3 (fun i => .int ([q0, q1, q2].getD i 0)) := J_b.congr (fun i hi => match i, hi with | 0, _ => rfl | 1, _ => rfl | 2, _ => rfl | k + 3, q => absurd q (by omega))
    clear J_b
    refine GoOn.step (fun t₀ k₀ => XS.iload X74.here hx rfl (hb hby at_45) rfl k₀) ?_
    show GoOn p e below _ (T74.setTop (mkF m 47 #[.val (.int q0), .val (.int q1), .val (.int q2), .val (.int q3), .val (.int q4), .val (.int (3 : Int32)), .val (.ref b), .unset, .unset, .unset, .unset] [(.int q4)]))
    refine GoOn.step (fun t₀ k₀ => XS.iconst X74.here hx rfl (hb hby at_47) k₀) ?_
    show GoOn p e below _ (T74.setTop (mkF m 48 #[.val (.int q0), .val (.int q1), .val (.int q2), .val (.int q3), .val (.int q4), .val (.int (3 : Int32)), .val (.ref b), .unset, .unset, .unset, .unset] [(.int (2 : Int32)), (.int q4)]))
    refine GoOn.step (fun t₀ k₀ => XS.iushr X74.here hx rfl (hb hby at_48) rfl k₀) ?_
    show GoOn p e below _ (T74.setTop (mkF m 49 #[.val (.int q0), .val (.int q1), .val (.int q2), .val (.int q3), .val (.int q4), .val (.int (3 : Int32)), .val (.ref b), .unset, .unset, .unset, .unset] [(.int ((q4.toUInt32 >>> ((2 : Int32) &&& 31).toUInt32).toInt32))]))
    refine GoOn.step (fun t₀ k₀ => XS.iconst X74.here hx rfl (hb hby at_49) k₀) ?_
    show GoOn p e below _ (T74.setTop (mkF m 50 #[.val (.int q0), .val (.int q1), .val (.int q2), .val (.int q3), .val (.int q4), .val (.int (3 : Int32)), .val (.ref b), .unset, .unset, .unset, .unset] [(.int (3 : Int32)), (.int ((q4.toUInt32 >>> ((2 : Int32) &&& 31).toUInt32).toInt32))]))
    refine GoOn.step (fun t₀ k₀ => XS.iand X74.here hx rfl (hb hby at_50) rfl k₀) ?_
    show GoOn p e below _ (T74.setTop (mkF m 51 #[.val (.int q0), .val (.int q1), .val (.int q2), .val (.int q3), .val (.int q4), .val (.int (3 : Int32)), .val (.ref b), .unset, .unset, .unset, .unset] [(.int (((q4.toUInt32 >>> ((2 : Int32) &&& 31).toUInt32).toInt32) &&& (3 : Int32)))]))
    generalize hk : (((q4.toUInt32 >>> ((2 : Int32) &&& 31).toUInt32).toInt32) &&& (3 : Int32)) = kk
    have hkI := congrArg Int32.toInt hk
    refine GoOn.step (fun t₀ k₀ => XS.istore X74.here hx rfl (hb hby at_51) rfl (l' := #[.val (.int q0), .val (.int q1), .val (.int q2), .val (.int q3), .val (.int q4), .val (.int (3 : Int32)), .val (.ref b), .val (.int kk), .unset, .unset, .unset]) rfl k₀) ?_
    show GoOn p e below _ (T74.setTop (mkF m 53 #[.val (.int q0), .val (.int q1), .val (.int q2), .val (.int q3), .val (.int q4), .val (.int (3 : Int32)), .val (.ref b), .val (.int kk), .unset, .unset, .unset] []))
    refine GoOn.step (fun t₀ k₀ => XS.iload X74.here hx rfl (hb hby at_53) rfl k₀) ?_
    show GoOn p e below _ (T74.setTop (mkF m 55 #[.val (.int q0), .val (.int q1), .val (.int q2), .val (.int q3), .val (.int q4), .val (.int (3 : Int32)), .val (.ref b), .val (.int kk), .unset, .unset, .unset] [(.int kk)]))
    have Jm : ∀ (mo : Int32), GoOn p e below (EndQ s room_1 (LQ n0)) (T74.setTop (mkF m 91 #[.val (.int q0), .val (.int q1), .val (.int q2), .val (.int q3), .val (.int q4), .val (.int (3 : Int32)), .val (.ref b), .val (.int kk), .val (.int mo), .unset, .unset] [])) := by
      intro mo
      obtain ⟨T75, h75, X75, e75, E75, A75, D75, -, st75⟩ := newO X74 hx hZ hown (hw _ (List.mem_of_getElem? (i := 1) rfl)) (hw _ (List.mem_of_getElem? (i := 2) rfl)) (hw _ (List.mem_of_getElem? (i := 3) rfl)) e74 (g := (mkF m 91 #[.val (.int q0), .val (.int q1), .val (.int q2), .val (.int q3), .val (.int q4), .val (.int (3 : Int32)), .val (.ref b), .val (.int kk), .val (.int mo), .unset, .unset] [])) rfl (hb hby at_91) (by decide) (by decide)
      obtain ⟨ob, g75⟩ : ∃ z, z = h74.size := ⟨_, rfl⟩
      rw [← g75] at A75 D75 st75
      have lt_b_ob : b < ob := by rw [g75]; exact Ex_b.lt
      have ne_b_ob : b ≠ ob := Nat.ne_of_lt lt_b_ob
      have le_ob : n0 ≤ ob := by rw [g75]; exact Z0
      replace Ex_b := Ex_b.ext E75
      replace J := J.ext E75
      replace Z0 := Nat.le_trans Z0 E75.1
      have Ex_ob : Exa Z h75 ob "com/example/tidewire/tidewire/handshake/AuthRequest" := A75
      have F_method_ob : Fld Z h75 ob "com/example/tidewire/tidewire/handshake/AuthRequest" "method" "I" (.int (0 : Int32)) := D75 (Or.inr (hw _ (List.mem_of_getElem? (i := 12) rfl))) (ty := .int) (by decide)
      have F_modes_ob : Fld Z h75 ob "com/example/tidewire/tidewire/handshake/AuthRequest" "modes" "[I" .null := D75 (Or.inr (hw _ (List.mem_of_getElem? (i := 23) rfl))) (ty := (.array .int)) (by decide)
      have F_methodPayload_ob : Fld Z h75 ob "com/example/tidewire/tidewire/handshake/AuthRequest" "methodPayload" "[B" .null := D75 (Or.inr (hw _ (List.mem_of_getElem? (i := 31) rfl))) (ty := (.array .byte)) (by decide)
      refine GoOn.step st75 ?_
      show GoOn p e below _ (T75.setTop (mkF m 94 #[.val (.int q0), .val (.int q1), .val (.int q2), .val (.int q3), .val (.int q4), .val (.int (3 : Int32)), .val (.ref b), .val (.int kk), .val (.int mo), .unset, .unset] [(.ref ob)]))
      refine GoOn.step (fun t₀ k₀ => XS.dup X75.here hx rfl (hb hby at_94) rfl rfl k₀) ?_
      show GoOn p e below _ (T75.setTop (mkF m 95 #[.val (.int q0), .val (.int q1), .val (.int q2), .val (.int q3), .val (.int q4), .val (.int (3 : Int32)), .val (.ref b), .val (.int kk), .val (.int mo), .unset, .unset] [(.ref ob), (.ref ob)]))
      refine GoOn.step (fun t₀ k₀ => XS.iload X75.here hx rfl (hb hby at_95) rfl k₀) ?_
      show GoOn p e below _ (T75.setTop (mkF m 97 #[.val (.int q0), .val (.int q1), .val (.int q2), .val (.int q3), .val (.int q4), .val (.int (3 : Int32)), .val (.ref b), .val (.int kk), .val (.int mo), .unset, .unset] [(.int q4), (.ref ob), (.ref ob)]))
      refine GoOn.step (fun t₀ k₀ => XS.aload X75.here hx rfl (hb hby at_97) rfl rfl k₀) ?_
      show GoOn p e below _ (T75.setTop (mkF m 99 #[.val (.int q0), .val (.int q1), .val (.int q2), .val (.int q3), .val (.int q4), .val (.int (3 : Int32)), .val (.ref b), .val (.int kk), .val (.int mo), .unset, .unset] [(.ref b), (.int q4), (.ref ob), (.ref ob)]))
      refine GoOn.step (fun t₀ k₀ => XS.iconst X75.here hx rfl (hb hby at_99) k₀) ?_
      show GoOn p e below _ (T75.setTop (mkF m 100 #[.val (.int q0), .val (.int q1), .val (.int q2), .val (.int q3), .val (.int q4), .val (.int (3 : Int32)), .val (.ref b), .val (.int kk), .val (.int mo), .unset, .unset] [(.int (0 : Int32)), (.ref b), (.int q4), (.ref ob), (.ref ob)]))
      obtain ⟨T76, h76, k76, X76, e76, E76, A76, B76, st76⟩ := newPE X75 hx hZ (hw _ (List.mem_of_getElem? (i := 4) rfl)) e75 (g := (mkF m 100 #[.val (.int q0), .val (.int q1), .val (.int q2), .val (.int q3), .val (.int q4), .val (.int (3 : Int32)), .val (.ref b), .val (.int kk), .val (.int mo), .unset, .unset] [(.int (0 : Int32)), (.ref b), (.int q4), (.ref ob), (.ref ob)])) rfl (hb hby at_100) rfl (by decide) (cap := 0) (by decide) (by decide) (by decide) (by decide) (ad := "[B") (by decide)
      obtain ⟨pb, g76⟩ : ∃ z, z = h75.size := ⟨_, rfl⟩
      rw [← g76] at A76 B76 st76
      have lt_b_pb : b < pb := by rw [g76]; exact Ex_b.lt
      have ne_b_pb : b ≠ pb := Nat.ne_of_lt lt_b_pb
      have lt_ob_pb : ob < pb := by rw [g76]; exact Ex_ob.lt
      have ne_ob_pb : ob ≠ pb := Nat.ne_of_lt lt_ob_pb
      have le_pb : n0 ≤ pb := by rw [g76]; exact Z0
      replace Ex_b := Ex_b.ext E76
      replace J := J.ext E76
      replace Ex_ob := Ex_ob.ext E76
      replace F_method_ob := F_method_ob.ext E76
      replace F_modes_ob := F_modes_ob.ext E76
      replace F_methodPayload_ob := F_methodPayload_ob.ext E76
      replace Z0 := Nat.le_trans Z0 E76.1
      have J_pb : Jar Z h76 pb .byte 0 (fun _ => defaultValue .byte) := Jar.new A76 (by decide)
      have Ex_pb : Exa Z h76 pb "[B" := B76
      refine GoOn.step st76 ?_
      show GoOn p e below _ (T76.setTop (mkF m 102 #[.val (.int q0), .val (.int q1), .val (.int q2), .val (.int q3), .val (.int q4), .val (.int (3 : Int32)), .val (.ref b), .val (.int kk), .val (.int mo), .unset, .unset] [(.ref pb), (.ref b), (.int q4), (.ref ob), (.ref ob)]))
      obtain ⟨_, T77, L77, X77, hQ77, st77⟩ := kCallI X76 hx hZ (a := ob) (argsL := [(.int q4), (.ref b), (.ref pb)]) (rest := [(.ref ob)]) (c_ini l Z a0 hw ob b pb q4 3 _ _ _ n0 Z0 Ex_ob F_method_ob F_modes_ob F_methodPayload_ob J Ex_b J_pb Ex_pb le_ob ne_b_ob (Ne.symm ne_ob_pb) (by decide)) rfl hown (hw _ (List.mem_of_getElem? (i := 5) rfl)) (hw _ (List.mem_of_getElem? (i := 6) rfl)) (hw _ (List.mem_of_getElem? (i := 3) rfl)) (hw _ (List.mem_of_getElem? (i := 7) rfl)) (by decide) e76 (g := (mkF m 102 #[.val (.int q0), .val (.int q1), .val (.int q2), .val (.int q3), .val (.int q4), .val (.int (3 : Int32)), .val (.ref b), .val (.int kk), .val (.int mo), .unset, .unset] [(.ref pb), (.ref b), (.int q4), (.ref ob), (.ref ob)])) rfl (by rw [hml]; rfl) (lenOf pd_0 rfl) rfl (W := 1) (by show 2 * 0 + _ ≤ _; exact Nat.le_of_eq rfl) (hb hby at_102) (by decide) (by decide) (by decide) (by decide)
      obtain ⟨cm, rfl, N77, K77, Fo, Jc⟩ := hQ77
      replace N0 := Fr.app N0 N77
      replace Ex_b := Ex_b.keep K77
      replace J := J.keep K77 (ninS ne_b_ob nin0)
      replace Ex_ob := Ex_ob.keep K77
      clear F_method_ob
      clear F_modes_ob
      clear F_methodPayload_ob
      replace J_pb := J_pb.keep K77 (ninS (Ne.symm ne_ob_pb) nin0)
      replace Ex_pb := Ex_pb.keep K77
      replace Z0 := Nat.le_trans Z0 K77.1
      refine GoOn.step st77 ?_
      show GoOn p e below _ (T77.setTop (mkF m 105 #[.val (.int q0), .val (.int q1), .val (.int q2), .val (.int q3), .val (.int q4), .val (.int (3 : Int32)), .val (.ref b), .val (.int kk), .val (.int mo), .unset, .unset] [(.ref ob)]))
      refine GoOn.step (fun t₀ k₀ => XS.astore X77.here hx rfl (hb hby at_105) rfl rfl (l' := #[.val (.int q0), .val (.int q1), .val (.int q2), .val (.int q3), .val (.int q4), .val (.int (3 : Int32)), .val (.ref b), .val (.int kk), .val (.int mo), .val (.ref ob), .unset]) rfl k₀) ?_
      show GoOn p e below _ (T77.setTop (mkF m 107 #[.val (.int q0), .val (.int q1), .val (.int q2), .val (.int q3), .val (.int q4), .val (.int (3 : Int32)), .val (.ref b), .val (.int kk), .val (.int mo), .val (.ref ob), .unset] []))
      refine GoOn.step (fun t₀ k₀ => XS.iload X77.here hx rfl (hb hby at_107) rfl k₀) ?_
      show GoOn p e below _ (T77.setTop (mkF m 109 #[.val (.int q0), .val (.int q1), .val (.int q2), .val (.int q3), .val (.int q4), .val (.int (3 : Int32)), .val (.ref b), .val (.int kk), .val (.int mo), .val (.ref ob), .unset] [(.int (3 : Int32))]))
      refine GoOn.step (fun t₀ k₀ => XS.iconst X77.here hx rfl (hb hby at_109) k₀) ?_
      show GoOn p e below _ (T77.setTop (mkF m 110 #[.val (.int q0), .val (.int q1), .val (.int q2), .val (.int q3), .val (.int q4), .val (.int (3 : Int32)), .val (.ref b), .val (.int kk), .val (.int mo), .val (.ref ob), .unset] [(.int (1 : Int32)), (.int (3 : Int32))]))
      have hf78 : ¬ ((3 : Int32) < (1 : Int32)) := (by decide)
      refine GoOn.step (fun t₀ k₀ => XS.icmpNo X77.here hx rfl (hb hby at_110) rfl (flt hf78).1 k₀) ?_
      show GoOn p e below _ (T77.setTop (mkF m 113 #[.val (.int q0), .val (.int q1), .val (.int q2), .val (.int q3), .val (.int q4), .val (.int (3 : Int32)), .val (.ref b), .val (.int kk), .val (.int mo), .val (.ref ob), .unset] []))
      refine GoOn.step (fun t₀ k₀ => XS.iloadN X77.here hx rfl (hb hby at_113) rfl k₀) ?_
      show GoOn p e below _ (T77.setTop (mkF m 114 #[.val (.int q0), .val (.int q1), .val (.int q2), .val (.int q3), .val (.int q4), .val (.int (3 : Int32)), .val (.ref b), .val (.int kk), .val (.int mo), .val (.ref ob), .unset] [(.int q0)]))
      refine GoOn.step (fun t₀ k₀ => XS.iload X77.here hx rfl (hb hby at_114) rfl k₀) ?_
      show GoOn p e below _ (T77.setTop (mkF m 116 #[.val (.int q0), .val (.int q1), .val (.int q2), .val (.int q3), .val (.int q4), .val (.int (3 : Int32)), .val (.ref b), .val (.int kk), .val (.int mo), .val (.ref ob), .unset] [(.int mo), (.int q0)]))
      by_cases e0 : q0 = mo
      · refine GoOn.step (fun t₀ k₀ => XS.icmpYes X77.here hx rfl (pc0 := 116) (pc' := 143) rfl (hb hby at_116) rfl (teq e0).1 (by decide) (by decide) k₀) ?_
        show GoOn p e below _ (T77.setTop (mkF m 143 #[.val (.int q0), .val (.int q1), .val (.int q2), .val (.int q3), .val (.int q4), .val (.int (3 : Int32)), .val (.ref b), .val (.int kk), .val (.int mo), .val (.ref ob), .unset] []))
        refine GoOn.step (fun t₀ k₀ => XS.iconst X77.here hx rfl (hb hby at_143) k₀) ?_
        show GoOn p e below _ (T77.setTop (mkF m 144 #[.val (.int q0), .val (.int q1), .val (.int q2), .val (.int q3), .val (.int q4), .val (.int (3 : Int32)), .val (.ref b), .val (.int kk), .val (.int mo), .val (.ref ob), .unset] [(.int (1 : Int32))]))
        refine GoOn.step (fun t₀ k₀ => XS.goto X77.here hx rfl (pc0 := 144) (pc' := 148) rfl (hb hby at_144) (by decide) (by decide) k₀) ?_
        show GoOn p e below _ (T77.setTop (mkF m 148 #[.val (.int q0), .val (.int q1), .val (.int q2), .val (.int q3), .val (.int q4), .val (.int (3 : Int32)), .val (.ref b), .val (.int kk), .val (.int mo), .val (.ref ob), .unset] [(.int (1 : Int32))]))
        refine GoOn.step (fun t₀ k₀ => XS.istore X77.here hx rfl (hb hby at_148) rfl (l' := #[.val (.int q0), .val (.int q1), .val (.int q2), .val (.int q3), .val (.int q4), .val (.int (3 : Int32)), .val (.ref b), .val (.int kk), .val (.int mo), .val (.ref ob), .val (.int (1 : Int32))]) rfl k₀) ?_
        show GoOn p e below _ (T77.setTop (mkF m 150 #[.val (.int q0), .val (.int q1), .val (.int q2), .val (.int q3), .val (.int q4), .val (.int (3 : Int32)), .val (.ref b), .val (.int kk), .val (.int mo), .val (.ref ob), .val (.int (1 : Int32))] []))
        refine GoOn.step (fun t₀ k₀ => XS.aload X77.here hx rfl (hb hby at_150) rfl rfl k₀) ?_
        show GoOn p e below _ (T77.setTop (mkF m 152 #[.val (.int q0), .val (.int q1), .val (.int q2), .val (.int q3), .val (.int q4), .val (.int (3 : Int32)), .val (.ref b), .val (.int kk), .val (.int mo), .val (.ref ob), .val (.int (1 : Int32))] [(.ref ob)]))
        refine GoOn.step (fun t₀ k₀ => XS.iload X77.here hx rfl (hb hby at_152) rfl k₀) ?_
        show GoOn p e below _ (T77.setTop (mkF m 154 #[.val (.int q0), .val (.int q1), .val (.int q2), .val (.int q3), .val (.int q4), .val (.int (3 : Int32)), .val (.ref b), .val (.int kk), .val (.int mo), .val (.ref ob), .val (.int (1 : Int32))] [(.int mo), (.ref ob)]))
        obtain ⟨_, T79, L79, X79, hQ79, st79⟩ := kCallV X77 hx hZ (a := ob) (argsL := [(.int mo)]) (rest := []) (c_acc3 l Z a0 hw ob cm mo q0 q1 q2 _ Fo Jc) hown (hw _ (List.mem_of_getElem? (i := 32) rfl)) (hw _ (List.mem_of_getElem? (i := 33) rfl)) (notFace_of_selects (args := #[]) (mvT hZ (hw _ (List.mem_of_getElem? (i := 35) rfl)))) (hw _ (List.mem_of_getElem? (i := 35) rfl)) (hw _ (List.mem_of_getElem? (i := 34) rfl)) (hw _ (List.mem_of_getElem? (i := 3) rfl)) (hw _ (List.mem_of_getElem? (i := 36) rfl)) (by decide) rfl Ex_ob (g := (mkF m 154 #[.val (.int q0), .val (.int q1), .val (.int q2), .val (.int q3), .val (.int q4), .val (.int (3 : Int32)), .val (.ref b), .val (.int kk), .val (.int mo), .val (.ref ob), .val (.int (1 : Int32))] [(.int mo), (.ref ob)])) rfl (by rw [hml]; rfl) (lenOf pd_1 rfl) rfl (W := 0) (by show 2 * 0 + _ ≤ _; exact Nat.le_of_eq rfl) (hb hby at_154) (by decide) (by decide) (by decide) (by decide)
        obtain ⟨rfl, rfl, e79⟩ := hQ79
        rw [List.append_nil] at X79
        refine GoOn.step st79 ?_
        show GoOn p e below _ (T79.setTop (mkF m 157 #[.val (.int q0), .val (.int q1), .val (.int q2), .val (.int q3), .val (.int q4), .val (.int (3 : Int32)), .val (.ref b), .val (.int kk), .val (.int mo), .val (.ref ob), .val (.int (1 : Int32))] [(.int (if q0 = mo then (1 : Int32) else (if q1 = mo then (1 : Int32) else (if q2 = mo then (1 : Int32) else (0 : Int32)))))]))
        refine GoOn.step (fun t₀ k₀ => XS.iload X79.here hx rfl (hb hby at_157) rfl k₀) ?_
        show GoOn p e below _ (T79.setTop (mkF m 159 #[.val (.int q0), .val (.int q1), .val (.int q2), .val (.int q3), .val (.int q4), .val (.int (3 : Int32)), .val (.ref b), .val (.int kk), .val (.int mo), .val (.ref ob), .val (.int (1 : Int32))] [(.int (1 : Int32)), (.int (if q0 = mo then (1 : Int32) else (if q1 = mo then (1 : Int32) else (if q2 = mo then (1 : Int32) else (0 : Int32)))))]))
        have hf80 : (if q0 = mo then (1 : Int32) else (if q1 = mo then (1 : Int32) else (if q2 = mo then (1 : Int32) else (0 : Int32)))) = (1 : Int32) := (by rw [if_pos e0])
        refine GoOn.step (fun t₀ k₀ => XS.icmpNo X79.here hx rfl (hb hby at_159) rfl (teq hf80).2 k₀) ?_
        show GoOn p e below _ (T79.setTop (mkF m 162 #[.val (.int q0), .val (.int q1), .val (.int q2), .val (.int q3), .val (.int q4), .val (.int (3 : Int32)), .val (.ref b), .val (.int kk), .val (.int mo), .val (.ref ob), .val (.int (1 : Int32))] []))
        refine GoOn.step (fun t₀ k₀ => XS.iconst X79.here hx rfl (hb hby at_162) k₀) ?_
        show GoOn p e below _ (T79.setTop (mkF m 163 #[.val (.int q0), .val (.int q1), .val (.int q2), .val (.int q3), .val (.int q4), .val (.int (3 : Int32)), .val (.ref b), .val (.int kk), .val (.int mo), .val (.ref ob), .val (.int (1 : Int32))] [(.int (1 : Int32))]))
        refine GoOn.step (fun t₀ k₀ => XS.goto X79.here hx rfl (pc0 := 163) (pc' := 167) rfl (hb hby at_163) (by decide) (by decide) k₀) ?_
        show GoOn p e below _ (T79.setTop (mkF m 167 #[.val (.int q0), .val (.int q1), .val (.int q2), .val (.int q3), .val (.int q4), .val (.int (3 : Int32)), .val (.ref b), .val (.int kk), .val (.int mo), .val (.ref ob), .val (.int (1 : Int32))] [(.int (1 : Int32))]))
        exact GoOn.retN X79 hx hrt hlk (by simp) (hb hby at_167) (by decide) (by decide) (by first | exact ⟨rfl, N0⟩ | (rw [e79]; exact ⟨rfl, N0⟩))
      · refine GoOn.step (fun t₀ k₀ => XS.icmpNo X77.here hx rfl (hb hby at_116) rfl (feq e0).1 k₀) ?_
        show GoOn p e below _ (T77.setTop (mkF m 119 #[.val (.int q0), .val (.int q1), .val (.int q2), .val (.int q3), .val (.int q4), .val (.int (3 : Int32)), .val (.ref b), .val (.int kk), .val (.int mo), .val (.ref ob), .unset] []))
        refine GoOn.step (fun t₀ k₀ => XS.iload X77.here hx rfl (hb hby at_119) rfl k₀) ?_
        show GoOn p e below _ (T77.setTop (mkF m 121 #[.val (.int q0), .val (.int q1), .val (.int q2), .val (.int q3), .val (.int q4), .val (.int (3 : Int32)), .val (.ref b), .val (.int kk), .val (.int mo), .val (.ref ob), .unset] [(.int (3 : Int32))]))
        refine GoOn.step (fun t₀ k₀ => XS.iconst X77.here hx rfl (hb hby at_121) k₀) ?_
        show GoOn p e below _ (T77.setTop (mkF m 122 #[.val (.int q0), .val (.int q1), .val (.int q2), .val (.int q3), .val (.int q4), .val (.int (3 : Int32)), .val (.ref b), .val (.int kk), .val (.int mo), .val (.ref ob), .unset] [(.int (2 : Int32)), (.int (3 : Int32))]))
        have hf81 : ¬ ((3 : Int32) < (2 : Int32)) := (by decide)
        refine GoOn.step (fun t₀ k₀ => XS.icmpNo X77.here hx rfl (hb hby at_122) rfl (flt hf81).1 k₀) ?_
        show GoOn p e below _ (T77.setTop (mkF m 125 #[.val (.int q0), .val (.int q1), .val (.int q2), .val (.int q3), .val (.int q4), .val (.int (3 : Int32)), .val (.ref b), .val (.int kk), .val (.int mo), .val (.ref ob), .unset] []))
        refine GoOn.step (fun t₀ k₀ => XS.iloadN X77.here hx rfl (hb hby at_125) rfl k₀) ?_
        show GoOn p e below _ (T77.setTop (mkF m 126 #[.val (.int q0), .val (.int q1), .val (.int q2), .val (.int q3), .val (.int q4), .val (.int (3 : Int32)), .val (.ref b), .val (.int kk), .val (.int mo), .val (.ref ob), .unset] [(.int q1)]))
        refine GoOn.step (fun t₀ k₀ => XS.iload X77.here hx rfl (hb hby at_126) rfl k₀) ?_
        show GoOn p e below _ (T77.setTop (mkF m 128 #[.val (.int q0), .val (.int q1), .val (.int q2), .val (.int q3), .val (.int q4), .val (.int (3 : Int32)), .val (.ref b), .val (.int kk), .val (.int mo), .val (.ref ob), .unset] [(.int mo), (.int q1)]))
        by_cases e1 : q1 = mo
        · refine GoOn.step (fun t₀ k₀ => XS.icmpYes X77.here hx rfl (pc0 := 128) (pc' := 143) rfl (hb hby at_128) rfl (teq e1).1 (by decide) (by decide) k₀) ?_
          show GoOn p e below _ (T77.setTop (mkF m 143 #[.val (.int q0), .val (.int q1), .val (.int q2), .val (.int q3), .val (.int q4), .val (.int (3 : Int32)), .val (.ref b), .val (.int kk), .val (.int mo), .val (.ref ob), .unset] []))
          refine GoOn.step (fun t₀ k₀ => XS.iconst X77.here hx rfl (hb hby at_143) k₀) ?_
          show GoOn p e below _ (T77.setTop (mkF m 144 #[.val (.int q0), .val (.int q1), .val (.int q2), .val (.int q3), .val (.int q4), .val (.int (3 : Int32)), .val (.ref b), .val (.int kk), .val (.int mo), .val (.ref ob), .unset] [(.int (1 : Int32))]))
          refine GoOn.step (fun t₀ k₀ => XS.goto X77.here hx rfl (pc0 := 144) (pc' := 148) rfl (hb hby at_144) (by decide) (by decide) k₀) ?_
          show GoOn p e below _ (T77.setTop (mkF m 148 #[.val (.int q0), .val (.int q1), .val (.int q2), .val (.int q3), .val (.int q4), .val (.int (3 : Int32)), .val (.ref b), .val (.int kk), .val (.int mo), .val (.ref ob), .unset] [(.int (1 : Int32))]))
          refine GoOn.step (fun t₀ k₀ => XS.istore X77.here hx rfl (hb hby at_148) rfl (l' := #[.val (.int q0), .val (.int q1), .val (.int q2), .val (.int q3), .val (.int q4), .val (.int (3 : Int32)), .val (.ref b), .val (.int kk), .val (.int mo), .val (.ref ob), .val (.int (1 : Int32))]) rfl k₀) ?_
          show GoOn p e below _ (T77.setTop (mkF m 150 #[.val (.int q0), .val (.int q1), .val (.int q2), .val (.int q3), .val (.int q4), .val (.int (3 : Int32)), .val (.ref b), .val (.int kk), .val (.int mo), .val (.ref ob), .val (.int (1 : Int32))] []))
          refine GoOn.step (fun t₀ k₀ => XS.aload X77.here hx rfl (hb hby at_150) rfl rfl k₀) ?_
          show GoOn p e below _ (T77.setTop (mkF m 152 #[.val (.int q0), .val (.int q1), .val (.int q2), .val (.int q3), .val (.int q4), .val (.int (3 : Int32)), .val (.ref b), .val (.int kk), .val (.int mo), .val (.ref ob), .val (.int (1 : Int32))] [(.ref ob)]))
          refine GoOn.step (fun t₀ k₀ => XS.iload X77.here hx rfl (hb hby at_152) rfl k₀) ?_
          show GoOn p e below _ (T77.setTop (mkF m 154 #[.val (.int q0), .val (.int q1), .val (.int q2), .val (.int q3), .val (.int q4), .val (.int (3 : Int32)), .val (.ref b), .val (.int kk), .val (.int mo), .val (.ref ob), .val (.int (1 : Int32))] [(.int mo), (.ref ob)]))
          obtain ⟨_, T82, L82, X82, hQ82, st82⟩ := kCallV X77 hx hZ (a := ob) (argsL := [(.int mo)]) (rest := []) (c_acc3 l Z a0 hw ob cm mo q0 q1 q2 _ Fo Jc) hown (hw _ (List.mem_of_getElem? (i := 32) rfl)) (hw _ (List.mem_of_getElem? (i := 33) rfl)) (notFace_of_selects (args := #[]) (mvT hZ (hw _ (List.mem_of_getElem? (i := 35) rfl)))) (hw _ (List.mem_of_getElem? (i := 35) rfl)) (hw _ (List.mem_of_getElem? (i := 34) rfl)) (hw _ (List.mem_of_getElem? (i := 3) rfl)) (hw _ (List.mem_of_getElem? (i := 36) rfl)) (by decide) rfl Ex_ob (g := (mkF m 154 #[.val (.int q0), .val (.int q1), .val (.int q2), .val (.int q3), .val (.int q4), .val (.int (3 : Int32)), .val (.ref b), .val (.int kk), .val (.int mo), .val (.ref ob), .val (.int (1 : Int32))] [(.int mo), (.ref ob)])) rfl (by rw [hml]; rfl) (lenOf pd_1 rfl) rfl (W := 0) (by show 2 * 0 + _ ≤ _; exact Nat.le_of_eq rfl) (hb hby at_154) (by decide) (by decide) (by decide) (by decide)
          obtain ⟨rfl, rfl, e82⟩ := hQ82
          rw [List.append_nil] at X82
          refine GoOn.step st82 ?_
          show GoOn p e below _ (T82.setTop (mkF m 157 #[.val (.int q0), .val (.int q1), .val (.int q2), .val (.int q3), .val (.int q4), .val (.int (3 : Int32)), .val (.ref b), .val (.int kk), .val (.int mo), .val (.ref ob), .val (.int (1 : Int32))] [(.int (if q0 = mo then (1 : Int32) else (if q1 = mo then (1 : Int32) else (if q2 = mo then (1 : Int32) else (0 : Int32)))))]))
          refine GoOn.step (fun t₀ k₀ => XS.iload X82.here hx rfl (hb hby at_157) rfl k₀) ?_
          show GoOn p e below _ (T82.setTop (mkF m 159 #[.val (.int q0), .val (.int q1), .val (.int q2), .val (.int q3), .val (.int q4), .val (.int (3 : Int32)), .val (.ref b), .val (.int kk), .val (.int mo), .val (.ref ob), .val (.int (1 : Int32))] [(.int (1 : Int32)), (.int (if q0 = mo then (1 : Int32) else (if q1 = mo then (1 : Int32) else (if q2 = mo then (1 : Int32) else (0 : Int32)))))]))
          have hf83 : (if q0 = mo then (1 : Int32) else (if q1 = mo then (1 : Int32) else (if q2 = mo then (1 : Int32) else (0 : Int32)))) = (1 : Int32) := (by rw [if_neg e0, if_pos e1])
          refine GoOn.step (fun t₀ k₀ => XS.icmpNo X82.here hx rfl (hb hby at_159) rfl (teq hf83).2 k₀) ?_
          show GoOn p e below _ (T82.setTop (mkF m 162 #[.val (.int q0), .val (.int q1), .val (.int q2), .val (.int q3), .val (.int q4), .val (.int (3 : Int32)), .val (.ref b), .val (.int kk), .val (.int mo), .val (.ref ob), .val (.int (1 : Int32))] []))
          refine GoOn.step (fun t₀ k₀ => XS.iconst X82.here hx rfl (hb hby at_162) k₀) ?_
          show GoOn p e below _ (T82.setTop (mkF m 163 #[.val (.int q0), .val (.int q1), .val (.int q2), .val (.int q3), .val (.int q4), .val (.int (3 : Int32)), .val (.ref b), .val (.int kk), .val (.int mo), .val (.ref ob), .val (.int (1 : Int32))] [(.int (1 : Int32))]))
          refine GoOn.step (fun t₀ k₀ => XS.goto X82.here hx rfl (pc0 := 163) (pc' := 167) rfl (hb hby at_163) (by decide) (by decide) k₀) ?_
          show GoOn p e below _ (T82.setTop (mkF m 167 #[.val (.int q0), .val (.int q1), .val (.int q2), .val (.int q3), .val (.int q4), .val (.int (3 : Int32)), .val (.ref b), .val (.int kk), .val (.int mo), .val (.ref ob), .val (.int (1 : Int32))] [(.int (1 : Int32))]))
          exact GoOn.retN X82 hx hrt hlk (by simp) (hb hby at_167) (by decide) (by decide) (by first | exact ⟨rfl, N0⟩ | (rw [e82]; exact ⟨rfl, N0⟩))
        · refine GoOn.step (fun t₀ k₀ => XS.icmpNo X77.here hx rfl (hb hby at_128) rfl (feq e1).1 k₀) ?_
          show GoOn p e below _ (T77.setTop (mkF m 131 #[.val (.int q0), .val (.int q1), .val (.int q2), .val (.int q3), .val (.int q4), .val (.int (3 : Int32)), .val (.ref b), .val (.int kk), .val (.int mo), .val (.ref ob), .unset] []))
          refine GoOn.step (fun t₀ k₀ => XS.iload X77.here hx rfl (hb hby at_131) rfl k₀) ?_
          show GoOn p e below _ (T77.setTop (mkF m 133 #[.val (.int q0), .val (.int q1), .val (.int q2), .val (.int q3), .val (.int q4), .val (.int (3 : Int32)), .val (.ref b), .val (.int kk), .val (.int mo), .val (.ref ob), .unset] [(.int (3 : Int32))]))
          refine GoOn.step (fun t₀ k₀ => XS.iconst X77.here hx rfl (hb hby at_133) k₀) ?_
          show GoOn p e below _ (T77.setTop (mkF m 134 #[.val (.int q0), .val (.int q1), .val (.int q2), .val (.int q3), .val (.int q4), .val (.int (3 : Int32)), .val (.ref b), .val (.int kk), .val (.int mo), .val (.ref ob), .unset] [(.int (3 : Int32)), (.int (3 : Int32))]))
          have hf84 : ¬ ((3 : Int32) < (3 : Int32)) := (by decide)
          refine GoOn.step (fun t₀ k₀ => XS.icmpNo X77.here hx rfl (hb hby at_134) rfl (flt hf84).1 k₀) ?_
          show GoOn p e below _ (T77.setTop (mkF m 137 #[.val (.int q0), .val (.int q1), .val (.int q2), .val (.int q3), .val (.int q4), .val (.int (3 : Int32)), .val (.ref b), .val (.int kk), .val (.int mo), .val (.ref ob), .unset] []))
          refine GoOn.step (fun t₀ k₀ => XS.iloadN X77.here hx rfl (hb hby at_137) rfl k₀) ?_
          show GoOn p e below _ (T77.setTop (mkF m 138 #[.val (.int q0), .val (.int q1), .val (.int q2), .val (.int q3), .val (.int q4), .val (.int (3 : Int32)), .val (.ref b), .val (.int kk), .val (.int mo), .val (.ref ob), .unset] [(.int q2)]))
          refine GoOn.step (fun t₀ k₀ => XS.iload X77.here hx rfl (hb hby at_138) rfl k₀) ?_
          show GoOn p e below _ (T77.setTop (mkF m 140 #[.val (.int q0), .val (.int q1), .val (.int q2), .val (.int q3), .val (.int q4), .val (.int (3 : Int32)), .val (.ref b), .val (.int kk), .val (.int mo), .val (.ref ob), .unset] [(.int mo), (.int q2)]))
          by_cases e2 : q2 = mo
          · refine GoOn.step (fun t₀ k₀ => XS.icmpNo X77.here hx rfl (hb hby at_140) rfl (teq e2).2 k₀) ?_
            show GoOn p e below _ (T77.setTop (mkF m 143 #[.val (.int q0), .val (.int q1), .val (.int q2), .val (.int q3), .val (.int q4), .val (.int (3 : Int32)), .val (.ref b), .val (.int kk), .val (.int mo), .val (.ref ob), .unset] []))
            refine GoOn.step (fun t₀ k₀ => XS.iconst X77.here hx rfl (hb hby at_143) k₀) ?_
            show GoOn p e below _ (T77.setTop (mkF m 144 #[.val (.int q0), .val (.int q1), .val (.int q2), .val (.int q3), .val (.int q4), .val (.int (3 : Int32)), .val (.ref b), .val (.int kk), .val (.int mo), .val (.ref ob), .unset] [(.int (1 : Int32))]))
            refine GoOn.step (fun t₀ k₀ => XS.goto X77.here hx rfl (pc0 := 144) (pc' := 148) rfl (hb hby at_144) (by decide) (by decide) k₀) ?_
            show GoOn p e below _ (T77.setTop (mkF m 148 #[.val (.int q0), .val (.int q1), .val (.int q2), .val (.int q3), .val (.int q4), .val (.int (3 : Int32)), .val (.ref b), .val (.int kk), .val (.int mo), .val (.ref ob), .unset] [(.int (1 : Int32))]))
            refine GoOn.step (fun t₀ k₀ => XS.istore X77.here hx rfl (hb hby at_148) rfl (l' := #[.val (.int q0), .val (.int q1), .val (.int q2), .val (.int q3), .val (.int q4), .val (.int (3 : Int32)), .val (.ref b), .val (.int kk), .val (.int mo), .val (.ref ob), .val (.int (1 : Int32))]) rfl k₀) ?_
            show GoOn p e below _ (T77.setTop (mkF m 150 #[.val (.int q0), .val (.int q1), .val (.int q2), .val (.int q3), .val (.int q4), .val (.int (3 : Int32)), .val (.ref b), .val (.int kk), .val (.int mo), .val (.ref ob), .val (.int (1 : Int32))] []))
            refine GoOn.step (fun t₀ k₀ => XS.aload X77.here hx rfl (hb hby at_150) rfl rfl k₀) ?_
            show GoOn p e below _ (T77.setTop (mkF m 152 #[.val (.int q0), .val (.int q1), .val (.int q2), .val (.int q3), .val (.int q4), .val (.int (3 : Int32)), .val (.ref b), .val (.int kk), .val (.int mo), .val (.ref ob), .val (.int (1 : Int32))] [(.ref ob)]))
            refine GoOn.step (fun t₀ k₀ => XS.iload X77.here hx rfl (hb hby at_152) rfl k₀) ?_
            show GoOn p e below _ (T77.setTop (mkF m 154 #[.val (.int q0), .val (.int q1), .val (.int q2), .val (.int q3), .val (.int q4), .val (.int (3 : Int32)), .val (.ref b), .val (.int kk), .val (.int mo), .val (.ref ob), .val (.int (1 : Int32))] [(.int mo), (.ref ob)]))
            obtain ⟨_, T85, L85, X85, hQ85, st85⟩ := kCallV X77 hx hZ (a := ob) (argsL := [(.int mo)]) (rest := []) (c_acc3 l Z a0 hw ob cm mo q0 q1 q2 _ Fo Jc) hown (hw _ (List.mem_of_getElem? (i := 32) rfl)) (hw _ (List.mem_of_getElem? (i := 33) rfl)) (notFace_of_selects (args := #[]) (mvT hZ (hw _ (List.mem_of_getElem? (i := 35) rfl)))) (hw _ (List.mem_of_getElem? (i := 35) rfl)) (hw _ (List.mem_of_getElem? (i := 34) rfl)) (hw _ (List.mem_of_getElem? (i := 3) rfl)) (hw _ (List.mem_of_getElem? (i := 36) rfl)) (by decide) rfl Ex_ob (g := (mkF m 154 #[.val (.int q0), .val (.int q1), .val (.int q2), .val (.int q3), .val (.int q4), .val (.int (3 : Int32)), .val (.ref b), .val (.int kk), .val (.int mo), .val (.ref ob), .val (.int (1 : Int32))] [(.int mo), (.ref ob)])) rfl (by rw [hml]; rfl) (lenOf pd_1 rfl) rfl (W := 0) (by show 2 * 0 + _ ≤ _; exact Nat.le_of_eq rfl) (hb hby at_154) (by decide) (by decide) (by decide) (by decide)
            obtain ⟨rfl, rfl, e85⟩ := hQ85
            rw [List.append_nil] at X85
            refine GoOn.step st85 ?_
            show GoOn p e below _ (T85.setTop (mkF m 157 #[.val (.int q0), .val (.int q1), .val (.int q2), .val (.int q3), .val (.int q4), .val (.int (3 : Int32)), .val (.ref b), .val (.int kk), .val (.int mo), .val (.ref ob), .val (.int (1 : Int32))] [(.int (if q0 = mo then (1 : Int32) else (if q1 = mo then (1 : Int32) else (if q2 = mo then (1 : Int32) else (0 : Int32)))))]))
            refine GoOn.step (fun t₀ k₀ => XS.iload X85.here hx rfl (hb hby at_157) rfl k₀) ?_
            show GoOn p e below _ (T85.setTop (mkF m 159 #[.val (.int q0), .val (.int q1), .val (.int q2), .val (.int q3), .val (.int q4), .val (.int (3 : Int32)), .val (.ref b), .val (.int kk), .val (.int mo), .val (.ref ob), .val (.int (1 : Int32))] [(.int (1 : Int32)), (.int (if q0 = mo then (1 : Int32) else (if q1 = mo then (1 : Int32) else (if q2 = mo then (1 : Int32) else (0 : Int32)))))]))
            have hf86 : (if q0 = mo then (1 : Int32) else (if q1 = mo then (1 : Int32) else (if q2 = mo then (1 : Int32) else (0 : Int32)))) = (1 : Int32) := (by rw [if_neg e0, if_neg e1, if_pos e2])
            refine GoOn.step (fun t₀ k₀ => XS.icmpNo X85.here hx rfl (hb hby at_159) rfl (teq hf86).2 k₀) ?_
            show GoOn p e below _ (T85.setTop (mkF m 162 #[.val (.int q0), .val (.int q1), .val (.int q2), .val (.int q3), .val (.int q4), .val (.int (3 : Int32)), .val (.ref b), .val (.int kk), .val (.int mo), .val (.ref ob), .val (.int (1 : Int32))] []))
            refine GoOn.step (fun t₀ k₀ => XS.iconst X85.here hx rfl (hb hby at_162) k₀) ?_
            show GoOn p e below _ (T85.setTop (mkF m 163 #[.val (.int q0), .val (.int q1), .val (.int q2), .val (.int q3), .val (.int q4), .val (.int (3 : Int32)), .val (.ref b), .val (.int kk), .val (.int mo), .val (.ref ob), .val (.int (1 : Int32))] [(.int (1 : Int32))]))
            refine GoOn.step (fun t₀ k₀ => XS.goto X85.here hx rfl (pc0 := 163) (pc' := 167) rfl (hb hby at_163) (by decide) (by decide) k₀) ?_
            show GoOn p e below _ (T85.setTop (mkF m 167 #[.val (.int q0), .val (.int q1), .val (.int q2), .val (.int q3), .val (.int q4), .val (.int (3 : Int32)), .val (.ref b), .val (.int kk), .val (.int mo), .val (.ref ob), .val (.int (1 : Int32))] [(.int (1 : Int32))]))
            exact GoOn.retN X85 hx hrt hlk (by simp) (hb hby at_167) (by decide) (by decide) (by first | exact ⟨rfl, N0⟩ | (rw [e85]; exact ⟨rfl, N0⟩))
          · refine GoOn.step (fun t₀ k₀ => XS.icmpYes X77.here hx rfl (pc0 := 140) (pc' := 147) rfl (hb hby at_140) rfl (feq e2).2 (by decide) (by decide) k₀) ?_
            show GoOn p e below _ (T77.setTop (mkF m 147 #[.val (.int q0), .val (.int q1), .val (.int q2), .val (.int q3), .val (.int q4), .val (.int (3 : Int32)), .val (.ref b), .val (.int kk), .val (.int mo), .val (.ref ob), .unset] []))
            refine GoOn.step (fun t₀ k₀ => XS.iconst X77.here hx rfl (hb hby at_147) k₀) ?_
            show GoOn p e below _ (T77.setTop (mkF m 148 #[.val (.int q0), .val (.int q1), .val (.int q2), .val (.int q3), .val (.int q4), .val (.int (3 : Int32)), .val (.ref b), .val (.int kk), .val (.int mo), .val (.ref ob), .unset] [(.int (0 : Int32))]))
            refine GoOn.step (fun t₀ k₀ => XS.istore X77.here hx rfl (hb hby at_148) rfl (l' := #[.val (.int q0), .val (.int q1), .val (.int q2), .val (.int q3), .val (.int q4), .val (.int (3 : Int32)), .val (.ref b), .val (.int kk), .val (.int mo), .val (.ref ob), .val (.int (0 : Int32))]) rfl k₀) ?_
            show GoOn p e below _ (T77.setTop (mkF m 150 #[.val (.int q0), .val (.int q1), .val (.int q2), .val (.int q3), .val (.int q4), .val (.int (3 : Int32)), .val (.ref b), .val (.int kk), .val (.int mo), .val (.ref ob), .val (.int (0 : Int32))] []))
            refine GoOn.step (fun t₀ k₀ => XS.aload X77.here hx rfl (hb hby at_150) rfl rfl k₀) ?_
            show GoOn p e below _ (T77.setTop (mkF m 152 #[.val (.int q0), .val (.int q1), .val (.int q2), .val (.int q3), .val (.int q4), .val (.int (3 : Int32)), .val (.ref b), .val (.int kk), .val (.int mo), .val (.ref ob), .val (.int (0 : Int32))] [(.ref ob)]))
            refine GoOn.step (fun t₀ k₀ => XS.iload X77.here hx rfl (hb hby at_152) rfl k₀) ?_
            show GoOn p e below _ (T77.setTop (mkF m 154 #[.val (.int q0), .val (.int q1), .val (.int q2), .val (.int q3), .val (.int q4), .val (.int (3 : Int32)), .val (.ref b), .val (.int kk), .val (.int mo), .val (.ref ob), .val (.int (0 : Int32))] [(.int mo), (.ref ob)]))
            obtain ⟨_, T87, L87, X87, hQ87, st87⟩ := kCallV X77 hx hZ (a := ob) (argsL := [(.int mo)]) (rest := []) (c_acc3 l Z a0 hw ob cm mo q0 q1 q2 _ Fo Jc) hown (hw _ (List.mem_of_getElem? (i := 32) rfl)) (hw _ (List.mem_of_getElem? (i := 33) rfl)) (notFace_of_selects (args := #[]) (mvT hZ (hw _ (List.mem_of_getElem? (i := 35) rfl)))) (hw _ (List.mem_of_getElem? (i := 35) rfl)) (hw _ (List.mem_of_getElem? (i := 34) rfl)) (hw _ (List.mem_of_getElem? (i := 3) rfl)) (hw _ (List.mem_of_getElem? (i := 36) rfl)) (by decide) rfl Ex_ob (g := (mkF m 154 #[.val (.int q0), .val (.int q1), .val (.int q2), .val (.int q3), .val (.int q4), .val (.int (3 : Int32)), .val (.ref b), .val (.int kk), .val (.int mo), .val (.ref ob), .val (.int (0 : Int32))] [(.int mo), (.ref ob)])) rfl (by rw [hml]; rfl) (lenOf pd_1 rfl) rfl (W := 0) (by show 2 * 0 + _ ≤ _; exact Nat.le_of_eq rfl) (hb hby at_154) (by decide) (by decide) (by decide) (by decide)
            obtain ⟨rfl, rfl, e87⟩ := hQ87
            rw [List.append_nil] at X87
            refine GoOn.step st87 ?_
            show GoOn p e below _ (T87.setTop (mkF m 157 #[.val (.int q0), .val (.int q1), .val (.int q2), .val (.int q3), .val (.int q4), .val (.int (3 : Int32)), .val (.ref b), .val (.int kk), .val (.int mo), .val (.ref ob), .val (.int (0 : Int32))] [(.int (if q0 = mo then (1 : Int32) else (if q1 = mo then (1 : Int32) else (if q2 = mo then (1 : Int32) else (0 : Int32)))))]))
            refine GoOn.step (fun t₀ k₀ => XS.iload X87.here hx rfl (hb hby at_157) rfl k₀) ?_
            show GoOn p e below _ (T87.setTop (mkF m 159 #[.val (.int q0), .val (.int q1), .val (.int q2), .val (.int q3), .val (.int q4), .val (.int (3 : Int32)), .val (.ref b), .val (.int kk), .val (.int mo), .val (.ref ob), .val (.int (0 : Int32))] [(.int (0 : Int32)), (.int (if q0 = mo then (1 : Int32) else (if q1 = mo then (1 : Int32) else (if q2 = mo then (1 : Int32) else (0 : Int32)))))]))
            have hf88 : (if q0 = mo then (1 : Int32) else (if q1 = mo then (1 : Int32) else (if q2 = mo then (1 : Int32) else (0 : Int32)))) = (0 : Int32) := (by rw [if_neg e0, if_neg e1, if_neg e2])
            refine GoOn.step (fun t₀ k₀ => XS.icmpNo X87.here hx rfl (hb hby at_159) rfl (teq hf88).2 k₀) ?_
            show GoOn p e below _ (T87.setTop (mkF m 162 #[.val (.int q0), .val (.int q1), .val (.int q2), .val (.int q3), .val (.int q4), .val (.int (3 : Int32)), .val (.ref b), .val (.int kk), .val (.int mo), .val (.ref ob), .val (.int (0 : Int32))] []))
            refine GoOn.step (fun t₀ k₀ => XS.iconst X87.here hx rfl (hb hby at_162) k₀) ?_
            show GoOn p e below _ (T87.setTop (mkF m 163 #[.val (.int q0), .val (.int q1), .val (.int q2), .val (.int q3), .val (.int q4), .val (.int (3 : Int32)), .val (.ref b), .val (.int kk), .val (.int mo), .val (.ref ob), .val (.int (0 : Int32))] [(.int (1 : Int32))]))
            refine GoOn.step (fun t₀ k₀ => XS.goto X87.here hx rfl (pc0 := 163) (pc' := 167) rfl (hb hby at_163) (by decide) (by decide) k₀) ?_
            show GoOn p e below _ (T87.setTop (mkF m 167 #[.val (.int q0), .val (.int q1), .val (.int q2), .val (.int q3), .val (.int q4), .val (.int (3 : Int32)), .val (.ref b), .val (.int kk), .val (.int mo), .val (.ref ob), .val (.int (0 : Int32))] [(.int (1 : Int32))]))
            exact GoOn.retN X87 hx hrt hlk (by simp) (hb hby at_167) (by decide) (by decide) (by first | exact ⟨rfl, N0⟩ | (rw [e87]; exact ⟨rfl, N0⟩))
    by_cases k0 : kk = (0 : Int32)
    · refine GoOn.step (fun t₀ k₀ => XS.ifNo X74.here hx rfl (hb hby at_55) rfl ((if0 _ _).trans (teq k0).2) k₀) ?_
      show GoOn p e below _ (T74.setTop (mkF m 58 #[.val (.int q0), .val (.int q1), .val (.int q2), .val (.int q3), .val (.int q4), .val (.int (3 : Int32)), .val (.ref b), .val (.int kk), .unset, .unset, .unset] []))
      refine GoOn.step (fun t₀ k₀ => XS.iloadN X74.here hx rfl (hb hby at_58) rfl k₀) ?_
      show GoOn p e below _ (T74.setTop (mkF m 59 #[.val (.int q0), .val (.int q1), .val (.int q2), .val (.int q3), .val (.int q4), .val (.int (3 : Int32)), .val (.ref b), .val (.int kk), .unset, .unset, .unset] [(.int q3)]))
      refine GoOn.step (fun t₀ k₀ => XS.istore X74.here hx rfl (hb hby at_59) rfl (l' := #[.val (.int q0), .val (.int q1), .val (.int q2), .val (.int q3), .val (.int q4), .val (.int (3 : Int32)), .val (.ref b), .val (.int kk), .val (.int q3), .unset, .unset]) rfl k₀) ?_
      show GoOn p e below _ (T74.setTop (mkF m 61 #[.val (.int q0), .val (.int q1), .val (.int q2), .val (.int q3), .val (.int q4), .val (.int (3 : Int32)), .val (.ref b), .val (.int kk), .val (.int q3), .unset, .unset] []))
      refine GoOn.step (fun t₀ k₀ => XS.goto X74.here hx rfl (pc0 := 61) (pc' := 91) rfl (hb hby at_61) (by decide) (by decide) k₀) ?_
      show GoOn p e below _ (T74.setTop (mkF m 91 #[.val (.int q0), .val (.int q1), .val (.int q2), .val (.int q3), .val (.int q4), .val (.int (3 : Int32)), .val (.ref b), .val (.int kk), .val (.int q3), .unset, .unset] []))
      exact Jm _
    · refine GoOn.step (fun t₀ k₀ => XS.ifYes X74.here hx rfl (pc0 := 55) (pc' := 64) rfl (hb hby at_55) rfl ((if0 _ _).trans (feq k0).2) (by decide) (by decide) k₀) ?_
      show GoOn p e below _ (T74.setTop (mkF m 64 #[.val (.int q0), .val (.int q1), .val (.int q2), .val (.int q3), .val (.int q4), .val (.int (3 : Int32)), .val (.ref b), .val (.int kk), .unset, .unset, .unset] []))
      refine GoOn.step (fun t₀ k₀ => XS.iload X74.here hx rfl (hb hby at_64) rfl k₀) ?_
      show GoOn p e below _ (T74.setTop (mkF m 66 #[.val (.int q0), .val (.int q1), .val (.int q2), .val (.int q3), .val (.int q4), .val (.int (3 : Int32)), .val (.ref b), .val (.int kk), .unset, .unset, .unset] [(.int kk)]))
      refine GoOn.step (fun t₀ k₀ => XS.iconst X74.here hx rfl (hb hby at_66) k₀) ?_
      show GoOn p e below _ (T74.setTop (mkF m 67 #[.val (.int q0), .val (.int q1), .val (.int q2), .val (.int q3), .val (.int q4), .val (.int (3 : Int32)), .val (.ref b), .val (.int kk), .unset, .unset, .unset] [(.int (1 : Int32)), (.int kk)]))
      by_cases k1 : kk = (1 : Int32)
      · refine GoOn.step (fun t₀ k₀ => XS.icmpNo X74.here hx rfl (hb hby at_67) rfl (teq k1).2 k₀) ?_
        show GoOn p e below _ (T74.setTop (mkF m 70 #[.val (.int q0), .val (.int q1), .val (.int q2), .val (.int q3), .val (.int q4), .val (.int (3 : Int32)), .val (.ref b), .val (.int kk), .unset, .unset, .unset] []))
        refine GoOn.step (fun t₀ k₀ => XS.iloadN X74.here hx rfl (hb hby at_70) rfl k₀) ?_
        show GoOn p e below _ (T74.setTop (mkF m 71 #[.val (.int q0), .val (.int q1), .val (.int q2), .val (.int q3), .val (.int q4), .val (.int (3 : Int32)), .val (.ref b), .val (.int kk), .unset, .unset, .unset] [(.int q0)]))
        refine GoOn.step (fun t₀ k₀ => XS.istore X74.here hx rfl (hb hby at_71) rfl (l' := #[.val (.int q0), .val (.int q1), .val (.int q2), .val (.int q3), .val (.int q4), .val (.int (3 : Int32)), .val (.ref b), .val (.int kk), .val (.int q0), .unset, .unset]) rfl k₀) ?_
        show GoOn p e below _ (T74.setTop (mkF m 73 #[.val (.int q0), .val (.int q1), .val (.int q2), .val (.int q3), .val (.int q4), .val (.int (3 : Int32)), .val (.ref b), .val (.int kk), .val (.int q0), .unset, .unset] []))
        refine GoOn.step (fun t₀ k₀ => XS.goto X74.here hx rfl (pc0 := 73) (pc' := 91) rfl (hb hby at_73) (by decide) (by decide) k₀) ?_
        show GoOn p e below _ (T74.setTop (mkF m 91 #[.val (.int q0), .val (.int q1), .val (.int q2), .val (.int q3), .val (.int q4), .val (.int (3 : Int32)), .val (.ref b), .val (.int kk), .val (.int q0), .unset, .unset] []))
        exact Jm _
      · refine GoOn.step (fun t₀ k₀ => XS.icmpYes X74.here hx rfl (pc0 := 67) (pc' := 76) rfl (hb hby at_67) rfl (feq k1).2 (by decide) (by decide) k₀) ?_
        show GoOn p e below _ (T74.setTop (mkF m 76 #[.val (.int q0), .val (.int q1), .val (.int q2), .val (.int q3), .val (.int q4), .val (.int (3 : Int32)), .val (.ref b), .val (.int kk), .unset, .unset, .unset] []))
        refine GoOn.step (fun t₀ k₀ => XS.iload X74.here hx rfl (hb hby at_76) rfl k₀) ?_
        show GoOn p e below _ (T74.setTop (mkF m 78 #[.val (.int q0), .val (.int q1), .val (.int q2), .val (.int q3), .val (.int q4), .val (.int (3 : Int32)), .val (.ref b), .val (.int kk), .unset, .unset, .unset] [(.int kk)]))
        refine GoOn.step (fun t₀ k₀ => XS.iconst X74.here hx rfl (hb hby at_78) k₀) ?_
        show GoOn p e below _ (T74.setTop (mkF m 79 #[.val (.int q0), .val (.int q1), .val (.int q2), .val (.int q3), .val (.int q4), .val (.int (3 : Int32)), .val (.ref b), .val (.int kk), .unset, .unset, .unset] [(.int (2 : Int32)), (.int kk)]))
        by_cases k2 : kk = (2 : Int32)
        · refine GoOn.step (fun t₀ k₀ => XS.icmpNo X74.here hx rfl (hb hby at_79) rfl (teq k2).2 k₀) ?_
          show GoOn p e below _ (T74.setTop (mkF m 82 #[.val (.int q0), .val (.int q1), .val (.int q2), .val (.int q3), .val (.int q4), .val (.int (3 : Int32)), .val (.ref b), .val (.int kk), .unset, .unset, .unset] []))
          refine GoOn.step (fun t₀ k₀ => XS.iloadN X74.here hx rfl (hb hby at_82) rfl k₀) ?_
          show GoOn p e below _ (T74.setTop (mkF m 83 #[.val (.int q0), .val (.int q1), .val (.int q2), .val (.int q3), .val (.int q4), .val (.int (3 : Int32)), .val (.ref b), .val (.int kk), .unset, .unset, .unset] [(.int q1)]))
          refine GoOn.step (fun t₀ k₀ => XS.istore X74.here hx rfl (hb hby at_83) rfl (l' := #[.val (.int q0), .val (.int q1), .val (.int q2), .val (.int q3), .val (.int q4), .val (.int (3 : Int32)), .val (.ref b), .val (.int kk), .val (.int q1), .unset, .unset]) rfl k₀) ?_
          show GoOn p e below _ (T74.setTop (mkF m 85 #[.val (.int q0), .val (.int q1), .val (.int q2), .val (.int q3), .val (.int q4), .val (.int (3 : Int32)), .val (.ref b), .val (.int kk), .val (.int q1), .unset, .unset] []))
          refine GoOn.step (fun t₀ k₀ => XS.goto X74.here hx rfl (pc0 := 85) (pc' := 91) rfl (hb hby at_85) (by decide) (by decide) k₀) ?_
          show GoOn p e below _ (T74.setTop (mkF m 91 #[.val (.int q0), .val (.int q1), .val (.int q2), .val (.int q3), .val (.int q4), .val (.int (3 : Int32)), .val (.ref b), .val (.int kk), .val (.int q1), .unset, .unset] []))
          exact Jm _
        · refine GoOn.step (fun t₀ k₀ => XS.icmpYes X74.here hx rfl (pc0 := 79) (pc' := 88) rfl (hb hby at_79) rfl (feq k2).2 (by decide) (by decide) k₀) ?_
          show GoOn p e below _ (T74.setTop (mkF m 88 #[.val (.int q0), .val (.int q1), .val (.int q2), .val (.int q3), .val (.int q4), .val (.int (3 : Int32)), .val (.ref b), .val (.int kk), .unset, .unset, .unset] []))
          refine GoOn.step (fun t₀ k₀ => XS.iloadN X74.here hx rfl (hb hby at_88) rfl k₀) ?_
          show GoOn p e below _ (T74.setTop (mkF m 89 #[.val (.int q0), .val (.int q1), .val (.int q2), .val (.int q3), .val (.int q4), .val (.int (3 : Int32)), .val (.ref b), .val (.int kk), .unset, .unset, .unset] [(.int q2)]))
          refine GoOn.step (fun t₀ k₀ => XS.istore X74.here hx rfl (hb hby at_89) rfl (l' := #[.val (.int q0), .val (.int q1), .val (.int q2), .val (.int q3), .val (.int q4), .val (.int (3 : Int32)), .val (.ref b), .val (.int kk), .val (.int q2), .unset, .unset]) rfl k₀) ?_
          show GoOn p e below _ (T74.setTop (mkF m 91 #[.val (.int q0), .val (.int q1), .val (.int q2), .val (.int q3), .val (.int q4), .val (.int (3 : Int32)), .val (.ref b), .val (.int kk), .val (.int q2), .unset, .unset] []))
          exact Jm _
set_option maxRecDepth 65536 in
set_option maxHeartbeats 40000000 in
theorem comes_1 {Post : Tables → Env → Array Value → State → Outcome → State → Prop} (hpost : ∀ tb e args s v u, (limb_1_1.after args s (.returned v) u = true ∧ limb_1_2.after args s (.returned v) u = true ∧ True) → FrameEnd s (.returned v) u (Jvm.fieldLocs frame_1_writes args s ++ Jvm.arrayLocs frame_1_arrays args s ++ Jvm.staticLocs frame_1_statics s) 24 128 → Post tb e args s (.returned v) u) :
    ArmFor flags0 classFile x code maxLocals ret World_1 tables_1 room_1 Calls_1 rest_1 Pre_1 Post := by
  intro l hfl _ _ p e ha hc hk s m args below hf hA hF happ hP
  obtain ⟨hcalls, hrest, hpre⟩ := hP
  obtain ⟨-, -, -, hnamed, -, -, -, hat⟩ := (Spec.applies_iff hf).mp happ
  obtain ⟨hg, hn⟩ := and_e (Cond.before_iff.mp (show (Jvm.Cond.and given_1 narrow_1).before args s = true from hpre))
  obtain ⟨g0, r0⟩ := and_e hg
  obtain ⟨g1, r1⟩ := and_e r0
  obtain ⟨g2, r2⟩ := and_e r1
  obtain ⟨g3, r3⟩ := and_e r2
  obtain ⟨g4, r4⟩ := and_e r3
  obtain ⟨w0, w1, w2, w3, w4, rfl⟩ : ∃ w0 w1 w2 w3 w4 : Value, args = #[w0, w1, w2, w3, w4] := by
    have hs : args.size = 5 := by simpa [Cond.value, given_1] using g0
    obtain ⟨L⟩ := args
    match L, hs with
    | [w0, w1, w2, w3, w4], _ => exact ⟨w0, w1, w2, w3, w4, rfl⟩
  have hw := fun d (hd : d ∈ tables_1) => atoms_spec (ws := Jvm.Cond.code x code maxLocals ret :: tables_1) hat d (List.mem_cons_of_mem _ hd)
  have hfit : Fit s := fun {y c} hc i hi => by
    obtain ⟨ha, rfl⟩ := Array.getElem?_eq_some_iff.mp hc
    have q := List.all_eq_true.mp ((Array.all_eq_true_iff_forall_mem.mp hF) _ (Array.getElem_mem ha)) i (List.mem_range.mpr hi)
    simpa [Array.getElem?_eq_getElem hi] using q
  obtain ⟨i0, ei0⟩ := is_v g1
  obtain rfl : w0 = (.int i0) := Option.some.inj ei0
  obtain ⟨i1, ei1⟩ := is_v g2
  obtain rfl : w1 = (.int i1) := Option.some.inj ei1
  obtain ⟨i2, ei2⟩ := is_v g3
  obtain rfl : w2 = (.int i2) := Option.some.inj ei2
  obtain ⟨i3, ei3⟩ := is_v g4
  obtain rfl : w3 = (.int i3) := Option.some.inj ei3
  obtain ⟨i4, ei4⟩ := is_v r4
  obtain rfl : w4 = (.int i4) := Option.some.inj ei4
  obtain ⟨n, o, h1, h2, h3, _, L, rfl, ⟨rfl, N⟩, hq⟩ := law_ok l s _ hw i0 i1 i2 i3 i4 s.heap s.heap.size (Nat.le_refl _) tables_1 p e ha hc hk s m _ below hf ((Spec.applies_iff_loose hf).mp happ).1 ⟨rfl, State.Warmed39.refl s, rfl⟩ trivial
  refine ⟨n, _, h1, h2, h3, hpost _ _ _ _ _ _ ⟨Cond.after_iff.mpr rfl, Cond.after_iff.mpr (eq_i res_at (Term.int_eval (1)) rfl), trivial⟩ ⟨hq.1, hq.2.1, (hq.2.2.sift fun y hy => Or.inr (N y hy)).mono (by decide) (by decide)⟩⟩
theorem main_1_1 : Claimed_1_1 := comes_1 fun _ _ _ _ _ _ h hF => ⟨h.1, hF⟩
theorem main_1_2 : Claimed_1_2 := comes_1 fun _ _ _ _ _ _ h hF => ⟨h.2.1, hF⟩
end Jvm.Pilot.@@N@@
namespace Jvm.Pilot.@@N@@
open Jvm Jvm.ClassFile Sem Op Lib Jvm.Free Jvm.Stand Jvm.Pilot.@@N@@.Jvm.D
/-! MADE BY PROGRAM (witnessworld.py) out of the Statement's table words and the real class files: 9 classes; the members and pool entries that the words name. The judged class is class 1, her method 1. -/
namespace start1
open Jvm.ClassFile
def u (s : String) : CpInfo := .utf8 (stringToUtf16 s)
/-- a pool by its gaps: so many unusable entries, then the entry; so many at the end -/
def gap : Nat → List CpInfo → List CpInfo
  | 0, r => r
  | n + 1, r => .unusable :: gap n r
def poolList (es : List (Nat × CpInfo)) (last : Nat) : List CpInfo := es.foldr (fun e r => gap e.1 (e.2 :: r)) (gap last [])
def pool (es : List (Nat × CpInfo)) (last : Nat) : Array CpInfo := ⟨poolList es last⟩
def fileOf (pool : Array CpInfo) (this : Nat) (attrs : Array Attribute := #[]) (ms : Array MethodInfo := #[]) (fl : Nat := 33) (sup : Nat := 0) (ifs : Array Nat := #[]) (fds : Array FieldInfo := #[]) : ClassFile where
  minorVersion := 0
  majorVersion := 65
  constantPool := pool
  accessFlags := fl
  thisClass := this
  superClass := sup
  interfaces := ifs
  fields := fds
  methods := ms
  attributes := attrs
def plain (name : String) (sup : Option ClassId) : Class where
  name := name
  kind := .ordinary
  loader := none
  accessFlags := 33
  super := sup
  interfaces := #[]
  cf := none
  fields := #[]
  methods := #[]
  instanceTypes := #[]
  staticTypes := #[]
  resolved := #[]
  callSites := []
  init := .initialized
  statics := none
  mirror := none

def pool0 : Array CpInfo := pool [(5, u "<init>"), (0, u "()V"), (1, .class_ 10), (1, u "java/lang/Object"), (85, u "clone"), (0, u "()Ljava/lang/Object;")] 26

def k0c0 : Code := { maxStack := 0, maxLocals := 1, code := object_method_1_code, exceptionTable := #[], attributes := #[] }
def k0m0 : Method := { name := "<init>", desc := "()V", sig := { parameters := [], returnType := none }, accessFlags := 1, code := some k0c0 }
def k0m1 : Method := { name := "clone", desc := "()Ljava/lang/Object;", sig := { parameters := [], returnType := some (.object "java/lang/Object") }, accessFlags := 260, code := none }
/-- java/lang/Object -/
def k0 : Class := { plain "java/lang/Object" none with
  accessFlags := 33
  interfaces := #[]
  cf := some (fileOf pool0 8 #[] #[{ accessFlags := 1, nameIndex := 5, descriptorIndex := 6, attributes := #[] }, { accessFlags := 260, nameIndex := 96, descriptorIndex := 97, attributes := #[] }] 33 0 #[] #[])
  fields := #[]
  methods := #[k0m0, k0m1]
  instanceTypes := #[]
  staticTypes := #[]
  resolved := Array.replicate 124 none
  statics := none }

def pool1 : Array CpInfo := pool [(2, .class_ 4), (1, u "java/lang/Object"), (0, u "<init>"), (0, u "()V"), (0, .class_ 8), (0, u "com/example/tidewire/tidewire/handshake/AuthRequest"), (0, .methodref 7 10), (0, .nameAndType 5 11), (0, u "(I[I[B)V"), (0, .methodref 7 13), (0, .nameAndType 14 15), (0, u "acceptsMode"), (0, u "(I)Z"), (0, .class_ 17), (0, u "com/example/tidewire/tidewire/handshake/AuthRequestAcceptsModePinLaw"), (2, u "law"), (0, u "(IIIII)Z")] 5

def k1m0 : Method := { name := "<init>", desc := "()V", sig := { parameters := [], returnType := none }, accessFlags := 2, code := none }
def k1c1 : Code := { maxStack := 5, maxLocals := 11, code := code, exceptionTable := #[], attributes := #[] }
def k1m1 : Method := { name := "law", desc := "(IIIII)Z", sig := { parameters := [.int, .int, .int, .int, .int], returnType := some .boolean }, accessFlags := 9, code := some k1c1 }
/-- com/example/tidewire/tidewire/handshake/AuthRequestAcceptsModePinLaw -/
def k1 : Class := { plain "com/example/tidewire/tidewire/handshake/AuthRequestAcceptsModePinLaw" (some 0) with
  accessFlags := 49
  interfaces := #[]
  cf := some (fileOf pool1 16 #[] #[{ accessFlags := 2, nameIndex := 5, descriptorIndex := 6, attributes := #[] }, { accessFlags := 9, nameIndex := 20, descriptorIndex := 21, attributes := #[] }] 49 2 #[] #[])
  fields := #[]
  methods := #[k1m0, k1m1]
  instanceTypes := #[]
  staticTypes := #[]
  resolved := Array.replicate 27 none
  statics := none }

def pool2 : Array CpInfo := pool [(1, .methodref 2 3), (0, .class_ 4), (0, .nameAndType 5 6), (0, u "java/lang/Object"), (0, u "<init>"), (0, u "()V"), (0, .fieldref 8 9), (0, .class_ 10), (0, .nameAndType 11 12), (0, u "com/example/tidewire/tidewire/handshake/AuthRequest"), (0, u "method"), (0, u "I"), (0, .methodref 14 15), (0, .class_ 16), (0, .nameAndType 17 18), (0, u "[I"), (0, u "clone"), (0, u "()Ljava/lang/Object;"), (0, .fieldref 8 20), (0, .nameAndType 21 16), (0, u "modes"), (0, .methodref 23 15), (0, .class_ 24), (0, u "[B"), (0, .fieldref 8 26), (0, .nameAndType 27 24), (0, u "methodPayload"), (21, u "(I[I[B)V"), (26, u "acceptsMode"), (0, u "(I)Z")] 3

def k2c0 : Code := { maxStack := 2, maxLocals := 4, code := prog_48_method_1_code, exceptionTable := #[], attributes := #[] }
def k2m0 : Method := { name := "<init>", desc := "(I[I[B)V", sig := { parameters := [.int, (.array .int), (.array .byte)], returnType := none }, accessFlags := 1, code := some k2c0 }
def k2c1 : Code := { maxStack := 2, maxLocals := 6, code := prog_48_method_6_code, exceptionTable := #[], attributes := #[] }
def k2m1 : Method := { name := "acceptsMode", desc := "(I)Z", sig := { parameters := [.int], returnType := some .boolean }, accessFlags := 1, code := some k2c1 }
/-- com/example/tidewire/tidewire/handshake/AuthRequest -/
def k2 : Class := { plain "com/example/tidewire/tidewire/handshake/AuthRequest" (some 0) with
  accessFlags := 49
  interfaces := #[]
  cf := some (fileOf pool2 8 #[] #[{ accessFlags := 1, nameIndex := 5, descriptorIndex := 49, attributes := #[] }, { accessFlags := 1, nameIndex := 76, descriptorIndex := 77, attributes := #[] }] 49 2 #[] #[{ accessFlags := 18, nameIndex := 11, descriptorIndex := 12, attributes := #[] }, { accessFlags := 18, nameIndex := 21, descriptorIndex := 16, attributes := #[] }, { accessFlags := 18, nameIndex := 27, descriptorIndex := 24, attributes := #[] }])
  fields := #[{ name := "method", type := .int, accessFlags := 18, slot := 0, constantValue := 0 }, { name := "modes", type := (.array .int), accessFlags := 18, slot := 1, constantValue := 0 }, { name := "methodPayload", type := (.array .byte), accessFlags := 18, slot := 2, constantValue := 0 }]
  methods := #[k2m0, k2m1]
  instanceTypes := #[.int, (.array .int), (.array .byte)]
  staticTypes := #[]
  resolved := Array.replicate 81 none
  statics := none }

def pool3 : Array CpInfo := pool [(1, .class_ 2), (0, u "java/lang/Cloneable"), (0, .class_ 4), (0, u "java/lang/Object")] 2

/-- java/lang/Cloneable -/
def k3 : Class := { plain "java/lang/Cloneable" (some 0) with
  accessFlags := 1537
  interfaces := #[]
  cf := some (fileOf pool3 1 #[] #[] 1537 3 #[] #[])
  fields := #[]
  methods := #[]
  instanceTypes := #[]
  staticTypes := #[]
  resolved := Array.replicate 7 none
  statics := none }

def pool4 : Array CpInfo := pool [(1, u "java/io/Serializable"), (0, .class_ 1), (0, u "java/lang/Object"), (0, .class_ 3)] 3

/-- java/io/Serializable -/
def k4 : Class := { plain "java/io/Serializable" (some 0) with
  accessFlags := 1537
  interfaces := #[]
  cf := some (fileOf pool4 2 #[] #[] 1537 4 #[] #[])
  fields := #[]
  methods := #[]
  instanceTypes := #[]
  staticTypes := #[]
  resolved := Array.replicate 8 none
  statics := none }

/-- the primitive byte -/
def k5 : Class := { plain "byte" none with kind := .primitive 'B', accessFlags := 0x411 }
/-- [B -/
def k6 : Class := { plain "[B" (some 0) with kind := .array 5 .byte, interfaces := #[3, 4], accessFlags := 1041 }

/-- the primitive int -/
def k7 : Class := { plain "int" none with kind := .primitive 'I', accessFlags := 0x411 }
/-- [I -/
def k8 : Class := { plain "[I" (some 0) with kind := .array 7 .int, interfaces := #[3, 4], accessFlags := 1041 }

def heap : Heap := #[]
def classes : Array Class := #[k0, k1, k2, k3, k4, k5, k6, k7, k8]
def interned : List (Array UInt16 × Addr) := []
def slotsUsed : Nat := 0
def theMethod : MethodId := ⟨1, 1⟩
def args0 : Array Value := #[.int 50, .int 7, .int 2, .int 3, .int 6]
def aboutOver (below : List Frame) : State where
  vm := { classes := classes, interned := interned.toArray }
  heap := heap
  slotsUsed := slotsUsed
  threads := #[{ frames := .invoking theMethod args0 :: below }]
def below0 : List Frame := [.native { method := ⟨0, 0⟩, args := #[] }]
def about1 : State := aboutOver below0
def p0 : Program := .bare "" "" ""
def e0 : Env := launch0.env 0 0 0
theorem w_frames : about1.frames = Frame.invoking theMethod args0 :: below0 := rfl
set_option maxRecDepth 65536 in
theorem w_args : argsFit about1.vm theMethod args0 = true := by decide +kernel
set_option maxRecDepth 65536 in
theorem w_heap : heapFits about1 = true := by decide +kernel
set_option maxRecDepth 65536 in
theorem w_runnable : about1.curStatus? = some .runnable := by decide +kernel
set_option maxRecDepth 65536 in
theorem w_alone : about1.alone = true := by decide +kernel
set_option maxRecDepth 65536 in
theorem w_named : about1.methodNamed? x = some theMethod := by decide +kernel
set_option maxRecDepth 65536 in
theorem w_hears : about1.hears theMethod below0 = true := by decide +kernel
set_option maxRecDepth 65536 in
theorem w_ripe : about1.ripe theMethod args0 below0 = true := by decide +kernel
theorem w_running : about1.status = .running := rfl
set_option maxRecDepth 65536 in
theorem w_room : about1.hasRoom e0.platform room_1 = true :=
  launch0.hasRoom_least _ room_1 (by decide +kernel) (by decide +kernel) (by decide +kernel) (by decide +kernel) (by decide +kernel) (by decide +kernel)
theorem allAtoms_all (ts : List Jvm.Cond) (a : Array Jvm.Value) (st : Jvm.State) : (allAtoms ts).before a st = ts.all (fun c => c.before a st) := by
  induction ts with
  | nil => rfl
  | cons c t ih =>
    show (Jvm.Cond.and c (allAtoms t)).before a st = _
    rw [Jvm.Cond.before_and, ih, List.all_cons]
def words1 : List Jvm.Cond := Jvm.Cond.code x code maxLocals ret :: tables_1
/-- a 'code' word, met by the world's own term for the bytes: nothing is compared byte by byte -/
theorem code_word {y : MethodName} {bytes : ByteArray} {mx : Nat} {rt : Option FieldType} {a : Array Value} {s : State} {m : MethodId} {meth : Method} {c : Code} (h1 : s.methodNamed? y = some m) (h2 : s.vm.method? m = some meth) (h3 : meth.code = some c) (h4 : c.code = bytes)
    (h5 : (c.maxLocals == mx && c.exceptionTable.isEmpty && decide (c.maxStack ≤ mostOperands) && decide (meth.sig.returnType = rt) && !meth.locks && decide (parseMethodDescriptor y.desc = some meth.sig)) = true) : (Jvm.Cond.code y bytes mx rt).before a s = true := by
  simp only [Bool.and_eq_true, beq_iff_eq, Bool.not_eq_true', decide_eq_true_eq] at h5
  obtain ⟨⟨⟨⟨⟨g1, g2⟩, g3⟩, g4⟩, g5⟩, g6⟩ := h5
  simp [Cond.before, Cond.holds, Cond.value, h1, h2, h3, h4, g1, g2, g3, g4, g5, g6]
def isCode : Jvm.Cond → Bool
  | .code _ _ _ _ => true
  | _ => false
theorem all_split {L : List Jvm.Cond} {P : Jvm.Cond → Bool} (h1 : L.all (fun c => isCode c || P c) = true) (h2 : ∀ c ∈ L.filter isCode, P c = true) : L.all P = true := by
  refine List.all_eq_true.mpr fun c hc => ?_
  have h := List.all_eq_true.mp h1 c hc
  rcases Bool.eq_false_or_eq_true (isCode c) with hi | hi
  · exact h2 c (List.mem_filter.mpr ⟨hc, hi⟩)
  · simpa [hi] using h
set_option maxRecDepth 65536 in
theorem w_c0 : (Jvm.Cond.code x code maxLocals ret).before args0 about1 = true := code_word (m := ⟨1, 1⟩) (meth := k1m1) (c := k1c1) (by decide +kernel) rfl rfl rfl (by decide +kernel)
set_option maxRecDepth 65536 in
theorem w_c1 : (Jvm.Cond.code ({ cls := "com/example/tidewire/tidewire/handshake/AuthRequest", name := "<init>", desc := "(I[I[B)V" } : Jvm.MethodName) prog_48_method_1_code (4 : Nat) (Option.none : Option Jvm.ClassFile.FieldType)).before args0 about1 = true := code_word (m := ⟨2, 0⟩) (meth := k2m0) (c := k2c0) (by decide +kernel) rfl rfl rfl (by decide +kernel)
set_option maxRecDepth 65536 in
theorem w_c2 : (Jvm.Cond.code ({ cls := "java/lang/Object", name := "<init>", desc := "()V" } : Jvm.MethodName) object_method_1_code (1 : Nat) (Option.none : Option Jvm.ClassFile.FieldType)).before args0 about1 = true := code_word (m := ⟨0, 0⟩) (meth := k0m0) (c := k0c0) (by decide +kernel) rfl rfl rfl (by decide +kernel)
set_option maxRecDepth 65536 in
theorem w_c3 : (Jvm.Cond.code ({ cls := "com/example/tidewire/tidewire/handshake/AuthRequest", name := "acceptsMode", desc := "(I)Z" } : Jvm.MethodName) prog_48_method_6_code (6 : Nat) (Option.some Jvm.ClassFile.FieldType.boolean)).before args0 about1 = true := code_word (m := ⟨2, 1⟩) (meth := k2m1) (c := k2c1) (by decide +kernel) rfl rfl rfl (by decide +kernel)
def codes1 : List Jvm.Cond := [Jvm.Cond.code x code maxLocals ret, Jvm.Cond.code ({ cls := "com/example/tidewire/tidewire/handshake/AuthRequest", name := "<init>", desc := "(I[I[B)V" } : Jvm.MethodName) prog_48_method_1_code (4 : Nat) (Option.none : Option Jvm.ClassFile.FieldType), Jvm.Cond.code ({ cls := "java/lang/Object", name := "<init>", desc := "()V" } : Jvm.MethodName) object_method_1_code (1 : Nat) (Option.none : Option Jvm.ClassFile.FieldType), Jvm.Cond.code ({ cls := "com/example/tidewire/tidewire/handshake/AuthRequest", name := "acceptsMode", desc := "(I)Z" } : Jvm.MethodName) prog_48_method_6_code (6 : Nat) (Option.some Jvm.ClassFile.FieldType.boolean)]
set_option maxRecDepth 65536 in
theorem codes_eq : words1.filter isCode = codes1 := rfl
theorem w_codes : ∀ c ∈ words1.filter isCode, c.before args0 about1 = true := by
  rw [codes_eq]
  intro c hc
  simp only [codes1, List.mem_cons, List.not_mem_nil, or_false] at hc
  rcases hc with rfl | rfl | rfl | rfl
  · exact w_c0
  · exact w_c1
  · exact w_c2
  · exact w_c3
set_option maxRecDepth 65536 in
theorem w_t1 : (words1.take 24).all (fun c => isCode c || c.before args0 about1) = true := by decide +kernel
set_option maxRecDepth 65536 in
theorem w_t2 : (words1.drop 24).all (fun c => isCode c || c.before args0 about1) = true := by decide +kernel
theorem w_tables : (allAtoms (Jvm.Cond.code x code maxLocals ret :: tables_1)).before args0 about1 = true := by
  rw [allAtoms_all]
  show words1.all (fun c => c.before args0 about1) = true
  refine all_split ?_ w_codes
  rw [← List.take_append_drop 24 words1, List.all_append, w_t1, w_t2]
  rfl
set_option maxRecDepth 65536 in
theorem w_case : (Jvm.Cond.and given_1 narrow_1).before args0 about1 = true := by decide +kernel
theorem w_applies : (headSpec (Jvm.Cond.code x code maxLocals ret :: tables_1) room_1).applies x e0.platform about1 = true :=
  (Spec.applies_iff w_frames).mpr ⟨w_running, w_runnable, w_alone, w_named, w_hears, w_ripe, w_room, w_tables⟩
theorem atStart : AtStart classFile x code maxLocals ret World_1 tables_1 room_1 Calls_1 rest_1 Pre_1 launch0 p0 e0 about1 theMethod args0 below0 :=
  ⟨lists_1, trivial, launch0.admits_env _ _ _, launch0.least_env, fairChoices_fair.cas, fairChoices_fair.clock, w_frames, w_args, w_heap, w_applies, trivial, trivial, w_case⟩
end start1
theorem witness_1 : WitnessClaimed_1 := ⟨start1.p0, start1.e0, start1.about1, start1.theMethod, start1.args0, start1.below0, start1.atStart⟩
end Jvm.Pilot.@@N@@
